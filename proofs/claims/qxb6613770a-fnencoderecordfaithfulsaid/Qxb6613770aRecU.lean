import Derived.Test.Qxb6613770aRecT
import Derived.Test.Qxb6613770aRecS
namespace Go.Proofs.Qxb6613770a
set_option linter.unusedVariables false
set_option linter.unusedSimpArgs false
open Go.RowKit

theorem info35 : (Try.prog.info? 35).map (fun i => (i.zero, i.size, i.bytes)) = some (some (.slice none 0 0), 1, 24) := by kernel_rfl

theorem bs_of_owns {w : World} {v : Value} {n : Nat} {bs : List UInt8} (h : w.ownsRow 0 5 1 v n (Lib.byteCells bs)) : ∃ a c, v = .slice a n c ∧ Bs w a n c bs := by
  have hl : bs.length = n := by have := h.1; simpa [Lib.byteCells] using this
  by_cases h0 : n = 0
  · subst h0
    have hb : bs = [] := List.eq_nil_of_length_eq_zero hl
    subst hb
    rcases h.2 with ⟨rfl, h1⟩ | ⟨g, cap, cur, rfl, _⟩
    · exact ⟨none, 0, rfl, .inl rfl, rfl, fun _ => ⟨rfl, rfl⟩⟩
    · exact ⟨_, cap, rfl, .inl rfl, rfl, fun h => by cases h⟩
  · obtain ⟨g, cap, rfl, _⟩ := owns_some h (by omega)
    exact ⟨_, cap, rfl, (owns_bytes h).1, hl, fun h => by cases h⟩

/-- The first k keys are copied into the row in block g; no block below lo is led to. -/
structure Copied (lo : Nat) (w : World) (g n : Nat) (ks : List (List UInt8)) (k : Nat) (vs : List Value) : Prop where
  own : w.ownsRow 0 35 1 (.slice (some ⟨g, 0, none⟩) n n) n vs
  each : ∀ j (hj : j < ks.length), j < k → ∃ v, vs[j]? = some v ∧ w.ownsRow 0 5 1 v ks[j].length (Lib.byteCells ks[j]) ∧ v.ownBlock ≠ some g ∧ ∀ i, v.ownBlock = some i → lo ≤ i
  low : lo ≤ g

theorem Copied.kept {lo : Nat} {S : Nat → Prop} {w w' : World} {g n : Nat} {ks : List (List UInt8)} {k : Nat} {vs : List Value} (h : Copied lo w g n ks k vs) (hk : Kept S w w') (hS : ∀ i, lo ≤ i → ¬ S i) : Copied lo w' g n ks k vs :=
  ⟨hk.owns h.own (fun i hi => hS i (by simp [Value.ownBlock] at hi; have := h.low; omega)), fun j hj hjk => by
    obtain ⟨v, h1, h2, h3, h4⟩ := h.each j hj hjk
    exact ⟨v, h1, hk.owns h2 (fun i hi => hS i (h4 i hi)), h3, h4⟩, h.low⟩

theorem Copied.next {lo : Nat} {w : World} {g n : Nat} {ks : List (List UInt8)} {k : Nat} {vs : List Value} (h : Copied lo w g n ks k vs) (hk : k < ks.length) (hn : vs.length = n) (hkn : k < n) {v : Value} (hv : w.ownsRow 0 5 1 v ks[k].length (Lib.byteCells ks[k])) (hg : v.ownBlock ≠ some g) (hlo : ∀ i, v.ownBlock = some i → lo ≤ i) : Copied lo (w.setCell ⟨g, k, none⟩ v) g n ks (k + 1) (vs.set k v) := by
  have hset : Kept (fun i => i = g) w (w.setCell ⟨g, k, none⟩ v) := (Kept.refl (fun i => i = g) w).setCell (p := ⟨g, k, none⟩) (fun _ => rfl) v
  refine ⟨(h.own.stored k v).1, fun j hj hjk => ?_, h.low⟩
  by_cases he : j = k
  · subst he
    exact ⟨v, by rw [List.getElem?_set_self (by omega)], hset.owns hv (fun i hi e => by subst e; exact hg hi), hg, hlo⟩
  · obtain ⟨u, h1, h2, h3, h4⟩ := h.each j hj (by omega)
    exact ⟨u, by rw [List.getElem?_set_ne (by omega)]; exact h1, hset.owns h2 (fun i hi e => by subst e; exact h3 hi), h3, h4⟩

theorem Copied.keys {lo : Nat} {w : World} {g n : Nat} {ks : List (List UInt8)} {vs : List Value} (h : Copied lo w g n ks n vs) (hn : ks.length = n) : Keys w (some ⟨g, 0, none⟩) n n ks := by
  refine ⟨.inr ⟨g, 0, rfl, fun j hj => ?_⟩, hn, fun h => by cases h⟩
  obtain ⟨v, h1, h2, _⟩ := h.each j hj (by omega)
  obtain ⟨a, c, rfl, hb⟩ := bs_of_owns h2
  exact ⟨a, _, c, by rw [Nat.zero_add, h.own.cellAt j (by omega), h1], hb⟩

theorem bs_owned {w : World} {a : Option Addr} {n c m : Nat} {bs : List UInt8} (h : w.ownsRow 0 5 1 (.slice a n c) m (Lib.byteCells bs)) : Bs w a n c bs := by
  obtain ⟨a', c', e, hb⟩ := bs_of_owns h
  simp only [Value.slice.injEq] at e
  obtain ⟨rfl, rfl, rfl⟩ := e
  exact hb

/-- What the last statement of zzToTxn loads. -/
def SX (b o : Nat) (t : Tx) (va : Option Addr) (vn vc : Nat) (w' : World) : Prop :=
  w'.cell? ⟨b, o, none⟩ = some (.int .u64 t.id.slot) ∧ w'.cell? ⟨b, o + 1, none⟩ = some (.int .u64 t.id.br) ∧ w'.cell? ⟨b, o + 2, none⟩ = some (.string t.id.bn) ∧ w'.cell? ⟨b, o + 4, none⟩ = some (.bool t.com) ∧ w'.cell? ⟨b, o + 5, none⟩ = some (.bool t.del) ∧ w'.cell? ⟨b, o + 6, none⟩ = some (.slice va vn vc) ∧ w'.cell? ⟨b, o + 7, none⟩ = some (.int .u64 t.ver.slot) ∧ w'.cell? ⟨b, o + 8, none⟩ = some (.int .u64 t.ver.br) ∧ w'.cell? ⟨b, o + 9, none⟩ = some (.string t.ver.bn)
theorem SX_kept {b o : Nat} {t : Tx} {va : Option Addr} {vn vc : Nat} {w w' : World} (hk : Kept (fun _ => False) w w') (h : SX b o t va vn vc w) : SX b o t va vn vc w' := by
  obtain ⟨a0, a1, a2, a3, a4, a5, a6, a7, a8⟩ := h
  have f : ¬ False := fun h => h
  exact ⟨hk.cell' a0 f, hk.cell' a1 f, hk.cell' a2 f, hk.cell' a3 f, hk.cell' a4 f, hk.cell' a5 f, hk.cell' a6 f, hk.cell' a7 f, hk.cell' a8 f⟩
theorem SX_drew {b o : Nat} {t : Tx} {va : Option Addr} {vn vc : Nat} {w : World} (h : SX b o t va vn vc w) : SX b o t va vn vc w.drew := h
theorem SX_alloc {b o : Nat} {t : Tx} {va : Option Addr} {vn vc : Nat} {w : World} {x : Obj} (h : SX b o t va vn vc w) : SX b o t va vn vc (w.alloc x) := SX_kept ((Kept.refl (fun _ => False) w).alloc x) h

/-- What zzToTxn gives: it leads to new blocks alone. -/
def GaveTxn (T : Option Tx) (w : World) (e : Ending) (w' : World) : Prop := ∃ tp', e = .returned (.pointer tp') ∧ (∀ w'', Kept (fun i => i < w.heap.size) w' w'' → TxnAt w'' tp' T) ∧ Kept (fun _ => False) w w'

theorem txAt_kept {S : Nat → Prop} {w w' : World} {b : Nat} {t : Tx} {ka : Option Addr} {kn kc : Nat} {va : Option Addr} {vn vc : Nat} (hk : Kept S w w') (hS : ¬ S b)
    (a0 : w.cell? ⟨b, 0, none⟩ = some (.int .u64 t.id.slot)) (a1 : w.cell? ⟨b, 1, none⟩ = some (.int .u64 t.id.br)) (a2 : w.cell? ⟨b, 2, none⟩ = some (.string t.id.bn)) (a3 : w.cell? ⟨b, 3, none⟩ = some (.slice ka kn kc)) (a4 : w.cell? ⟨b, 4, none⟩ = some (.bool t.com)) (a5 : w.cell? ⟨b, 5, none⟩ = some (.bool t.del)) (a6 : w.cell? ⟨b, 6, none⟩ = some (.slice va vn vc)) (a7 : w.cell? ⟨b, 7, none⟩ = some (.int .u64 t.ver.slot)) (a8 : w.cell? ⟨b, 8, none⟩ = some (.int .u64 t.ver.br)) (a9 : w.cell? ⟨b, 9, none⟩ = some (.string t.ver.bn))
    (hK : Keys w' ka kn kc t.keys) (hV : Bs w' va vn vc t.val) : TxnAt w' (some ⟨b, 0, none⟩) (some t) := by
  refine ⟨b, 0, ka, kn, kc, va, vn, vc, rfl, ⟨⟨?_, ?_, ?_⟩, ?_, hK, ?_, ?_, ?_, hV, ⟨?_, ?_, ?_⟩⟩⟩
  · exact hk.cell' a0 hS
  · exact hk.cell' a1 hS
  · exact hk.cell' a2 hS
  · exact hk.cell' a3 hS
  · exact hk.cell' a4 hS
  · exact hk.cell' a5 hS
  · exact hk.cell' a6 hS
  · exact hk.cell' a7 hS
  · exact hk.cell' a8 hS
  · exact hk.cell' a9 hS

end Go.Proofs.Qxb6613770a
