import Derived.Test.Qxb6613770aReader
import Derived.Laws.CopyOwn
import Derived.Lib.SliceRun
namespace Go.Proofs.Qxb6613770a
set_option linter.unusedVariables false
set_option linter.unusedSimpArgs false
open Go.RowKit

theorem sz5 : (Try.prog.info? 5).map (·.size) = some 1 := by kernel_rfl

theorem byteCells_one (bs : List UInt8) : ∀ v ∈ Lib.byteCells bs, v.oneCell' = true := by
  intro v hv
  simp only [Lib.byteCells, List.mem_map] at hv
  obtain ⟨b, _, rfl⟩ := hv
  rfl

theorem byteCells_len (bs : List UInt8) : (Lib.byteCells bs).length = bs.length := by simp [Lib.byteCells]

theorem splice_all {α : Type} (L cs : List α) (h : L.length = cs.length) : splice L 0 cs = cs := by
  simp [splice, ← h]

theorem owns_block {w : World} {g n cap : Nat} {e : TypeId} {xs : List Value} (h : w.ownsRow 0 e 1 (.slice (some ⟨g, 0, none⟩) n cap) n xs) : ∃ cur : List Value, w.heap[g]? = some (.cells cur.toArray e (0, 0)) ∧ cur.length = cap := by
  rcases h.2 with ⟨h', _⟩ | ⟨g', cap', cur, h', _, hg, _, _, hcs, _⟩
  · simp at h'
  · simp only [Value.slice.injEq, Option.some.injEq, Addr.mk.injEq, and_true, true_and] at h'
    obtain ⟨rfl, rfl⟩ := h'
    exact ⟨cur.toList, by simpa using hg, by simpa using hcs⟩

theorem bytes_src {w : World} {x : Addr} {bs : List UInt8} (hb : BytesAt w (some x) bs) (hp : 0 < (Lib.byteCells bs).length) : ∀ j v, (Lib.byteCells bs)[j]? = some v → w.cell? (x.add j) = some v := by
  intro j v hv
  rcases hb with hb | ⟨b, off, e, g⟩
  · subst hb; simp [Lib.byteCells] at hp
  · simp at e
    subst e
    have hj : j < bs.length := by
      have := (List.getElem?_eq_some_iff.1 hv).1
      simpa [Lib.byteCells] using this
    rw [Addr.add_lit, g j hj]
    simp [Lib.byteCells, hj] at hv
    rw [← hv]

theorem BytesAt.kept {S : Nat → Prop} {w w' : World} {a : Option Addr} {bs : List UInt8} (h : BytesAt w a bs) (hk : Kept S w w') (hS : ∀ b, (∃ o, a = some ⟨b, o, none⟩) → ¬ S b) : BytesAt w' a bs := by
  rcases h with h | ⟨b, off, rfl, g⟩
  · exact .inl h
  · exact .inr ⟨b, off, rfl, fun j hj => hk.cell' (g j hj) (hS b ⟨off, rfl⟩)⟩

/-- A whole row of bytes, owned. -/
theorem owns_of_block {w : World} {g n : Nat} {e : TypeId} {xs : List Value} (hg : w.heap[g]? = some (.cells xs.toArray e (0, 0))) (hn : xs.length = n) (hm : n ≤ maxLen) : w.ownsRow 0 e 1 (.slice (some ⟨g, 0, none⟩) n n) n xs :=
  ⟨by simpa using hn, .inr ⟨g, n, xs.toArray, rfl, Nat.zero_le _, hg, Nat.le_refl _, hm, by simpa using hn, by simp [← hn]⟩⟩

set_option maxHeartbeats 2000000 in
set_option maxRecDepth 100000 in
/-- zzCopyBytes. -/
theorem copy_any (a : Option Addr) (n c : Nat) (bs : List UInt8) (w : World) (hb : BytesAt w a bs) (hn : bs.length = n) (hnil : a = none → n = 0 ∧ c = 0) (hlim : n ≤ 140737488355328) :
    Calls Try.prog 34 #[.slice a n c] w fun e w' => ∃ v', e = .returned v' ∧ w'.ownsRow 0 5 1 v' n (Lib.byteCells bs) ∧ Kept (fun _ => False) w w' ∧ ∀ k, v'.ownBlock = some k → w.heap.size ≤ k := by
  have q35 : ∀ (w : World) (a : Option Addr) (n c n' c' : Nat), (binOp .eql 35 (.slice a n c) (.slice none n' c')).run Try.prog w = .ok (.bool a.isNone) w := fun w a n c n' c' => Lib.run_eql_slice_nil w _ _ a n c n' c' Try.underlying35
  obtain ⟨i0, hi, hz0, hz1, hz2⟩ := info_parts info5
  cases a with
  | none =>
    obtain ⟨rfl, rfl⟩ := hnil rfl
    obtain rfl : bs = [] := List.eq_nil_of_length_eq_zero hn
    clear hn
    go_enter Try.func34, Try.ntmps34
    go_wp2
    go_ret
    exact ⟨_, rfl, World.ownsRow_nil _ _ _ _, Kept.refl _ _, by intro k hk; simp [Value.ownBlock] at hk⟩
  | some x =>
    have HN : Hid (bs.length = n) := hn
    clear hn hnil
    go_enter Try.func34, Try.ntmps34
    go_wp2_with (at_make; refine wpList_make_full _ rfl _ _ 35 rfl 0 5 i0 (.int .u8 0) 1 Try.underlying35 hi hz0 hz1 _ _ _ _ n rfl rfl rfl rfl ?b1 ?b2 ?b3 ?_)
    case b1 => rw [hz2]; omega
    case b2 => unfold maxLen; omega
    case b3 => omega
    intro w1 hown hgrow
    obtain ⟨cur, hg, hcl⟩ := owns_block hown
    have HCL : Hid (cur.length = n) := hcl
    have HG : Hid (w1.heap[w.heap.size]? = some (.cells cur.toArray 5 (0, 0))) := hg
    have hk1 : Kept (fun _ => False) w w1 := (Kept.refl _ w).grown hgrow (by intro k hk; cases hk)
    have hb1 : BytesAt w1 (some x) bs := hb.kept hk1 (fun _ _ h => h)
    have hbl : Below w.heap.size w1 w1 := Below.refl _ _
    clear hg hcl hown
    go_wp2_with (refine wpList_copy_splice rfl (.tmp 9) (.tmp 10) 35 35 rfl 5 Try.underlying35 sz5 _ _ _ _ _ _ rfl rfl w.heap.size 0 cur 5 HG.out (Lib.byteCells bs) ?d1 ?d2 ?d3 (byteCells_one bs) w.heap.size w1 hbl (Nat.le_refl _) ?_)
    case d1 => rw [byteCells_len, HN.out]; simp
    case d2 => intro hp; exact bytes_src hb1 hp
    case d3 => rw [byteCells_len, HN.out, HCL.out]; simp
    intro w2 HG2 hB2
    go_wp2
    go_ret
    have hg2 := HG2.out
    rw [splice_all _ _ (by rw [byteCells_len, HN.out, HCL.out])] at hg2
    refine ⟨_, rfl, owns_of_block hg2 (by rw [byteCells_len, HN.out]) (by unfold maxLen; omega), ?_, ?_⟩
    · exact hk1.trans (Kept.ofBelow (S := fun k => w.heap.size ≤ k) hB2 (fun k h _ => h)) (fun i hi h => by omega)
    · intro k hk; simp [Value.ownBlock] at hk; omega

/-- A new encoder over an owned buffer. -/
theorem enc_new {w : World} {sv : Value} {n : Nat} {bs : List UInt8} (h : w.ownsRow 0 5 1 sv n (Lib.byteCells bs)) (hn : bs.length = n) : EncAt (w.alloc (.cells #[sv] 102)) w.heap.size sv bs := by
  subst hn
  refine ⟨heap_alloc_new w _, h.alloc _, fun e => ?_⟩
  have := (h.lt _ e).2
  omega

theorem BytesAt.below {w w' : World} {a : Option Addr} {bs : List UInt8} (h : BytesAt w a bs) (hb : Below w.heap.size w w') : BytesAt w' a bs := by
  rcases h with h | ⟨b, off, rfl, g⟩
  · exact .inl h
  · exact .inr ⟨b, off, rfl, fun j hj => by rw [hb.cell (World.block_lt_of_cell? w _ (g j hj))]; exact g j hj⟩

/-- What an owned row shows. -/
theorem owns_bytes {w : World} {g n cap : Nat} {bs : List UInt8} (h : w.ownsRow 0 5 1 (.slice (some ⟨g, 0, none⟩) n cap) n (Lib.byteCells bs)) : BytesAt w (some ⟨g, 0, none⟩) bs ∧ bs.length = n ∧ n ≤ cap ∧ cap ≤ maxLen := by
  have hl : bs.length = n := by have := h.1; simpa [Lib.byteCells] using this
  refine ⟨.inr ⟨g, 0, rfl, fun j hj => ?_⟩, hl, ?_⟩
  · rw [Nat.zero_add, h.cellAt j (by omega)]
    simp [Lib.byteCells, hj]
  · rcases h.2 with ⟨h', _⟩ | ⟨g', cap', cur, h', _, hg, h1, h2, _⟩
    · simp at h'
    · simp only [Value.slice.injEq, Option.some.injEq, Addr.mk.injEq, and_true, true_and] at h'
      obtain ⟨rfl, rfl⟩ := h'
      exact ⟨h1, h2⟩

/-- A row that is not empty has an address. -/
theorem owns_some {w : World} {sv : Value} {n : Nat} {xs : List Value} (h : w.ownsRow 0 5 1 sv n xs) (hn : 0 < n) : ∃ g cap, sv = .slice (some ⟨g, 0, none⟩) n cap ∧ g < w.heap.size := by
  rcases h.2 with ⟨rfl, rfl⟩ | ⟨g, cap, cur, rfl, _, hg, _⟩
  · omega
  · exact ⟨g, cap, rfl, (Array.getElem?_eq_some_iff.1 hg).1⟩

theorem BytesAt.take {w : World} {a : Option Addr} {xs ys : List UInt8} (h : BytesAt w a (xs ++ ys)) : BytesAt w a xs := by
  rcases h with h | ⟨b, off, rfl, g⟩
  · exact .inl (List.append_eq_nil_iff.1 h).1
  · refine .inr ⟨b, off, rfl, fun j hj => ?_⟩
    have := g j (by simp; omega)
    rwa [List.getElem_append_left hj] at this

end Go.Proofs.Qxb6613770a
