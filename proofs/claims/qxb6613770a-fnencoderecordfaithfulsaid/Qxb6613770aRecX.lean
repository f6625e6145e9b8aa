import Derived.Test.Qxb6613770aRecV
namespace Go.Proofs.Qxb6613770a
set_option linter.unusedVariables false
set_option linter.unusedSimpArgs false
open Go.RowKit

/-- What the last statement of zzToRecord loads. -/
def SQ (bb : Nat) (r : Rec) (va : Option Addr) (vn vc : Nat) (tp : Option Addr) (w' : World) : Prop :=
  w'.cell? ⟨bb, 0, none⟩ = some (.int .u64 r.pr) ∧ w'.cell? ⟨bb, 1, none⟩ = some (.string r.pn) ∧ w'.cell? ⟨bb, 2, none⟩ = some (.int .u64 r.slot) ∧ w'.cell? ⟨bb, 3, none⟩ = some (.int .u64 r.br) ∧ w'.cell? ⟨bb, 4, none⟩ = some (.string r.bn) ∧ w'.cell? ⟨bb + 1 + 1, 0, none⟩ = some (.string r.leader) ∧ w'.cell? ⟨bb + 1 + 1, 1, none⟩ = some (.bool r.del) ∧ w'.cell? ⟨bb + 1 + 1, 2, none⟩ = some (.slice va vn vc) ∧ w'.cell? ⟨bb + 1 + 1, 3, none⟩ = some (.int .u64 r.ver.slot) ∧ w'.cell? ⟨bb + 1 + 1, 4, none⟩ = some (.int .u64 r.ver.br) ∧ w'.cell? ⟨bb + 1 + 1, 5, none⟩ = some (.string r.ver.bn) ∧ w'.cell? ⟨bb + 1 + 1, 6, none⟩ = some (.pointer tp)
theorem SQ_kept {S : Nat → Prop} {bb : Nat} {r : Rec} {va : Option Addr} {vn vc : Nat} {tp : Option Addr} {w w' : World} (hk : Kept S w w') (f : ¬ S bb) (g : ¬ S (bb + 1 + 1)) (h : SQ bb r va vn vc tp w) : SQ bb r va vn vc tp w' := by
  obtain ⟨a0, a1, a2, a3, a4, a5, a6, a7, a8, a9, a10, a11⟩ := h
  exact ⟨hk.cell' a0 f, hk.cell' a1 f, hk.cell' a2 f, hk.cell' a3 f, hk.cell' a4 f, hk.cell' a5 g, hk.cell' a6 g, hk.cell' a7 g, hk.cell' a8 g, hk.cell' a9 g, hk.cell' a10 g, hk.cell' a11 g⟩
theorem SQ_kept0 {bb : Nat} {r : Rec} {va : Option Addr} {vn vc : Nat} {tp : Option Addr} {w w' : World} (hk : Kept (fun _ => False) w w') (h : SQ bb r va vn vc tp w) : SQ bb r va vn vc tp w' := SQ_kept hk (fun h => h) (fun h => h) h
theorem SQ_drew {bb : Nat} {r : Rec} {va : Option Addr} {vn vc : Nat} {tp : Option Addr} {w : World} (h : SQ bb r va vn vc tp w) : SQ bb r va vn vc tp w.drew := h
theorem SQ_alloc {bb : Nat} {r : Rec} {va : Option Addr} {vn vc : Nat} {tp : Option Addr} {w : World} {x : Obj} (h : SQ bb r va vn vc tp w) : SQ bb r va vn vc tp (w.alloc x) := SQ_kept0 ((Kept.refl (fun _ => False) w).alloc x) h
theorem SQ_set {bb : Nat} {r : Rec} {va : Option Addr} {vn vc : Nat} {tp : Option Addr} {w : World} {j : Nat} {v : Value} (h : SQ bb r va vn vc tp w) : SQ bb r va vn vc tp (w.setCell ⟨bb + 1, j, none⟩ v) :=
  SQ_kept ((Kept.refl (fun k => k = bb + 1) w).setCell (p := ⟨bb + 1, j, none⟩) (fun _ => rfl) v) (by omega) (by omega) h

/-- A fresh Record in block bb: it may be written. -/
def ZQ (bb : Nat) (w' : World) : Prop :=
  (w'.cell? ⟨bb, 0, none⟩ = some (.int .u64 0) ∧ w'.cell? ⟨bb, 1, none⟩ = some (.string ⟨#[]⟩) ∧ w'.cell? ⟨bb, 2, none⟩ = some (.int .u64 0) ∧ w'.cell? ⟨bb, 3, none⟩ = some (.int .u64 0) ∧ w'.cell? ⟨bb, 4, none⟩ = some (.string ⟨#[]⟩) ∧ w'.cell? ⟨bb, 5, none⟩ = some (.string ⟨#[]⟩) ∧ w'.cell? ⟨bb, 6, none⟩ = some (.bool false) ∧ w'.cell? ⟨bb, 7, none⟩ = some (.slice none 0 0) ∧ w'.cell? ⟨bb, 8, none⟩ = some (.int .u64 0) ∧ w'.cell? ⟨bb, 9, none⟩ = some (.int .u64 0) ∧ w'.cell? ⟨bb, 10, none⟩ = some (.string ⟨#[]⟩) ∧ w'.cell? ⟨bb, 11, none⟩ = some (.pointer none)) ∧ (∀ o, w'.frozen? ⟨bb, o, none⟩ = false) ∧ bb < w'.heap.size
theorem ZQ_kept {bb : Nat} {w w' : World} (hk : Kept (fun _ => False) w w') (h : ZQ bb w) : ZQ bb w' := by
  obtain ⟨⟨a0, a1, a2, a3, a4, a5, a6, a7, a8, a9, a10, a11⟩, hf, hb⟩ := h
  have f : ¬ False := fun h => h
  exact ⟨⟨hk.cell' a0 f, hk.cell' a1 f, hk.cell' a2 f, hk.cell' a3 f, hk.cell' a4 f, hk.cell' a5 f, hk.cell' a6 f, hk.cell' a7 f, hk.cell' a8 f, hk.cell' a9 f, hk.cell' a10 f, hk.cell' a11 f⟩, fun j => by rw [hk.frozen (p := ⟨bb, j, none⟩) hb f]; exact hf j, Nat.lt_of_lt_of_le hb hk.size⟩

theorem zq_new (w : World) : ZQ w.heap.size (w.alloc (.cells #[.int .u64 0, .string ⟨#[]⟩, .int .u64 0, .int .u64 0, .string ⟨#[]⟩, .string ⟨#[]⟩, .bool false, .slice none 0 0, .int .u64 0, .int .u64 0, .string ⟨#[]⟩, .pointer none] 70)) := by
  have hb := heap_alloc_new w (.cells #[.int .u64 0, .string ⟨#[]⟩, .int .u64 0, .int .u64 0, .string ⟨#[]⟩, .string ⟨#[]⟩, .bool false, .slice none 0 0, .int .u64 0, .int .u64 0, .string ⟨#[]⟩, .pointer none] 70)
  refine ⟨⟨?_, ?_, ?_, ?_, ?_, ?_, ?_, ?_, ?_, ?_, ?_, ?_⟩, fun o => frozen_of_row _ _ o _ _ hb, (Array.getElem?_eq_some_iff.1 hb).1⟩ <;> (rw [cell_of_row _ _ _ _ _ _ hb]; rfl)

theorem recW_sq (w : World) (r : Rec) (va : Option Addr) (vn vc : Nat) (tp : Option Addr) : SQ w.heap.size r va vn vc tp (((w.alloc (.cells #[.int .u64 r.pr, .string r.pn, .int .u64 r.slot, .int .u64 r.br, .string r.bn, .string r.leader, .bool r.del, .slice va vn vc, .int .u64 r.ver.slot, .int .u64 r.ver.br, .string r.ver.bn, .pointer tp] 58)).alloc (.cells #[.int .u64 0, .string ⟨#[]⟩, .int .u64 0, .int .u64 0, .string ⟨#[]⟩, .string ⟨#[]⟩, .bool false, .slice none 0 0, .int .u64 0, .int .u64 0, .string ⟨#[]⟩, .pointer none] 70)).alloc (.cells #[.string r.leader, .bool r.del, .slice va vn vc, .int .u64 r.ver.slot, .int .u64 r.ver.br, .string r.ver.bn, .pointer tp] 54)) := by
  refine ⟨?_, ?_, ?_, ?_, ?_, ?_, ?_, ?_, ?_, ?_, ?_, ?_⟩ <;> simp [go_sem]

theorem recW_zq (w : World) (r : Rec) (va : Option Addr) (vn vc : Nat) (tp : Option Addr) : ZQ (w.heap.size + 1) (((w.alloc (.cells #[.int .u64 r.pr, .string r.pn, .int .u64 r.slot, .int .u64 r.br, .string r.bn, .string r.leader, .bool r.del, .slice va vn vc, .int .u64 r.ver.slot, .int .u64 r.ver.br, .string r.ver.bn, .pointer tp] 58)).alloc (.cells #[.int .u64 0, .string ⟨#[]⟩, .int .u64 0, .int .u64 0, .string ⟨#[]⟩, .string ⟨#[]⟩, .bool false, .slice none 0 0, .int .u64 0, .int .u64 0, .string ⟨#[]⟩, .pointer none] 70)).alloc (.cells #[.string r.leader, .bool r.del, .slice va vn vc, .int .u64 r.ver.slot, .int .u64 r.ver.br, .string r.ver.bn, .pointer tp] 54)) := by
  have h := zq_new (w.alloc (.cells #[.int .u64 r.pr, .string r.pn, .int .u64 r.slot, .int .u64 r.br, .string r.bn, .string r.leader, .bool r.del, .slice va vn vc, .int .u64 r.ver.slot, .int .u64 r.ver.br, .string r.ver.bn, .pointer tp] 58))
  have e : (w.alloc (.cells #[.int .u64 r.pr, .string r.pn, .int .u64 r.slot, .int .u64 r.br, .string r.bn, .string r.leader, .bool r.del, .slice va vn vc, .int .u64 r.ver.slot, .int .u64 r.ver.br, .string r.ver.bn, .pointer tp] 58)).heap.size = w.heap.size + 1 := by simp
  rw [e] at h
  exact ZQ_kept ((Kept.refl _ _).alloc _) h

/-- What zzToRecord gives. -/
def GaveRec (r : Rec) (w : World) (e : Ending) (w' : World) : Prop := ∃ va vn vc tp, e = .returned (recVal r va vn vc tp) ∧ RecMem w' r va vn vc tp ∧ Kept (fun _ => False) w w'

theorem gaveRec_of {r : Rec} {w w2 w3 w4 w5 w' : World} {va' : Option Addr} {vn vc' : Nat} {tp' : Option Addr} {bb : Nat} (hG : Kept (fun i => i = bb + 1) w5 w') (hb : w.heap.size ≤ bb) (k5 : Kept (fun _ => False) w w5)
    (o3 : w3.ownsRow 0 5 1 (.slice va' vn vc') vn (Lib.byteCells r.val)) (n3 : ∀ k, (Value.slice va' vn vc').ownBlock = some k → w2.heap.size ≤ k) (h2 : bb + 1 < w2.heap.size) (e35 : Kept (fun _ => False) w3 w5)
    (t5 : ∀ w'', Kept (fun i => i < w4.heap.size) w5 w'' → TxnAt w'' tp' r.txn) (h4 : bb + 1 < w4.heap.size) : GaveRec r w (.returned (recVal r va' vn vc' tp')) w' := by
  refine ⟨va', vn, vc', tp', rfl, ⟨bs_owned (hG.owns (e35.owns o3 (fun _ _ h => h)) (fun i hi e => ?_)), t5 w' ((Kept.refl (fun i => i < w4.heap.size) w5).trans hG (fun i hi e => ?_))⟩, k5.trans hG (fun i hi e => ?_)⟩
  · have := n3 i hi; omega
  · show i < w4.heap.size; omega
  · omega

set_option maxHeartbeats 8000000 in
set_option maxRecDepth 100000 in
/-- zzToRecord. -/
theorem toRecord_any (r : Rec) (hs : r.Small) (va : Option Addr) (vn vc : Nat) (tp : Option Addr) (w : World) (hq : RecMem w r va vn vc tp) :
    Calls Try.prog 26 #[recVal r va vn vc tp] w fun e w' => GaveRec r w e w' := by
  have hvl := hq.val.len
  have hsz := hs.self
  have g3 : vn ≤ 1048576 := by omega
  have HVB : Hid (Bs w va vn vc r.val) := hq.val
  have HTX : Hid (TxnAt w tp r.txn) := hq.txn
  have HTS : Hid (∀ t, r.txn = some t → t.size ≤ 1048576) := hs.txn
  clear hvl hsz hs hq
  unfold recVal
  go_enter Try.func26, Try.ntmps26
  go_wp2
  have hV := recW_sq w r va vn vc tp
  have hZ := recW_zq w r va vn vc tp
  have hk : Kept (fun _ => False) w (((w.alloc (.cells #[.int .u64 r.pr, .string r.pn, .int .u64 r.slot, .int .u64 r.br, .string r.bn, .string r.leader, .bool r.del, .slice va vn vc, .int .u64 r.ver.slot, .int .u64 r.ver.br, .string r.ver.bn, .pointer tp] 58)).alloc (.cells #[.int .u64 0, .string ⟨#[]⟩, .int .u64 0, .int .u64 0, .string ⟨#[]⟩, .string ⟨#[]⟩, .bool false, .slice none 0 0, .int .u64 0, .int .u64 0, .string ⟨#[]⟩, .pointer none] 70)).alloc (.cells #[.string r.leader, .bool r.del, .slice va vn vc, .int .u64 r.ver.slot, .int .u64 r.ver.br, .string r.ver.bn, .pointer tp] 54)) := (((Kept.refl _ w).alloc _).alloc _).alloc _
  generalize hW : ((w.alloc (.cells #[.int .u64 r.pr, .string r.pn, .int .u64 r.slot, .int .u64 r.br, .string r.bn, .string r.leader, .bool r.del, .slice va vn vc, .int .u64 r.ver.slot, .int .u64 r.ver.br, .string r.ver.bn, .pointer tp] 58)).alloc (.cells #[.int .u64 0, .string ⟨#[]⟩, .int .u64 0, .int .u64 0, .string ⟨#[]⟩, .string ⟨#[]⟩, .bool false, .slice none 0 0, .int .u64 0, .int .u64 0, .string ⟨#[]⟩, .pointer none] 70)).alloc (.cells #[.string r.leader, .bool r.del, .slice va vn vc, .int .u64 r.ver.slot, .int .u64 r.ver.br, .string r.ver.bn, .pointer tp] 54) = W at *
  clear hW
  obtain ⟨bb, hbb⟩ : ∃ bb, w.heap.size = bb := ⟨_, rfl⟩
  rw [hbb] at hV hZ ⊢
  have hble : w.heap.size ≤ bb := Nat.le_of_eq hbb
  clear hbb
  have m0 := hV
  obtain ⟨m0, m1, m2, m3, m4, m5, m6, m7, m8, m9, m10, m11⟩ := m0
  go_region_held3 (fun w' => w'.cell? ⟨bb, 0, none⟩ = some (.int .u64 r.pr) ∧ w'.cell? ⟨bb, 1, none⟩ = some (.string r.pn) ∧ w'.cell? ⟨bb, 2, none⟩ = some (.int .u64 r.slot) ∧ w'.cell? ⟨bb, 3, none⟩ = some (.int .u64 r.br) ∧ w'.cell? ⟨bb, 4, none⟩ = some (.string r.bn) ∧ w'.cell? ⟨bb + 1 + 1, 0, none⟩ = some (.string r.leader) ∧ w'.cell? ⟨bb + 1 + 1, 1, none⟩ = some (.bool r.del) ∧ w'.cell? ⟨bb + 1 + 1, 2, none⟩ = some (.slice va vn vc) ∧ w'.cell? ⟨bb + 1 + 1, 3, none⟩ = some (.int .u64 r.ver.slot) ∧ w'.cell? ⟨bb + 1 + 1, 4, none⟩ = some (.int .u64 r.ver.br) ∧ w'.cell? ⟨bb + 1 + 1, 5, none⟩ = some (.string r.ver.bn) ∧ w'.cell? ⟨bb + 1 + 1, 6, none⟩ = some (.pointer tp))
    ((show SQ bb r va vn vc tp _; repeat (first | with_reducible exact hV | with_reducible refine SQ_set ?_ | with_reducible refine SQ_drew ?_ | with_reducible refine SQ_alloc ?_ | with_reducible refine SQ_kept0 (by with_reducible assumption) ?_)))
    (first
      | (go_at_call_of 41 r.pn; refine (toBallot_k r.pr r.pn _).mono ?_; rintro e w1 ⟨rfl, k1⟩)
      | (go_at_call_of 41 r.bn; refine (toBallot_k r.br r.bn _).mono ?_; rintro e w2 ⟨rfl, k2⟩)
      | (go_at_call 34; refine (copy_any va vn vc r.val _ (HVB.out.ext (by refine Kept.ext0 (?_ : Kept (fun _ => False) w _); (repeat (first | with_reducible assumption | with_reducible exact Kept.refl _ _ | with_reducible refine Kept.drew ?_ | with_reducible refine Kept.alloc ?_ _ | with_reducible refine Kept.trans ?_ (by with_reducible assumption) (fun _ _ h => h))))).at_ HVB.out.len HVB.out.nil (by omega)).mono ?_; rintro e w3 ⟨v3, rfl, o3, k3, n3⟩; obtain ⟨va', vc', rfl, -⟩ := bs_of_owns o3)
      | (go_at_call 48; refine (toVersion_any r.ver _).mono ?_; rintro e w4 ⟨rfl, k4⟩)
      | (go_at_call 49; refine (toTxn_any r.txn HTS.out tp _ (HTX.out.ext (by refine Kept.ext0 (?_ : Kept (fun _ => False) w _); (repeat (first | with_reducible assumption | with_reducible exact Kept.refl _ _ | with_reducible refine Kept.drew ?_ | with_reducible refine Kept.alloc ?_ _ | with_reducible refine Kept.trans ?_ (by with_reducible assumption) (fun _ _ h => h)))))).mono ?_; rintro e w5 ⟨tp', rfl, t5, k5⟩; obtain ⟨⟨z0, z1, z2, z3, z4, z5, z6, z7, z8, z9, z10, z11⟩, zf, zl⟩ := (ZQ_kept (by (repeat (first | with_reducible assumption | with_reducible exact Kept.refl _ _ | with_reducible refine Kept.drew ?_ | with_reducible refine Kept.alloc ?_ _ | with_reducible refine Kept.trans ?_ (by with_reducible assumption) (fun _ _ h => h)))) hZ : ZQ (bb + 1) w5)))
  go_wp2
  have e2 : Kept (fun _ => False) W w2 := by (repeat (first | with_reducible assumption | with_reducible exact Kept.refl _ _ | with_reducible refine Kept.drew ?_ | with_reducible refine Kept.alloc ?_ _ | with_reducible refine Kept.trans ?_ (by with_reducible assumption) (fun _ _ h => h)))
  have e4 : Kept (fun _ => False) W w4 := by (repeat (first | with_reducible assumption | with_reducible exact Kept.refl _ _ | with_reducible refine Kept.drew ?_ | with_reducible refine Kept.alloc ?_ _ | with_reducible refine Kept.trans ?_ (by with_reducible assumption) (fun _ _ h => h)))
  have e35 : Kept (fun _ => False) w3 w5 := by (repeat (first | with_reducible assumption | with_reducible exact Kept.refl _ _ | with_reducible refine Kept.drew ?_ | with_reducible refine Kept.alloc ?_ _ | with_reducible refine Kept.trans ?_ (by with_reducible assumption) (fun _ _ h => h)))
  have hzl := hZ.2.2
  refine bodyPost_ret (v := recVal r va' vn vc' tp') (by simp [results, Try.results26, go_sem, recVal, *]) rfl ?_
  have hF := Kept.refl (fun i => i = bb + 1) w5
  refine gaveRec_of (bb := bb) ?_ hble (hk.trans (e4.trans (by with_reducible assumption) (fun _ _ h => h)) (fun _ _ h => h)) o3 n3 (Nat.lt_of_lt_of_le hzl e2.size) e35 t5 (Nat.lt_of_lt_of_le hzl e4.size)
  repeat (first | with_reducible exact hF | with_reducible refine Kept.drew ?_ | with_reducible refine Kept.alloc ?_ _ | (with_reducible refine Kept.setCell ?_ ?_ _; rotate_left; (intro _; rfl)))

end Go.Proofs.Qxb6613770a
