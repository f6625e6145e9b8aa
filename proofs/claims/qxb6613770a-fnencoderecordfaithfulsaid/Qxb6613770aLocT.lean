import Derived.Test.Qxb6613770aLocM
namespace Go.Proofs.Qxb6613770a
set_option linter.unusedVariables false
set_option linter.unusedSimpArgs false
open Go.RowKit

set_option maxHeartbeats 1000000 in
set_option maxRecDepth 100000 in
/-- zzToBallot. -/
theorem toBallot_any (r : Nat) (s : ByteArray) (w : World) :
    Calls Try.prog 41 #[.agg #[.int .u64 r, .string s]] w fun e w' => e = .returned (.agg #[.int .u64 r, .string s]) ∧ w' = (w.alloc (.cells #[.int .u64 r, .string s] 24)).alloc (.cells #[.int .u64 r, .string s] 30) := by
  go_enter Try.func41, Try.ntmps41
  go_wp2
  exact bodyPost_ret (v := .agg #[.int .u64 r, .string s]) (by simp [results, Try.results41, go_sem]) rfl ⟨rfl, rfl⟩

theorem toBallot_k (r : Nat) (s : ByteArray) (w : World) :
    Calls Try.prog 41 #[.agg #[.int .u64 r, .string s]] w fun e w' => e = .returned (.agg #[.int .u64 r, .string s]) ∧ Kept (fun _ => False) w w' :=
  (toBallot_any r s w).mono fun e w' ⟨h1, h2⟩ => ⟨h1, by rw [h2]; exact ((Kept.refl _ w).alloc _).alloc _⟩

/-- A slice of int64 at address a shows zs. -/
def IntsAt (w : World) (a : Option Addr) (zs : List Int) : Prop :=
  zs = [] ∨ ∃ b off, a = some ⟨b, off, none⟩ ∧ ∀ j (hj : j < zs.length), w.cell? ⟨b, off + j, none⟩ = some (.int .i64 zs[j])

theorem IntsAt.kept {S : Nat → Prop} {w w' : World} {a : Option Addr} {zs : List Int} (h : IntsAt w a zs) (hk : Kept S w w') (hS : ∀ b, (∃ o, a = some ⟨b, o, none⟩) → ¬ S b) : IntsAt w' a zs := by
  rcases h with h | ⟨b, off, rfl, g⟩
  · exact .inl h
  · exact .inr ⟨b, off, rfl, fun j hj => hk.cell' (g j hj) (hS b ⟨off, rfl⟩)⟩

theorem info47 : (Try.prog.info? 47).map (fun i => (i.zero, i.size, i.bytes)) = some (some (.int .i64 0), 1, 8) := by kernel_rfl

theorem cell_past (w : World) (o : Obj) (b off : Nat) (h : b < w.heap.size) : (w.alloc o).cell? ⟨b, off, none⟩ = w.cell? ⟨b, off, none⟩ := World.cell?_of_block (Below.heap_alloc w o b h)

/-- A fresh Located in block rb: it may be written. -/
structure ZeroL (w : World) (rb : Nat) : Prop where
  block : w.heap[rb]? = some (.cells #[.int .u64 0, .int .u64 0, .string ⟨#[]⟩, .string ⟨#[]⟩, .int .u64 0, .string ⟨#[]⟩, .bool false, .bool false, .slice none 0 0] 33 (0, 0))

theorem ZeroL.cells {w : World} {rb : Nat} (h : ZeroL w rb) : w.cell? ⟨rb, 0, none⟩ = some (.int .u64 0) ∧ w.cell? ⟨rb, 1, none⟩ = some (.int .u64 0) ∧ w.cell? ⟨rb, 2, none⟩ = some (.string ⟨#[]⟩) ∧ w.cell? ⟨rb, 3, none⟩ = some (.string ⟨#[]⟩) ∧ w.cell? ⟨rb, 4, none⟩ = some (.int .u64 0) ∧ w.cell? ⟨rb, 5, none⟩ = some (.string ⟨#[]⟩) ∧ w.cell? ⟨rb, 6, none⟩ = some (.bool false) ∧ w.cell? ⟨rb, 7, none⟩ = some (.bool false) ∧ w.cell? ⟨rb, 8, none⟩ = some (.slice none 0 0) ∧ (∀ o, w.frozen? ⟨rb, o, none⟩ = false) ∧ rb < w.heap.size := by
  refine ⟨?_, ?_, ?_, ?_, ?_, ?_, ?_, ?_, ?_, fun o => frozen_of_row w rb o _ _ h.block, (Array.getElem?_eq_some_iff.1 h.block).1⟩ <;> (rw [cell_of_row w rb _ _ _ _ h.block]; rfl)

/-- What the last statement of zzToLocated loads, and where it stores. -/
def SL (bb : Nat) (l : Loc) (w' : World) : Prop :=
  (w'.cell? ⟨bb, 0, none⟩ = some (.int .u64 l.slot) ∧ w'.cell? ⟨bb, 1, none⟩ = some (.int .u64 l.br) ∧ w'.cell? ⟨bb, 2, none⟩ = some (.string l.bn) ∧ w'.cell? ⟨bb, 3, none⟩ = some (.string l.leader) ∧ w'.cell? ⟨bb, 4, none⟩ = some (.int .u64 l.pr) ∧ w'.cell? ⟨bb, 5, none⟩ = some (.string l.pn) ∧ w'.cell? ⟨bb, 6, none⟩ = some (.bool l.leased) ∧ w'.cell? ⟨bb, 7, none⟩ = some (.bool l.cutoff)) ∧ bb + 1 < w'.heap.size ∧
  (w'.cell? ⟨bb + 1, 0, none⟩ = some (.int .u64 0) ∧ w'.cell? ⟨bb + 1, 1, none⟩ = some (.int .u64 0) ∧ w'.cell? ⟨bb + 1, 2, none⟩ = some (.string ⟨#[]⟩) ∧ w'.cell? ⟨bb + 1, 3, none⟩ = some (.string ⟨#[]⟩) ∧ w'.cell? ⟨bb + 1, 4, none⟩ = some (.int .u64 0) ∧ w'.cell? ⟨bb + 1, 5, none⟩ = some (.string ⟨#[]⟩) ∧ w'.cell? ⟨bb + 1, 6, none⟩ = some (.bool false) ∧ w'.cell? ⟨bb + 1, 7, none⟩ = some (.bool false) ∧ w'.cell? ⟨bb + 1, 8, none⟩ = some (.slice none 0 0)) ∧ (∀ o, w'.frozen? ⟨bb + 1, o, none⟩ = false)
theorem SL_kept {bb : Nat} {l : Loc} {w w' : World} (hk : Kept (fun _ => False) w w') (h : SL bb l w) : SL bb l w' := by
  obtain ⟨⟨a0, a1, a2, a3, a4, a5, a6, a7⟩, hb, ⟨d0, d1, d2, d3, d4, d5, d6, d7, d8⟩, df⟩ := h
  have f : ¬ False := fun h => h
  exact ⟨⟨hk.cell' a0 f, hk.cell' a1 f, hk.cell' a2 f, hk.cell' a3 f, hk.cell' a4 f, hk.cell' a5 f, hk.cell' a6 f, hk.cell' a7 f⟩, Nat.lt_of_lt_of_le hb hk.size, ⟨hk.cell' d0 f, hk.cell' d1 f, hk.cell' d2 f, hk.cell' d3 f, hk.cell' d4 f, hk.cell' d5 f, hk.cell' d6 f, hk.cell' d7 f, hk.cell' d8 f⟩, fun j => by rw [hk.frozen (p := ⟨bb + 1, j, none⟩) hb f]; exact df j⟩

/-- What it loads, alone. -/
def SV (bb : Nat) (l : Loc) (w' : World) : Prop :=
  (w'.cell? ⟨bb, 0, none⟩ = some (.int .u64 l.slot) ∧ w'.cell? ⟨bb, 1, none⟩ = some (.int .u64 l.br) ∧ w'.cell? ⟨bb, 2, none⟩ = some (.string l.bn) ∧ w'.cell? ⟨bb, 3, none⟩ = some (.string l.leader) ∧ w'.cell? ⟨bb, 4, none⟩ = some (.int .u64 l.pr) ∧ w'.cell? ⟨bb, 5, none⟩ = some (.string l.pn) ∧ w'.cell? ⟨bb, 6, none⟩ = some (.bool l.leased) ∧ w'.cell? ⟨bb, 7, none⟩ = some (.bool l.cutoff)) ∧ bb + 1 < w'.heap.size
theorem SV_drew {bb : Nat} {l : Loc} {w : World} (h : SV bb l w) : SV bb l w.drew := h
theorem SV_kept {S : Nat → Prop} {bb : Nat} {l : Loc} {w w' : World} (hk : Kept S w w') (f : ¬ S bb) (h : SV bb l w) : SV bb l w' := by
  obtain ⟨⟨a0, a1, a2, a3, a4, a5, a6, a7⟩, hb⟩ := h
  exact ⟨⟨hk.cell' a0 f, hk.cell' a1 f, hk.cell' a2 f, hk.cell' a3 f, hk.cell' a4 f, hk.cell' a5 f, hk.cell' a6 f, hk.cell' a7 f⟩, Nat.lt_of_lt_of_le hb hk.size⟩
theorem SV_alloc {bb : Nat} {l : Loc} {w : World} {o : Obj} (h : SV bb l w) : SV bb l (w.alloc o) := SV_kept ((Kept.refl (fun _ => False) w).alloc o) (fun h => h) h
theorem SV_set {bb : Nat} {l : Loc} {w : World} {j : Nat} {v : Value} (h : SV bb l w) : SV bb l (w.setCell ⟨bb + 1, j, none⟩ v) :=
  SV_kept ((Kept.refl (fun k => k = bb + 1) w).setCell (p := ⟨bb + 1, j, none⟩) (fun _ => rfl) v) (by omega) h

set_option maxHeartbeats 4000000 in
set_option maxRecDepth 100000 in
/-- zzToLocated. -/
theorem toLocated_nil (l : Loc) (w : World) :
    Calls Try.prog 11 #[.agg #[.int .u64 l.slot, .int .u64 l.br, .string l.bn, .string l.leader, .int .u64 l.pr, .string l.pn, .bool l.leased, .bool l.cutoff, .slice none 0 0]] w fun e w' =>
      e = .returned (.agg #[.int .u64 l.slot, .int .u64 l.br, .string l.bn, .string l.leader, .int .u64 l.pr, .string l.pn, .bool l.leased, .bool l.cutoff, .slice none 0 0]) ∧ Kept (fun _ => False) w w' := by
  have q25 : ∀ (w : World) (a : Option Addr) (n c n' c' : Nat), (binOp .neq 25 (.slice a n c) (.slice none n' c')).run Try.prog w = .ok (.bool !a.isNone) w := fun w a n c n' c' => run_neq_slice_nil_any w _ _ a n c n' c' Try.underlying25
  go_enter Try.func11, Try.ntmps11
  go_wp2
  have hk : Kept (fun _ => False) w ((w.alloc (.cells #[.int .u64 l.slot, .int .u64 l.br, .string l.bn, .string l.leader, .int .u64 l.pr, .string l.pn, .bool l.leased, .bool l.cutoff, .slice none 0 0] 27)).alloc (.cells #[.int .u64 0, .int .u64 0, .string ⟨#[]⟩, .string ⟨#[]⟩, .int .u64 0, .string ⟨#[]⟩, .bool false, .bool false, .slice none 0 0] 33)) := ((Kept.refl _ w).alloc _).alloc _
  have hm : LocAt ((w.alloc (.cells #[.int .u64 l.slot, .int .u64 l.br, .string l.bn, .string l.leader, .int .u64 l.pr, .string l.pn, .bool l.leased, .bool l.cutoff, .slice none 0 0] 27)).alloc (.cells #[.int .u64 0, .int .u64 0, .string ⟨#[]⟩, .string ⟨#[]⟩, .int .u64 0, .string ⟨#[]⟩, .bool false, .bool false, .slice none 0 0] 33)) w.heap.size l (.slice none 0 0) := ⟨by simp [go_sem], by simp [go_sem], by simp [go_sem], by simp [go_sem], by simp [go_sem], by simp [go_sem], by simp [go_sem], by simp [go_sem], by simp [go_sem]⟩
  have hz : ZeroL ((w.alloc (.cells #[.int .u64 l.slot, .int .u64 l.br, .string l.bn, .string l.leader, .int .u64 l.pr, .string l.pn, .bool l.leased, .bool l.cutoff, .slice none 0 0] 27)).alloc (.cells #[.int .u64 0, .int .u64 0, .string ⟨#[]⟩, .string ⟨#[]⟩, .int .u64 0, .string ⟨#[]⟩, .bool false, .bool false, .slice none 0 0] 33)) (w.heap.size + 1) := ⟨by have := heap_alloc_new (w.alloc (.cells #[.int .u64 l.slot, .int .u64 l.br, .string l.bn, .string l.leader, .int .u64 l.pr, .string l.pn, .bool l.leased, .bool l.cutoff, .slice none 0 0] 27)) (.cells #[.int .u64 0, .int .u64 0, .string ⟨#[]⟩, .string ⟨#[]⟩, .int .u64 0, .string ⟨#[]⟩, .bool false, .bool false, .slice none 0 0] 33); simpa using this⟩
  generalize hW : (w.alloc (.cells #[.int .u64 l.slot, .int .u64 l.br, .string l.bn, .string l.leader, .int .u64 l.pr, .string l.pn, .bool l.leased, .bool l.cutoff, .slice none 0 0] 27)).alloc (.cells #[.int .u64 0, .int .u64 0, .string ⟨#[]⟩, .string ⟨#[]⟩, .int .u64 0, .string ⟨#[]⟩, .bool false, .bool false, .slice none 0 0] 33) = W at *
  clear hW
  obtain ⟨bb, hbb⟩ : ∃ bb, w.heap.size = bb := ⟨_, rfl⟩
  rw [hbb] at hm hz ⊢
  have hble : w.heap.size ≤ bb := Nat.le_of_eq hbb
  have hrb : bb + 1 < W.heap.size := (hz.cells).2.2.2.2.2.2.2.2.2.2
  clear hbb
  obtain ⟨z0, z1, z2, z3, z4, z5, z6, z7, z8, zf, zl⟩ := hz.cells
  obtain ⟨m0, m1, m2, m3, m4, m5, m6, m7, m8⟩ := hm
  have hS : SL bb l W := ⟨⟨m0, m1, m2, m3, m4, m5, m6, m7⟩, hrb, ⟨z0, z1, z2, z3, z4, z5, z6, z7, z8⟩, zf⟩
  obtain ⟨-, -, ⟨y0, y1, y2, y3, y4, y5, y6, y7, y8⟩, f4⟩ := (SL_kept (((((Kept.refl _ W).alloc (.cells #[.int .u64 l.br, .string l.bn] 24)).alloc (.cells #[.int .u64 l.br, .string l.bn] 30)).alloc (.cells #[.int .u64 l.pr, .string l.pn] 24)).alloc (.cells #[.int .u64 l.pr, .string l.pn] 30)) hS)
  clear hz
  have hV : SV bb l W := ⟨⟨m0, m1, m2, m3, m4, m5, m6, m7⟩, hrb⟩
  clear hS
  go_region_held3 (fun w' => (w'.cell? ⟨bb, 0, none⟩ = some (.int .u64 l.slot) ∧ w'.cell? ⟨bb, 1, none⟩ = some (.int .u64 l.br) ∧ w'.cell? ⟨bb, 2, none⟩ = some (.string l.bn) ∧ w'.cell? ⟨bb, 3, none⟩ = some (.string l.leader) ∧ w'.cell? ⟨bb, 4, none⟩ = some (.int .u64 l.pr) ∧ w'.cell? ⟨bb, 5, none⟩ = some (.string l.pn) ∧ w'.cell? ⟨bb, 6, none⟩ = some (.bool l.leased) ∧ w'.cell? ⟨bb, 7, none⟩ = some (.bool l.cutoff)) ∧ bb + 1 < w'.heap.size) ((show SV bb l _; repeat (first | with_reducible exact hV | with_reducible refine SV_set ?_ | with_reducible refine SV_drew ?_ | with_reducible refine SV_alloc ?_)))
    (first | (go_at_call_of 41 l.bn; refine (toBallot_any l.br l.bn _).mono ?_; rintro e w1 ⟨rfl, rfl⟩) | (go_at_call_of 41 l.pn; refine (toBallot_any l.pr l.pn _).mono ?_; rintro e w2 ⟨rfl, rfl⟩))
  go_wp2
  refine bodyPost_ret (v := .agg #[.int .u64 l.slot, .int .u64 l.br, .string l.bn, .string l.leader, .int .u64 l.pr, .string l.pn, .bool l.leased, .bool l.cutoff, .slice none 0 0]) (by simp [results, Try.results11, go_sem, *]) rfl ⟨rfl, ?_⟩
  repeat (first | with_reducible exact hk | with_reducible refine Kept.drew ?_ | with_reducible refine Kept.alloc ?_ _ | (with_reducible refine Kept.setCell ?_ ?_ _; rotate_left; (simp; omega)))

theorem replicate_set (zs : List Int) (k n : Nat) (hk : k < n) (hz : zs.length = n) : ((zs.take k ++ List.replicate (n - k) 0).map (Value.int .i64)).set k (.int .i64 (zs[k]'(by omega))) = (zs.take (k + 1) ++ List.replicate (n - (k + 1)) 0).map (Value.int .i64) := by
  have hl : (zs.take k).length = k := by simp; omega
  have hk' : k < zs.length := by omega
  rw [← List.map_set, List.set_append_right _ _ (by omega), hl, Nat.sub_self, List.take_succ_eq_append_getElem hk', show n - k = (n - (k + 1)) + 1 by omega, List.replicate_succ, List.set_cons_zero, List.append_assoc, List.cons_append, List.nil_append]

set_option maxHeartbeats 4000000 in
set_option maxRecDepth 100000 in
/-- zzToLocated, where the slice is not nil. -/
theorem toLocated_some (l : Loc) (x : Addr) (n c : Nat) (hn : l.ans.length = n) (hnn : n ≤ 1048576) (w : World) (hi0 : IntsAt w (some x) l.ans) :
    Calls Try.prog 11 #[.agg #[.int .u64 l.slot, .int .u64 l.br, .string l.bn, .string l.leader, .int .u64 l.pr, .string l.pn, .bool l.leased, .bool l.cutoff, .slice (some x) n c]] w fun e w' =>
      ∃ g, e = .returned (.agg #[.int .u64 l.slot, .int .u64 l.br, .string l.bn, .string l.leader, .int .u64 l.pr, .string l.pn, .bool l.leased, .bool l.cutoff, .slice (some ⟨g, 0, none⟩) n n]) ∧ w.heap.size ≤ g ∧ w'.ownsRow 0 47 1 (.slice (some ⟨g, 0, none⟩) n n) n (l.ans.map (Value.int .i64)) ∧ Kept (fun _ => False) w w' := by
  have q25 : ∀ (w : World) (a : Option Addr) (n c n' c' : Nat), (binOp .neq 25 (.slice a n c) (.slice none n' c')).run Try.prog w = .ok (.bool !a.isNone) w := fun w a n c n' c' => run_neq_slice_nil_any w _ _ a n c n' c' Try.underlying25
  obtain ⟨i0, hi, hz0, hz1, hz2⟩ := info_parts info47
  have HN : Hid (l.ans.length = n) := hn
  clear hn
  have hnn' : (n : Int) ≤ 1048576 := by omega
  go_enter Try.func11, Try.ntmps11
  go_wp2_with (at_make; refine wpList_make_full _ rfl _ _ 31 rfl 0 47 i0 (.int .i64 0) 1 Try.underlying31 hi hz0 hz1 _ _ _ _ n rfl rfl rfl rfl ?b1 ?b2 ?b3 ?_)
  case b1 => rw [hz2]; omega
  case b2 => unfold maxLen; omega
  case b3 => omega
  intro w1 hown hgrow
  have hk : Kept (fun _ => False) w ((w.alloc (.cells #[.int .u64 l.slot, .int .u64 l.br, .string l.bn, .string l.leader, .int .u64 l.pr, .string l.pn, .bool l.leased, .bool l.cutoff, .slice (some x) n c] 27)).alloc (.cells #[.int .u64 0, .int .u64 0, .string ⟨#[]⟩, .string ⟨#[]⟩, .int .u64 0, .string ⟨#[]⟩, .bool false, .bool false, .slice none 0 0] 33)) := ((Kept.refl _ w).alloc _).alloc _
  have hm : LocAt ((w.alloc (.cells #[.int .u64 l.slot, .int .u64 l.br, .string l.bn, .string l.leader, .int .u64 l.pr, .string l.pn, .bool l.leased, .bool l.cutoff, .slice (some x) n c] 27)).alloc (.cells #[.int .u64 0, .int .u64 0, .string ⟨#[]⟩, .string ⟨#[]⟩, .int .u64 0, .string ⟨#[]⟩, .bool false, .bool false, .slice none 0 0] 33)) w.heap.size l (.slice (some x) n c) := ⟨by simp [go_sem], by simp [go_sem], by simp [go_sem], by simp [go_sem], by simp [go_sem], by simp [go_sem], by simp [go_sem], by simp [go_sem], by simp [go_sem]⟩
  have hz : ZeroL ((w.alloc (.cells #[.int .u64 l.slot, .int .u64 l.br, .string l.bn, .string l.leader, .int .u64 l.pr, .string l.pn, .bool l.leased, .bool l.cutoff, .slice (some x) n c] 27)).alloc (.cells #[.int .u64 0, .int .u64 0, .string ⟨#[]⟩, .string ⟨#[]⟩, .int .u64 0, .string ⟨#[]⟩, .bool false, .bool false, .slice none 0 0] 33)) (w.heap.size + 1) := ⟨by have := heap_alloc_new (w.alloc (.cells #[.int .u64 l.slot, .int .u64 l.br, .string l.bn, .string l.leader, .int .u64 l.pr, .string l.pn, .bool l.leased, .bool l.cutoff, .slice (some x) n c] 27)) (.cells #[.int .u64 0, .int .u64 0, .string ⟨#[]⟩, .string ⟨#[]⟩, .int .u64 0, .string ⟨#[]⟩, .bool false, .bool false, .slice none 0 0] 33); simpa using this⟩
  have hk1 : Kept (fun _ => False) ((w.alloc (.cells #[.int .u64 l.slot, .int .u64 l.br, .string l.bn, .string l.leader, .int .u64 l.pr, .string l.pn, .bool l.leased, .bool l.cutoff, .slice (some x) n c] 27)).alloc (.cells #[.int .u64 0, .int .u64 0, .string ⟨#[]⟩, .string ⟨#[]⟩, .int .u64 0, .string ⟨#[]⟩, .bool false, .bool false, .slice none 0 0] 33)) w1 := (Kept.refl _ _).grown hgrow (by intro k hk; cases hk)
  have hg0 : w.heap.size + 2 = ((w.alloc (.cells #[.int .u64 l.slot, .int .u64 l.br, .string l.bn, .string l.leader, .int .u64 l.pr, .string l.pn, .bool l.leased, .bool l.cutoff, .slice (some x) n c] 27)).alloc (.cells #[.int .u64 0, .int .u64 0, .string ⟨#[]⟩, .string ⟨#[]⟩, .int .u64 0, .string ⟨#[]⟩, .bool false, .bool false, .slice none 0 0] 33)).heap.size := by simp
  generalize hW : (w.alloc (.cells #[.int .u64 l.slot, .int .u64 l.br, .string l.bn, .string l.leader, .int .u64 l.pr, .string l.pn, .bool l.leased, .bool l.cutoff, .slice (some x) n c] 27)).alloc (.cells #[.int .u64 0, .int .u64 0, .string ⟨#[]⟩, .string ⟨#[]⟩, .int .u64 0, .string ⟨#[]⟩, .bool false, .bool false, .slice none 0 0] 33) = W1 at *
  clear hW hgrow
  have hk01 := hk.trans hk1 (fun _ _ h => h)
  obtain ⟨bb, hbb⟩ : ∃ bb, w.heap.size = bb := ⟨_, rfl⟩
  rw [hbb] at hm hz hg0 hown ⊢
  have hble : w.heap.size ≤ bb := Nat.le_of_eq hbb
  have HO : Hid (w1.ownsRow 0 47 1 (.slice (some ⟨bb + 1 + 1, 0, none⟩) n n) n ((l.ans.take 0 ++ List.replicate (n - 0) 0).map (Value.int .i64))) := by
    have e : (l.ans.take 0 ++ List.replicate (n - 0) 0).map (Value.int .i64) = (madeCells #[Value.int .i64 0] n).toList := by
      simp only [toList_madeCells_one, List.take_zero, List.nil_append, Nat.sub_zero, List.map_replicate]
    show World.ownsRow _ _ _ _ _ _ _
    rw [e]
    exact hown
  have hg0' : W1.heap.size ≤ bb + 1 + 1 := Nat.le_of_eq hg0.symm
  clear hown hbb hg0
  go_wp2
  go_loopw [4] (fun v4 wr => ∃ k : Nat, v4 = .int .i64 k ∧ k ≤ n ∧ wr.ownsRow 0 47 1 (.slice (some ⟨bb + 1 + 1, 0, none⟩) n n) n ((l.ans.take k ++ List.replicate (n - k) 0).map (Value.int .i64)) ∧ Kept (fun _ => False) W1 wr) (fun v4 _ => n - (intOf v4).toNat)
  case atStart => exact ⟨0, rfl, Nat.zero_le _, HO.out, hk1⟩
  case round =>
    obtain ⟨k, rfl, hkn, ho, hkr⟩ := hrel
    have c8 := hkr.cell' hm.c8 (fun h => h)
    by_cases hlt : k < n
    · have hka : k < l.ans.length := by rw [HN.out]; exact hlt
      have HI : Hid (IntsAt w (some x) l.ans) := hi0
      rcases hi0 with hi0 | ⟨b, off, hx, g⟩
      · rw [hi0] at hka; simp at hka
      simp only [Option.some.injEq] at hx
      subst hx
      have hck := (hk.trans hkr (fun _ _ h => h)).cell' (g k hka) (fun h => h)
      have hfz := ho.frozenAt k
      obtain ⟨u, hu⟩ : ∃ u, wr.cell? ⟨bb + 1 + 1, k, none⟩ = some u := by
        rw [ho.cellAt k (by omega)]
        exact ⟨_, List.getElem?_eq_getElem (by simp; omega)⟩
      have hlt' : (k : Int) < (n : Int) := by omega
      have HR : Hid (_ = _) := replicate_set l.ans k n hlt HN.out
      have hst := ho.stored k (.int .i64 l.ans[k])
      clear g
      go_wp2
      go_roundw
      case rel => exact ⟨k + 1, by go_num, by omega, by rw [← HR.out]; exact hst.1, hkr.setCell (p := ⟨bb + 1 + 1, k, none⟩) (fun h => by have : bb + 1 + 1 < W1.heap.size := h; omega) _⟩
      case measure => simp [intOf]; omega
    · go_wp2
      have hm' := hm.kept hkr (fun h => h)
      have hzr : ZeroL wr (bb + 1) := ⟨by rw [hkr.block _ (Array.getElem?_eq_some_iff.1 hz.block).1 (fun h => h)]; exact hz.block⟩
      have hkw : Kept (fun _ => False) w wr := hk.trans hkr (fun _ _ h => h)
      have hrb : bb + 1 < wr.heap.size := (hzr.cells).2.2.2.2.2.2.2.2.2.2
      obtain ⟨z0, z1, z2, z3, z4, z5, z6, z7, z8, zf, zl⟩ := hzr.cells
      obtain ⟨m0, m1, m2, m3, m4, m5, m6, m7, m8⟩ := hm'
      have hS : SL bb l wr := ⟨⟨m0, m1, m2, m3, m4, m5, m6, m7⟩, hrb, ⟨z0, z1, z2, z3, z4, z5, z6, z7, z8⟩, zf⟩
      obtain ⟨-, -, ⟨y0, y1, y2, y3, y4, y5, y6, y7, y8⟩, f4⟩ := (SL_kept (((((Kept.refl _ wr).alloc (.cells #[.int .u64 l.br, .string l.bn] 24)).alloc (.cells #[.int .u64 l.br, .string l.bn] 30)).alloc (.cells #[.int .u64 l.pr, .string l.pn] 24)).alloc (.cells #[.int .u64 l.pr, .string l.pn] 30)) hS)
      have hV : SV bb l wr := ⟨⟨m0, m1, m2, m3, m4, m5, m6, m7⟩, hrb⟩
      have HO2 : Hid (wr.ownsRow 0 47 1 (.slice (some ⟨bb + 1 + 1, 0, none⟩) n n) n (l.ans.map (Value.int .i64))) := by
        have e : k = n := by omega
        subst e
        have := ho
        rw [List.take_of_length_le (by rw [HN.out]; exact Nat.le_refl _), Nat.sub_self, List.replicate_zero, List.append_nil] at this
        exact this
      clear hS hzr hz hm ho hi0 hkr hk
      go_region_held3 (fun w' => (w'.cell? ⟨bb, 0, none⟩ = some (.int .u64 l.slot) ∧ w'.cell? ⟨bb, 1, none⟩ = some (.int .u64 l.br) ∧ w'.cell? ⟨bb, 2, none⟩ = some (.string l.bn) ∧ w'.cell? ⟨bb, 3, none⟩ = some (.string l.leader) ∧ w'.cell? ⟨bb, 4, none⟩ = some (.int .u64 l.pr) ∧ w'.cell? ⟨bb, 5, none⟩ = some (.string l.pn) ∧ w'.cell? ⟨bb, 6, none⟩ = some (.bool l.leased) ∧ w'.cell? ⟨bb, 7, none⟩ = some (.bool l.cutoff)) ∧ bb + 1 < w'.heap.size) ((show SV bb l _; repeat (first | with_reducible exact hV | with_reducible refine SV_set ?_ | with_reducible refine SV_drew ?_ | with_reducible refine SV_alloc ?_)))
        (first | (go_at_call_of 41 l.bn; refine (toBallot_any l.br l.bn _).mono ?_; rintro e w1 ⟨rfl, rfl⟩) | (go_at_call_of 41 l.pn; refine (toBallot_any l.pr l.pn _).mono ?_; rintro e w2 ⟨rfl, rfl⟩))
      go_wp2
      refine bodyPost_ret (v := .agg #[.int .u64 l.slot, .int .u64 l.br, .string l.bn, .string l.leader, .int .u64 l.pr, .string l.pn, .bool l.leased, .bool l.cutoff, .slice (some ⟨bb + 1 + 1, 0, none⟩) n n]) (by simp [results, Try.results11, go_sem, *]) rfl ?_
      have hF := Kept.refl (fun i => i = bb + 1) wr
      refine ⟨bb + 1 + 1, rfl, by omega, ?_, ?_⟩
      · refine Kept.owns (S := fun i => i = bb + 1) ?_ HO2.out ?_
        · repeat (first | with_reducible exact hF | with_reducible refine Kept.drew ?_ | with_reducible refine Kept.alloc ?_ _ | (with_reducible refine Kept.setCell ?_ ?_ _; rotate_left; (intro _; rfl)))
        · intro i hi e
          simp [Value.ownBlock] at hi; omega
      · repeat (first | with_reducible exact hkw | with_reducible refine Kept.drew ?_ | with_reducible refine Kept.alloc ?_ _ | (with_reducible refine Kept.setCell ?_ ?_ _; rotate_left; (simp; omega)))

/-- zzToLocated, whatever the slice. -/
theorem toLocated_any (l : Loc) (aa : Option Addr) (n c : Nat) (hn : l.ans.length = n) (hnn : n ≤ 1048576) (w : World) (hi0 : IntsAt w aa l.ans) (hnil : aa = none → n = 0 ∧ c = 0) :
    Calls Try.prog 11 #[.agg #[.int .u64 l.slot, .int .u64 l.br, .string l.bn, .string l.leader, .int .u64 l.pr, .string l.pn, .bool l.leased, .bool l.cutoff, .slice aa n c]] w fun e w' =>
      ∃ a' c', e = .returned (.agg #[.int .u64 l.slot, .int .u64 l.br, .string l.bn, .string l.leader, .int .u64 l.pr, .string l.pn, .bool l.leased, .bool l.cutoff, .slice a' n c']) ∧ (∀ k, (Value.slice a' n c').ownBlock = some k → w.heap.size ≤ k) ∧ w'.ownsRow 0 47 1 (.slice a' n c') n (l.ans.map (Value.int .i64)) ∧ Kept (fun _ => False) w w' := by
  cases aa with
  | none =>
    obtain ⟨rfl, rfl⟩ := hnil rfl
    refine (toLocated_nil l w).mono fun e w' ⟨h1, h2⟩ => ⟨none, 0, h1, by intro k hk; simp [Value.ownBlock] at hk, ?_, h2⟩
    rw [List.eq_nil_of_length_eq_zero hn]
    exact World.ownsRow_nil _ _ _ _
  | some x =>
    refine (toLocated_some l x n c hn hnn w hi0).mono fun e w' ⟨g, h1, h2, h3, h4⟩ => ⟨some ⟨g, 0, none⟩, n, h1, ?_, h3, h4⟩
    intro k hk; simp [Value.ownBlock] at hk; omega

end Go.Proofs.Qxb6613770a
