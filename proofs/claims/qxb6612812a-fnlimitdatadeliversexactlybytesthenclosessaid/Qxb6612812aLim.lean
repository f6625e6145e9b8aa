import Derived.Test.Qxb6612812aAdd
namespace Go.Proofs.Qxb6612812a
set_option linter.unusedVariables false
set_option linter.unusedSimpArgs false
open Go.RowKit

/-- A LimitData in block lb, a stage in block sb. -/
structure LS (w : World) (lb sb : Nat) (bytes d sent : Int) : Prop where
  b : w.cell? ⟨lb, 0, none⟩ = some (.int .i64 bytes)
  s0 : w.cell? ⟨sb, 11, none⟩ = some (.int .u64 (d % 1000000000))
  s1 : w.cell? ⟨sb, 12, none⟩ = some (.int .i64 (d / 1000000000))
  s2 : w.cell? ⟨sb, 13, none⟩ = some (.pointer none)
  n : w.cell? ⟨sb, 14, none⟩ = some (.int .i64 sent)
  f : w.frozen? ⟨sb, 14, none⟩ = false
  ne : lb ≠ sb

theorem LS.lt {w : World} {lb sb : Nat} {bytes d sent : Int} (h : LS w lb sb bytes d sent) : sb < w.heap.size := World.block_lt_of_cell? w _ h.n
theorem LS.kept {S : Nat → Prop} {w w' : World} {lb sb : Nat} {bytes d sent : Int} (h : LS w lb sb bytes d sent) (hk : Kept S w w') (h1 : ¬ S lb) (h2 : ¬ S sb) : LS w' lb sb bytes d sent :=
  ⟨hk.cell' h.b h1, hk.cell' h.s0 h2, hk.cell' h.s1 h2, hk.cell' h.s2 h2, hk.cell' h.n h2, by rw [hk.frozen (p := ⟨sb, 14, none⟩) h.lt h2]; exact h.f, h.ne⟩
theorem LS.set {w : World} {lb sb : Nat} {bytes d sent : Int} (h : LS w lb sb bytes d sent) (m : Int) : LS (w.setCell ⟨sb, 14, none⟩ (.int .i64 m)) lb sb bytes d m :=
  ⟨by rw [World.cell?_setCell_other _ _ _ _ (by intro e; simp at e)]; exact h.b,
   by rw [World.cell?_setCell_other _ _ _ _ (by simp)]; exact h.s0, by rw [World.cell?_setCell_other _ _ _ _ (by simp)]; exact h.s1, by rw [World.cell?_setCell_other _ _ _ _ (by simp)]; exact h.s2,
   by exact World.cell?_setCell_same _ _ _ h.n, by rw [World.frozen?_setCell]; exact h.f, h.ne⟩

set_option maxHeartbeats 2000000 in
set_option maxRecDepth 100000 in
/-- LimitData.limit. -/
theorem limit_any (lb sb : Nat) (bytes d sent : Int) (h0 : 0 ≤ sent) (h1 : sent ≤ bytes) (h2 : bytes ≤ 9223372036854775807) (w : World) (h : LS w lb sb bytes d sent) :
    Calls Try.prog 24 #[.pointer (some ⟨lb, 0, none⟩), .pointer (some ⟨sb, 0, none⟩)] w fun e w' => e = .returned (.int .i64 (bytes - sent)) ∧ Kept (fun _ => False) w w' := by
  have hb := h.b
  have hn := h.n
  have hm : ¬ (9223372036854775807 : Int) < bytes - sent := by omega
  go_enter Try.func24, Try.ntmps24
  go_wp2
  go_region
  all_goals (go_wp2; go_ret; exact ⟨rfl, (Kept.refl _ w).drew⟩)

set_option maxHeartbeats 2000000 in
set_option maxRecDepth 100000 in
/-- LimitData.ends: it keeps. -/
theorem ends_keep (lb sb : Nat) (bytes d sent : Int) (hlt : sent < bytes) (w : World) (h : LS w lb sb bytes d sent) :
    Calls Try.prog 23 #[.pointer (some ⟨lb, 0, none⟩), .pointer (some ⟨sb, 0, none⟩)] w fun e w' => e = .returned (.tuple #[.int .u8 0, .agg #[.int .u64 0, .int .i64 0, .pointer none]]) ∧ Kept (fun _ => False) w w' := by
  have hb := h.b
  have hn := h.n
  have hls := h.lt
  have hll : lb < w.heap.size := World.block_lt_of_cell? w _ h.b
  go_enter Try.func23, Try.ntmps23
  go_wp2
  go_quiet (fail)
  go_wp2
  refine bodyPost_ret (v := .tuple #[.int .u8 0, .agg #[.int .u64 0, .int .i64 0, .pointer none]]) (by simp [results, Try.results23, go_sem]) rfl ⟨rfl, ?_⟩
  repeat (first | with_reducible exact Kept.refl _ w | with_reducible refine Kept.drew ?_ | with_reducible refine Kept.drewN ?_ _ | with_reducible refine Kept.alloc ?_ _ | (with_reducible refine Kept.setCell ?_ ?_ _; rotate_left; (simp; try omega)))

set_option maxHeartbeats 2000000 in
set_option maxRecDepth 100000 in
/-- LimitData.ends: it closes. -/
theorem ends_close (lb sb : Nat) (bytes d sent : Int) (hlt : ¬ sent < bytes) (w : World) (h : LS w lb sb bytes d sent) :
    Calls Try.prog 23 #[.pointer (some ⟨lb, 0, none⟩), .pointer (some ⟨sb, 0, none⟩)] w fun e w' => e = .returned (.tuple #[.int .u8 1, .agg #[.int .u64 (d % 1000000000), .int .i64 (d / 1000000000), .pointer none]]) ∧ Kept (fun _ => False) w w' := by
  have hb := h.b
  have hn := h.n
  have t0 := h.s0
  have t1 := h.s1
  have t2 := h.s2
  have hls := h.lt
  have hll : lb < w.heap.size := World.block_lt_of_cell? w _ h.b
  go_enter Try.func23, Try.ntmps23
  go_wp2
  go_quiet (fail)
  go_wp2
  go_region
  all_goals
    go_wp2
    refine bodyPost_ret (v := .tuple #[.int .u8 1, .agg #[.int .u64 (d % 1000000000), .int .i64 (d / 1000000000), .pointer none]]) (by simp [results, Try.results23, go_sem]) rfl ⟨rfl, ?_⟩
    repeat (first | with_reducible exact Kept.refl _ w | with_reducible refine Kept.drew ?_ | with_reducible refine Kept.drewN ?_ _ | with_reducible refine Kept.alloc ?_ _ | (with_reducible refine Kept.setCell ?_ ?_ _; rotate_left; (simp; try omega)))

set_option maxHeartbeats 2000000 in
set_option maxRecDepth 100000 in
/-- ZZlimitDataEnds: it keeps. -/
theorem zends_keep (lb sb : Nat) (bytes d sent : Int) (hlt : sent < bytes) (w : World) (h : LS w lb sb bytes d sent) :
    Calls Try.prog 15 #[.pointer (some ⟨lb, 0, none⟩), .pointer (some ⟨sb, 0, none⟩)] w fun e w' => e = .returned (.tuple #[.int .u8 0, .int .i64 0]) ∧ Kept (fun _ => False) w w' := by
  go_enter Try.func15, Try.ntmps15
  go_wp2_with fail
  refine (ends_keep lb sb bytes d sent hlt _ h).mono ?_
  rintro e w1 ⟨rfl, k1⟩
  go_wp2_with fail
  refine (ns_any 0 (by decide) (by decide) _).mono ?_
  rintro e w2 ⟨rfl, k2⟩
  go_wp2
  go_ret2
  exact ⟨rfl, (k1.alloc _).trans k2 (fun _ _ h => h)⟩

set_option maxHeartbeats 2000000 in
set_option maxRecDepth 100000 in
/-- ZZlimitDataEnds: it closes. -/
theorem zends_close (lb sb : Nat) (bytes d sent : Int) (hd0 : -9223372036854775808 ≤ d) (hd1 : d ≤ 9223372036854775807) (hlt : ¬ sent < bytes) (w : World) (h : LS w lb sb bytes d sent) :
    Calls Try.prog 15 #[.pointer (some ⟨lb, 0, none⟩), .pointer (some ⟨sb, 0, none⟩)] w fun e w' => e = .returned (.tuple #[.int .u8 1, .int .i64 d]) ∧ Kept (fun _ => False) w w' := by
  go_enter Try.func15, Try.ntmps15
  go_wp2_with fail
  refine (ends_close lb sb bytes d sent (by omega) _ h).mono ?_
  rintro e w1 ⟨rfl, k1⟩
  go_wp2_with fail
  refine (ns_any d hd0 hd1 _).mono ?_
  rintro e w2 ⟨rfl, k2⟩
  go_wp2
  go_ret2
  exact ⟨rfl, (k1.alloc _).trans k2 (fun _ _ h => h)⟩

set_option maxHeartbeats 2000000 in
set_option maxRecDepth 100000 in
/-- ZZlimitDataLimit. -/
theorem zlimit_any (lb sb : Nat) (bytes d sent : Int) (h0 : 0 ≤ sent) (h1 : sent ≤ bytes) (h2 : bytes ≤ 9223372036854775807) (w : World) (h : LS w lb sb bytes d sent) :
    Calls Try.prog 16 #[.pointer (some ⟨lb, 0, none⟩), .pointer (some ⟨sb, 0, none⟩)] w fun e w' => e = .returned (.int .i64 (bytes - sent)) ∧ Kept (fun _ => False) w w' := by
  go_enter Try.func16, Try.ntmps16
  go_wp2_with fail
  refine (limit_any lb sb bytes d sent h0 h1 h2 _ h).mono ?_
  rintro e w1 ⟨rfl, k1⟩
  go_wp2
  go_ret
  exact ⟨rfl, k1⟩

set_option maxHeartbeats 2000000 in
set_option maxRecDepth 100000 in
/-- LimitData.passed. -/
theorem passed_any (lb sb : Nat) (bytes d sent n : Int) (t0 t1 : Int) (h0 : 0 ≤ sent) (hn : 0 ≤ n) (h1 : sent + n ≤ 9223372036854775807) (w : World) (h : LS w lb sb bytes d sent) :
    Calls Try.prog 25 #[.pointer (some ⟨lb, 0, none⟩), .pointer (some ⟨sb, 0, none⟩), .agg #[.int .u64 t0, .int .i64 t1, .pointer none], .int .i64 n] w fun e w' => e = .returned (.tuple #[]) ∧ LS w' lb sb bytes d (sent + n) ∧ Kept (fun k => k = sb) w w' := by
  have hnn := h.n
  have hff := h.f
  have hls := h.lt
  have ha := h.kept ((Kept.refl (fun _ => False) w).alloc (.cells #[.int .u64 t0, .int .i64 t1, .pointer none] 49)) (fun h => h) (fun h => h)
  have hna := ha.n
  have hfa := ha.f
  go_enter Try.func25, Try.ntmps25
  go_wp2
  go_end0
  exact ⟨rfl, (h.set (sent + n)).kept ((Kept.refl (fun _ => False) _).alloc _) (fun h => h) (fun h => h), ((Kept.refl (fun k => k = sb) w).setCell (p := ⟨sb, 14, none⟩) (fun _ => rfl) _).alloc _⟩

set_option maxHeartbeats 2000000 in
set_option maxRecDepth 100000 in
/-- ZZlimitDataPassed. -/
theorem zpassed_any (lb sb : Nat) (bytes d sent n : Int) (hd0 : -9223372036854775808 ≤ d) (hd1 : d ≤ 9223372036854775807) (h0 : 0 ≤ sent) (hn : 0 ≤ n) (h1 : sent + n ≤ 9223372036854775807) (w : World) (h : LS w lb sb bytes d sent) :
    Calls Try.prog 17 #[.pointer (some ⟨lb, 0, none⟩), .pointer (some ⟨sb, 0, none⟩), .int .i64 d, .int .i64 n] w fun e w' => e = .returned (.tuple #[]) ∧ LS w' lb sb bytes d (sent + n) ∧ Kept (fun k => k = sb) w w' := by
  go_enter Try.func17, Try.ntmps17
  go_wp2_with fail
  refine (at_any d hd0 hd1 _).mono ?_
  rintro e w1 ⟨rfl, k1⟩
  go_wp2_with fail
  refine (passed_any lb sb bytes d sent n _ _ h0 hn h1 _ (h.kept k1 (fun h => h) (fun h => h))).mono ?_
  rintro e w2 ⟨rfl, q, k2⟩
  go_wp2
  go_end0
  exact ⟨rfl, q, (k1.mono (fun _ _ h => h.elim)).trans k2 (fun _ _ h => h)⟩

set_option maxHeartbeats 2000000 in
set_option maxRecDepth 100000 in
/-- ZZnewStage. -/
theorem newStage_any (d : Int) (hd0 : -9223372036854775808 ≤ d) (hd1 : d ≤ 9223372036854775807) (w : World) (lb : Nat) (bytes : Int) (hb : w.cell? ⟨lb, 0, none⟩ = some (.int .i64 bytes)) :
    Calls Try.prog 6 #[.int .i64 0, .int .i64 d] w fun e w' => ∃ sb, e = .returned (.pointer (some ⟨sb, 0, none⟩)) ∧ w.heap.size ≤ sb ∧ LS w' lb sb bytes d 0 ∧ Kept (fun _ => False) w w' := by
  go_enter Try.func6, Try.ntmps6
  go_wp2_with fail
  refine (at_any 0 (by decide) (by decide) _).mono ?_
  rintro e w1 ⟨rfl, k1⟩
  go_wp2_with fail
  refine (at_any d hd0 hd1 _).mono ?_
  rintro e w2 ⟨rfl, k2⟩
  have hb2 := (k1.trans k2 (fun _ _ h => h)).cell' hb (fun h => h)
  have hlt : lb < w2.heap.size := World.block_lt_of_cell? w2 _ hb2
  have hsz : w.heap.size ≤ w2.heap.size := (k1.trans k2 (fun _ _ h => h)).size
  go_wp2
  go_ret
  refine ⟨w2.heap.size, rfl, hsz, ⟨?_, ?_, ?_, ?_, ?_, ?_, by omega⟩, (k1.trans k2 (fun _ _ h => h)).alloc _⟩
  · rw [World.cell?_of_block (Below.heap_alloc w2 _ lb hlt)]; exact hb2
  all_goals simp [go_sem]

end Go.Proofs.Qxb6612812a
