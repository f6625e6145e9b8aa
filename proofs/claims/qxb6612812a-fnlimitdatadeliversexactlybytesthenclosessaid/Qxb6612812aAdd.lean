import Derived.Test.Qxb6612812aTime
namespace Go.Proofs.Qxb6612812a
set_option linter.unusedVariables false
set_option linter.unusedSimpArgs false
open Go.RowKit

theorem tdiv_neg (d : Int) (h : d ≤ 0) : d.tdiv 1000000000 = -((-d) / 1000000000) := by
  have e : d = -(-d) := by omega
  rw [e, Int.neg_tdiv, Int.tdiv_eq_ediv_of_nonneg (by omega)]
  simp
theorem tmod_neg (d : Int) (h : d ≤ 0) : d.tmod 1000000000 = d + 1000000000 * ((-d) / 1000000000) := by
  rw [Int.tmod_def, tdiv_neg d h, Int.mul_neg]; omega

theorem andNot_zero : bits .andNot .u64 0 1073741823 = 0 := by decide

theorem w_neg (d : Int) (h0 : -9223372036854775808 ≤ d) (h1 : d < 0) (h2 : wrap32 (wrap32 (d.tmod 1000000000)) < 0) :
    wrap64 (d.tdiv 1000000000 - 1) = d / 1000000000 ∧ bits .or .u64 (bits .andNot .u64 0 1073741823) (IntKind.u64.wrap (wrap32 (wrap32 (wrap32 (d.tmod 1000000000)) + 1000000000))) = d % 1000000000 := by
  rw [tmod_neg d (by omega)] at h2 ⊢
  have e1 : wrap32 (d + 1000000000 * ((-d) / 1000000000)) = d + 1000000000 * ((-d) / 1000000000) := by unfold wrap32; omega
  rw [e1, e1] at h2
  rw [e1, e1, tdiv_neg d (by omega)]
  have e2 : wrap32 (d + 1000000000 * ((-d) / 1000000000) + 1000000000) = d % 1000000000 := by unfold wrap32; omega
  rw [e2, u64_wrap_id _ (by omega) (by omega), andNot_zero, or_zero _ (by omega) (by omega)]
  exact ⟨by unfold wrap64; omega, rfl⟩

theorem w_neg0 (d : Int) (h0 : -9223372036854775808 ≤ d) (h1 : d < 0) (h2 : 0 ≤ wrap32 (wrap32 (d.tmod 1000000000))) :
    d.tdiv 1000000000 = d / 1000000000 ∧ bits .or .u64 (bits .andNot .u64 0 1073741823) (wrap32 (wrap32 (d.tmod 1000000000))) = d % 1000000000 := by
  rw [tmod_neg d (by omega)] at h2 ⊢
  have e1 : wrap32 (d + 1000000000 * ((-d) / 1000000000)) = d + 1000000000 * ((-d) / 1000000000) := by unfold wrap32; omega
  rw [e1, e1] at h2
  rw [e1, e1, tdiv_neg d (by omega)]
  have e2 : d + 1000000000 * ((-d) / 1000000000) = d % 1000000000 := by omega
  rw [e2, andNot_zero, or_zero _ (by omega) (by omega)]
  exact ⟨by omega, rfl⟩

theorem w_no (d : Int) (h0 : -9223372036854775808 ≤ d) (h1 : d < 0) (h2 : 1000000000 ≤ wrap32 (wrap32 (d.tmod 1000000000))) : False := by
  rw [tmod_neg d (by omega)] at h2
  have e1 : wrap32 (d + 1000000000 * ((-d) / 1000000000)) = d + 1000000000 * ((-d) / 1000000000) := by unfold wrap32; omega
  rw [e1, e1] at h2
  omega

/-- What Add does behind the split of d. -/
def T (d : Int) : Value := .agg #[.int .u64 (d % 1000000000), .int .i64 (d / 1000000000), .pointer none]

set_option maxHeartbeats 2000000 in
set_option maxRecDepth 100000 in
theorem add_neg (d : Int) (hd0 : -9223372036854775808 ≤ d) (hneg : d < 0) (w : World) :
    Calls Try.prog 26 #[.agg #[.int .u64 0, .int .i64 0, .pointer none], .int .i64 d] w fun e w' => e = .returned (.agg #[.int .u64 (d % 1000000000), .int .i64 (d / 1000000000), .pointer none]) ∧ Kept (fun _ => False) w w' := by
  have hd1 : d ≤ 9223372036854775807 := by omega
  have hx0 : 0 ≤ d % 1000000000 := by omega
  have hx1 : d % 1000000000 < 1000000000 := by omega
  have hh := high_no (d % 1000000000) hx0 hx1
  go_enter Try.func26, Try.ntmps26
  go_wp2_with fail
  refine (nsec_any _ _ 0 (by decide) (by decide) _ (by simp [go_sem])).mono ?_
  rintro e w1 ⟨rfl, rfl⟩
  go_wp2_with fail
  · exact (w_no d hd0 hneg (by assumption)).elim
  · obtain ⟨e1, e2⟩ := w_neg d hd0 hneg (by assumption)
    rw [e1, e2]
    refine (addSec_any w.heap.size 0 (d % 1000000000) (d / 1000000000) hx0 hx1 (by omega) (by omega) _ (by simp [go_sem]) (by simp [go_sem]) (by simp [go_sem])).mono ?_
    rintro e w2 ⟨rfl, rfl⟩
    clear e1 e2
    go_wp2
    refine bodyPost_ret (v := .agg #[.int .u64 (d % 1000000000), .int .i64 (d / 1000000000), .pointer none]) (by simp [results, Try.results26, go_sem]) rfl ⟨rfl, ?_⟩
    repeat (first | with_reducible exact Kept.refl _ w | with_reducible refine Kept.drew ?_ | with_reducible refine Kept.alloc ?_ _ | (with_reducible refine Kept.setCell ?_ ?_ _; rotate_left; (simp; try omega)))
  · obtain ⟨e1, e2⟩ := w_neg0 d hd0 hneg (by assumption)
    rw [e1, e2]
    refine (addSec_any w.heap.size 0 (d % 1000000000) (d / 1000000000) hx0 hx1 (by omega) (by omega) _ (by simp [go_sem]) (by simp [go_sem]) (by simp [go_sem])).mono ?_
    rintro e w2 ⟨rfl, rfl⟩
    clear e1 e2
    go_wp2
    refine bodyPost_ret (v := .agg #[.int .u64 (d % 1000000000), .int .i64 (d / 1000000000), .pointer none]) (by simp [results, Try.results26, go_sem]) rfl ⟨rfl, ?_⟩
    repeat (first | with_reducible exact Kept.refl _ w | with_reducible refine Kept.drew ?_ | with_reducible refine Kept.alloc ?_ _ | (with_reducible refine Kept.setCell ?_ ?_ _; rotate_left; (simp; try omega)))

theorem w_pos (d : Int) (h0 : 0 ≤ d) (h1 : d ≤ 9223372036854775807) : wrap32 (d % 1000000000) = d % 1000000000 := by unfold wrap32; omega

set_option maxHeartbeats 2000000 in
set_option maxRecDepth 100000 in
theorem add_pos (d : Int) (hpos : 0 ≤ d) (hd1 : d ≤ 9223372036854775807) (w : World) :
    Calls Try.prog 26 #[.agg #[.int .u64 0, .int .i64 0, .pointer none], .int .i64 d] w fun e w' => e = .returned (.agg #[.int .u64 (d % 1000000000), .int .i64 (d / 1000000000), .pointer none]) ∧ Kept (fun _ => False) w w' := by
  have hx0 : 0 ≤ d % 1000000000 := by omega
  have hx1 : d % 1000000000 < 1000000000 := by omega
  have hh := high_no (d % 1000000000) hx0 hx1
  go_enter Try.func26, Try.ntmps26
  go_wp2_with fail
  refine (nsec_any _ _ 0 (by decide) (by decide) _ (by simp [go_sem])).mono ?_
  rintro e w1 ⟨rfl, rfl⟩
  go_wp2_with fail
  rw [andNot_zero, or_zero _ hx0 hx1]
  refine (addSec_any w.heap.size 0 (d % 1000000000) (d / 1000000000) hx0 hx1 (by omega) (by omega) _ (by simp [go_sem]) (by simp [go_sem]) (by simp [go_sem])).mono ?_
  rintro e w2 ⟨rfl, rfl⟩
  go_wp2
  refine bodyPost_ret (v := .agg #[.int .u64 (d % 1000000000), .int .i64 (d / 1000000000), .pointer none]) (by simp [results, Try.results26, go_sem]) rfl ⟨rfl, ?_⟩
  repeat (first | with_reducible exact Kept.refl _ w | with_reducible refine Kept.drew ?_ | with_reducible refine Kept.alloc ?_ _ | (with_reducible refine Kept.setCell ?_ ?_ _; rotate_left; (simp; try omega)))

/-- Time.Add, onto the zero Time. -/
theorem add_any (d : Int) (h0 : -9223372036854775808 ≤ d) (h1 : d ≤ 9223372036854775807) (w : World) :
    Calls Try.prog 26 #[.agg #[.int .u64 0, .int .i64 0, .pointer none], .int .i64 d] w fun e w' => e = .returned (.agg #[.int .u64 (d % 1000000000), .int .i64 (d / 1000000000), .pointer none]) ∧ Kept (fun _ => False) w w' := by
  by_cases h : d < 0
  · exact add_neg d h0 h w
  · exact add_pos d (by omega) h1 w

set_option maxHeartbeats 2000000 in
set_option maxRecDepth 100000 in
/-- zzb1At. -/
theorem at_any (d : Int) (h0 : -9223372036854775808 ≤ d) (h1 : d ≤ 9223372036854775807) (w : World) :
    Calls Try.prog 19 #[.int .i64 d] w fun e w' => e = .returned (.agg #[.int .u64 (d % 1000000000), .int .i64 (d / 1000000000), .pointer none]) ∧ Kept (fun _ => False) w w' := by
  go_enter Try.func19, Try.ntmps19
  go_wp2_with fail
  refine (add_any d h0 h1 _).mono ?_
  rintro e w1 ⟨rfl, k1⟩
  have z0 := k1.cell' (p := ⟨w.heap.size, 0, none⟩) (v := .int .u64 0) (by simp [go_sem]) (fun h => h)
  have z1 := k1.cell' (p := ⟨w.heap.size, 1, none⟩) (v := .int .i64 0) (by simp [go_sem]) (fun h => h)
  have z2 := k1.cell' (p := ⟨w.heap.size, 2, none⟩) (v := .pointer none) (by simp [go_sem]) (fun h => h)
  have zf : ∀ o, w1.frozen? ⟨w.heap.size, o, none⟩ = false := fun o => by rw [k1.frozen (p := ⟨w.heap.size, o, none⟩) (by simp) (fun h => h)]; simp [go_sem]
  have kk := ((Kept.refl (fun _ => False) w).alloc _).trans k1 (fun _ _ h => h)
  go_wp2
  refine bodyPost_ret (v := .agg #[.int .u64 (d % 1000000000), .int .i64 (d / 1000000000), .pointer none]) (by simp [results, Try.results19, go_sem, *]) rfl ⟨rfl, ?_⟩
  repeat (first | with_reducible exact kk | with_reducible refine Kept.drew ?_ | with_reducible refine Kept.alloc ?_ _ | (with_reducible refine Kept.setCell ?_ ?_ _; rotate_left; (simp; try omega)))

theorem and_self (x : Int) (h0 : 0 ≤ x) (h1 : x < 1000000000) : bits .and .u64 x x = x := by
  obtain ⟨n, rfl⟩ := Int.eq_ofNat_of_zero_le h0
  have h := (bits_nat .u64 64 (by decide) wraps_u64 n n (by show n < 18446744073709551616; omega) (by show n < 18446744073709551616; omega)).1
  rw [Nat.and_self] at h
  exact h

set_option maxHeartbeats 2000000 in
set_option maxRecDepth 100000 in
/-- Time.Equal, of one Time and itself. -/
theorem equal_any (x y : Int) (h0 : 0 ≤ x) (h1 : x < 1000000000) (w : World) :
    Calls Try.prog 36 #[.agg #[.int .u64 x, .int .i64 y, .pointer none], .agg #[.int .u64 x, .int .i64 y, .pointer none]] w fun e w' => e = .returned (.bool true) ∧ Kept (fun _ => False) w w' := by
  have hh : (bits .and .u64 (bits .and .u64 x x) 9223372036854775808 != 0) = false := by rw [and_self x h0 h1]; exact high_no x h0 h1
  have g1 : (x == x) = true := by simp
  have g2 : (y == y) = true := by simp
  go_enter Try.func36, Try.ntmps36
  go_wp2_with fail
  refine (sec_any w.heap.size 0 x y h0 h1 _ (by simp [go_sem]) (by simp [go_sem])).mono ?_
  rintro e w1 ⟨rfl, rfl⟩
  go_wp2_with fail
  refine (sec_any (w.heap.size + 1) 0 x y h0 h1 _ (by simp [go_sem]) (by simp [go_sem])).mono ?_
  rintro e w1 ⟨rfl, rfl⟩
  go_wp2_with fail
  refine (nsec_any w.heap.size 0 x h0 h1 _ (by simp [go_sem])).mono ?_
  rintro e w1 ⟨rfl, rfl⟩
  go_wp2_with fail
  refine (nsec_any (w.heap.size + 1) 0 x h0 h1 _ (by simp [go_sem])).mono ?_
  rintro e w1 ⟨rfl, rfl⟩
  go_wp2
  go_ret
  exact ⟨rfl, ((Kept.refl _ w).alloc _).alloc _⟩

theorem back (d : Int) (h0 : -9223372036854775808 ≤ d) (h1 : d ≤ 9223372036854775807) : wrap64 (wrap64 (d / 1000000000 * 1000000000) + d % 1000000000) = d := by
  unfold wrap64; omega

/-- Two boxed Times. -/
def ST (bb : Nat) (d : Int) (w' : World) : Prop :=
  w'.cell? ⟨bb, 0, none⟩ = some (.int .u64 (d % 1000000000)) ∧ w'.cell? ⟨bb, 1, none⟩ = some (.int .i64 (d / 1000000000)) ∧ w'.cell? ⟨bb, 2, none⟩ = some (.pointer none) ∧ w'.cell? ⟨bb + 1, 0, none⟩ = some (.int .u64 0) ∧ w'.cell? ⟨bb + 1, 1, none⟩ = some (.int .i64 0) ∧ w'.cell? ⟨bb + 1, 2, none⟩ = some (.pointer none)
theorem ST_kept {bb : Nat} {d : Int} {w w' : World} (hk : Kept (fun _ => False) w w') (h : ST bb d w) : ST bb d w' := by
  obtain ⟨a0, a1, a2, a3, a4, a5⟩ := h
  have f : ¬ False := fun h => h
  exact ⟨hk.cell' a0 f, hk.cell' a1 f, hk.cell' a2 f, hk.cell' a3 f, hk.cell' a4 f, hk.cell' a5 f⟩

set_option maxHeartbeats 4000000 in
set_option maxRecDepth 100000 in
/-- Time.Sub the zero Time. -/
theorem sub_any (d : Int) (hd0 : -9223372036854775808 ≤ d) (hd1 : d ≤ 9223372036854775807) (w : World) :
    Calls Try.prog 27 #[.agg #[.int .u64 (d % 1000000000), .int .i64 (d / 1000000000), .pointer none], .agg #[.int .u64 0, .int .i64 0, .pointer none]] w fun e w' => e = .returned (.int .i64 d) ∧ Kept (fun _ => False) w w' := by
  have hx0 : 0 ≤ d % 1000000000 := by omega
  have hx1 : d % 1000000000 < 1000000000 := by omega
  have hh : (bits .and .u64 (bits .and .u64 (d % 1000000000) 0) 9223372036854775808 != 0) = false := by rw [and_zero _ hx0 hx1]; exact high_no 0 (by decide) (by decide)
  have HB : Hid (_ = d) := back d hd0 hd1
  go_enter Try.func27, Try.ntmps27
  go_wp2_with fail
  refine (sec_any w.heap.size 0 (d % 1000000000) (d / 1000000000) hx0 hx1 _ (by simp [go_sem]) (by simp [go_sem])).mono ?_
  rintro e w1 ⟨rfl, rfl⟩
  go_wp2_with fail
  refine (sec_any (w.heap.size + 1) 0 0 0 (by decide) (by decide) _ (by simp [go_sem]) (by simp [go_sem])).mono ?_
  rintro e w1 ⟨rfl, rfl⟩
  go_wp2_with fail
  refine (nsec_any w.heap.size 0 (d % 1000000000) hx0 hx1 _ (by simp [go_sem])).mono ?_
  rintro e w1 ⟨rfl, rfl⟩
  go_wp2_with fail
  refine (nsec_any (w.heap.size + 1) 0 0 (by decide) (by decide) _ (by simp [go_sem])).mono ?_
  rintro e w1 ⟨rfl, rfl⟩
  go_wp2_with fail
  rw [HB.out]
  have hk0 : Kept (fun _ => False) w ((w.alloc (.cells #[.int .u64 (d % 1000000000), .int .i64 (d / 1000000000), .pointer none] 49)).alloc (.cells #[.int .u64 0, .int .i64 0, .pointer none] 49)) := ((Kept.refl _ w).alloc _).alloc _
  have hS : ST w.heap.size d ((w.alloc (.cells #[.int .u64 (d % 1000000000), .int .i64 (d / 1000000000), .pointer none] 49)).alloc (.cells #[.int .u64 0, .int .i64 0, .pointer none] 49)) := ⟨by simp [go_sem], by simp [go_sem], by simp [go_sem], by simp [go_sem], by simp [go_sem], by simp [go_sem]⟩
  generalize hW : (w.alloc (.cells #[.int .u64 (d % 1000000000), .int .i64 (d / 1000000000), .pointer none] 49)).alloc (.cells #[.int .u64 0, .int .i64 0, .pointer none] 49) = W at *
  obtain ⟨bb, hbb⟩ : ∃ bb, w.heap.size = bb := ⟨_, rfl⟩
  rw [hbb] at hS ⊢
  clear hW hbb
  have hD : ST bb d W.drew := ST_kept ((Kept.refl _ W).drew) hS
  go_region_held3 (fun w' => w'.cell? ⟨bb, 0, none⟩ = some (.int .u64 (d % 1000000000)) ∧ w'.cell? ⟨bb, 1, none⟩ = some (.int .i64 (d / 1000000000)) ∧ w'.cell? ⟨bb, 2, none⟩ = some (.pointer none) ∧ w'.cell? ⟨bb + 1, 0, none⟩ = some (.int .u64 0) ∧ w'.cell? ⟨bb + 1, 1, none⟩ = some (.int .i64 0) ∧ w'.cell? ⟨bb + 1, 2, none⟩ = some (.pointer none)) ((show ST bb d _; first | with_reducible exact hD | with_reducible exact ST_kept hk2 (ST_kept hk1 hD) | with_reducible exact ST_kept hk1 hD))
    (first | (go_at_call 26; refine (add_any d hd0 hd1 _).mono ?_; rintro e w1 ⟨rfl, hk1⟩) | (go_at_call 36; refine (equal_any (d % 1000000000) (d / 1000000000) hx0 hx1 _).mono ?_; rintro e w2 ⟨rfl, hk2⟩))
  go_wp2
  go_ret
  exact ⟨rfl, (hk0.drew).trans (hk1.trans hk2 (fun _ _ h => h)) (fun _ _ h => h)⟩

set_option maxHeartbeats 2000000 in
set_option maxRecDepth 100000 in
/-- zzb1Ns. -/
theorem ns_any (d : Int) (hd0 : -9223372036854775808 ≤ d) (hd1 : d ≤ 9223372036854775807) (w : World) :
    Calls Try.prog 20 #[.agg #[.int .u64 (d % 1000000000), .int .i64 (d / 1000000000), .pointer none]] w fun e w' => e = .returned (.int .i64 d) ∧ Kept (fun _ => False) w w' := by
  go_enter Try.func20, Try.ntmps20
  go_wp2_with fail
  refine (sub_any d hd0 hd1 _).mono ?_
  rintro e w1 ⟨rfl, k1⟩
  go_wp2
  go_ret
  exact ⟨rfl, ((Kept.refl (fun _ => False) w).alloc _).trans k1 (fun _ _ h => h)⟩

end Go.Proofs.Qxb6612812a
