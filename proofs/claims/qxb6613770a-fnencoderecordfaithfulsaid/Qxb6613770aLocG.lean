import Derived.Test.Qxb6613770aCopy
namespace Go.Proofs.Qxb6613770a
set_option linter.unusedVariables false
set_option linter.unusedSimpArgs false
open Go.RowKit

set_option maxHeartbeats 2000000 in
set_option maxRecDepth 100000 in
/-- zzBytes of a Located: do the four lengths add up to at most 1<<20? -/
theorem bytesL_any (v0 v1 v4 v6 v7 : Value) (s1 s2 s3 : ByteArray) (aa : Option Addr) (n c : Nat) (h1 : s1.size ≤ maxLen) (h2 : s2.size ≤ maxLen) (h3 : s3.size ≤ maxLen) (hn : n ≤ maxLen) (w : World)
    (o0 : v0.oneCell' = true) (o1 : v1.oneCell' = true) (o4 : v4.oneCell' = true) (o6 : v6.oneCell' = true) (o7 : v7.oneCell' = true) :
    Calls Try.prog 9 #[.agg #[v0, v1, .string s1, .string s2, v4, .string s3, v6, v7, .slice aa n c]] w fun e w' => e = .returned (.bool (decide (s1.size + s2.size + s3.size + n ≤ 1048576))) ∧ Kept (fun _ => False) w w' := by
  unfold maxLen at h1 h2 h3 hn
  go_enter Try.func9, Try.ntmps9
  go_wp2
  all_goals (go_ret; exact ⟨ret_bool (by symm; first | exact decide_eq_true (by omega) | exact decide_eq_false (by omega)), (Kept.refl _ w).alloc _⟩)

set_option maxHeartbeats 2000000 in
set_option maxRecDepth 100000 in
/-- zzAdd. -/
theorem add_any (s n : Int) (hs0 : 0 ≤ s) (hs1 : s ≤ 1048577) (hn0 : 0 ≤ n) (hn1 : n ≤ 9223372036854775807) (w : World) :
    Calls Try.prog 40 #[.int .i64 s, .int .i64 n] w fun e w' => ∃ r : Int, e = .returned (.int .i64 r) ∧ 0 ≤ r ∧ r ≤ 1048577 ∧ w = w' := by
  by_cases g1 : 1048576 < s
  · go_enter Try.func40, Try.ntmps40
    go_wp2
    go_ret
    exact ⟨_, rfl, by omega, by omega, rfl⟩
  · by_cases g2 : 1048576 < n
    · have g3 : ¬ n < 0 := by omega
      go_enter Try.func40, Try.ntmps40
      go_wp2
      go_ret
      exact ⟨_, rfl, by omega, by omega, rfl⟩
    · have g3 : ¬ n < 0 := by omega
      by_cases g4 : 1048576 < s + n
      · go_enter Try.func40, Try.ntmps40
        go_wp2
        go_ret
        exact ⟨_, rfl, by omega, by omega, rfl⟩
      · go_enter Try.func40, Try.ntmps40
        go_wp2
        go_ret
        exact ⟨s + n, rfl, by omega, by omega, rfl⟩

set_option maxHeartbeats 2000000 in
set_option maxRecDepth 100000 in
/-- zzLocatedSize: some number. -/
theorem sizeL_any (v0 v1 v4 v6 v7 : Value) (s1 s2 s3 : ByteArray) (aa : Option Addr) (n c : Nat) (h1 : s1.size ≤ 1048576) (h2 : s2.size ≤ 1048576) (h3 : s3.size ≤ 1048576) (hn : n ≤ 1048576) (w : World)
    (o0 : v0.oneCell' = true) (o1 : v1.oneCell' = true) (o4 : v4.oneCell' = true) (o6 : v6.oneCell' = true) (o7 : v7.oneCell' = true) :
    Calls Try.prog 10 #[.agg #[v0, v1, .string s1, .string s2, v4, .string s3, v6, v7, .slice aa n c]] w fun e w' => ∃ r : Int, e = .returned (.int .i64 r) ∧ 0 ≤ r ∧ r ≤ 1048577 ∧ Kept (fun _ => False) w w' := by
  by_cases hn8 : 131072 < n
  · have hn8' : (131072 : Int) < (n : Int) := by omega
    go_enter Try.func10, Try.ntmps10
    go_wp2_with fail
    refine (add_any 0 (s1.size : Int) (by omega) (by omega) (by omega) (by omega) _).mono ?_
    rintro e w1 ⟨r1, rfl, q0, q1, rfl⟩
    go_wp2_with fail
    refine (add_any r1 (s2.size : Int) (by omega) (by omega) (by omega) (by omega) _).mono ?_
    rintro e w2 ⟨r2, rfl, q2, q3, rfl⟩
    go_wp2_with fail
    refine (add_any r2 (s3.size : Int) (by omega) (by omega) (by omega) (by omega) _).mono ?_
    rintro e w3 ⟨r3, rfl, q4, q5, rfl⟩
    go_wp2_with fail
    go_ret
    exact ⟨_, rfl, by omega, by omega, (Kept.refl _ w).alloc _⟩
  · have hn8' : ¬ (131072 : Int) < (n : Int) := by omega
    go_enter Try.func10, Try.ntmps10
    go_wp2_with fail
    refine (add_any 0 (s1.size : Int) (by omega) (by omega) (by omega) (by omega) _).mono ?_
    rintro e w1 ⟨r1, rfl, q0, q1, rfl⟩
    go_wp2_with fail
    refine (add_any r1 (s2.size : Int) (by omega) (by omega) (by omega) (by omega) _).mono ?_
    rintro e w2 ⟨r2, rfl, q2, q3, rfl⟩
    go_wp2_with fail
    refine (add_any r2 (s3.size : Int) (by omega) (by omega) (by omega) (by omega) _).mono ?_
    rintro e w3 ⟨r3, rfl, q4, q5, rfl⟩
    go_wp2_with fail
    refine (add_any r3 (8 * (n : Int)) (by omega) (by omega) (by omega) (by omega) _).mono ?_
    rintro e w4 ⟨r4, rfl, q6, q7, rfl⟩
    go_wp2_with fail
    go_ret
    exact ⟨r4, rfl, q6, q7, (Kept.refl _ w).alloc _⟩

end Go.Proofs.Qxb6613770a
