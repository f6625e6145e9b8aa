import Derived.Test.Qxb6612812aRows
import Derived.Test.Qxb6612812aFrame
import Derived.WalkKit
import Derived.WalkSpells
import Derived.WalkLawsBesides
import Derived.Deep.RegionWith
import Derived.Deep.RegionHeld3
import Derived.Deep.QuietTactic
import Derived.BigQuiet
import Derived.BigRegion
import Derived.ChangeAlike
import Derived.Lib.VarintBits
namespace Go.Proofs.Qxb6612812a
set_option linter.unusedVariables false
set_option linter.unusedSimpArgs false
open Go.RowKit

theorem ret_bool {a b : Bool} (h : a = b) : Ending.returned (.bool a) = .returned (.bool b) := by rw [h]
theorem ret_int {k : IntKind} {a b : Int} (h : a = b) : Ending.returned (.int k a) = .returned (.int k b) := by rw [h]

theorem and_mask (x : Int) (h0 : 0 ≤ x) (h1 : x < 1000000000) : bits .and .u64 x 1073741823 = x := by
  have h := bits_mask .u64 64 (by decide) wraps_u64 30 (by decide) x h0 (by show x < 18446744073709551616; omega)
  have e1 : (2 : Int) ^ 30 - 1 = 1073741823 := by decide
  have e2 : (2 : Int) ^ 30 = 1073741824 := by decide
  rw [e1, e2] at h
  rw [h]; omega

theorem land_high (n : Nat) (h : n < 2 ^ 63) : n &&& 2 ^ 63 = 0 := by
  apply Nat.eq_of_testBit_eq
  intro i
  rw [Nat.testBit_and, Nat.testBit_two_pow, Nat.zero_testBit]
  by_cases hi : 63 = i
  · subst hi
    rw [Nat.testBit_lt_two_pow h]; rfl
  · simp [hi]

theorem and_high (x : Int) (h0 : 0 ≤ x) (h1 : x < 1000000000) : bits .and .u64 x 9223372036854775808 = 0 := by
  obtain ⟨n, rfl⟩ := Int.eq_ofNat_of_zero_le h0
  have h := (bits_nat .u64 64 (by decide) wraps_u64 n (2 ^ 63) (by show n < 18446744073709551616; omega) (by decide)).1
  rw [land_high n (by show n < 9223372036854775808; omega)] at h
  exact h

theorem high_no (x : Int) (h0 : 0 ≤ x) (h1 : x < 1000000000) : (bits .and .u64 x 9223372036854775808 != 0) = false := by
  rw [and_high x h0 h1]; rfl

theorem and_zero (x : Int) (h0 : 0 ≤ x) (h1 : x < 1000000000) : bits .and .u64 x 0 = 0 := by
  obtain ⟨n, rfl⟩ := Int.eq_ofNat_of_zero_le h0
  have h := (bits_nat .u64 64 (by decide) wraps_u64 n 0 (by show n < 18446744073709551616; omega) (by decide)).1
  rw [Nat.and_zero] at h
  exact h

theorem or_zero (x : Int) (h0 : 0 ≤ x) (h1 : x < 1000000000) : bits .or .u64 0 x = x := by
  obtain ⟨n, rfl⟩ := Int.eq_ofNat_of_zero_le h0
  have h := (bits_nat .u64 64 (by decide) wraps_u64 0 n (by decide) (by show n < 18446744073709551616; omega)).2
  rw [Nat.zero_or] at h
  exact h

theorem wrap32_id (x : Int) (h0 : 0 ≤ x) (h1 : x < 1000000000) : wrap32 x = x := by unfold wrap32; omega

set_option maxHeartbeats 1000000 in
set_option maxRecDepth 100000 in
/-- Time.nsec. -/
theorem nsec_any (tb to : Nat) (x : Int) (h0 : 0 ≤ x) (h1 : x < 1000000000) (w : World) (hc : w.cell? ⟨tb, to, none⟩ = some (.int .u64 x)) :
    Calls Try.prog 31 #[.pointer (some ⟨tb, to, none⟩)] w fun e w' => e = .returned (.int .i32 x) ∧ w = w' := by
  go_enter Try.func31, Try.ntmps31
  go_wp2
  go_ret
  exact ⟨ret_int (by rw [and_mask x h0 h1, wrap32_id x h0 h1]), rfl⟩

set_option maxHeartbeats 1000000 in
set_option maxRecDepth 100000 in
/-- Time.sec. -/
theorem sec_any (tb to : Nat) (x y : Int) (h0 : 0 ≤ x) (h1 : x < 1000000000) (w : World) (hc : w.cell? ⟨tb, to, none⟩ = some (.int .u64 x)) (hd : w.cell? ⟨tb, to + 1, none⟩ = some (.int .i64 y)) :
    Calls Try.prog 35 #[.pointer (some ⟨tb, to, none⟩)] w fun e w' => e = .returned (.int .i64 y) ∧ w = w' := by
  have hh := high_no x h0 h1
  go_enter Try.func35, Try.ntmps35
  go_wp2
  go_ret
  exact ⟨rfl, rfl⟩

set_option maxHeartbeats 1000000 in
set_option maxRecDepth 100000 in
/-- Time.addSec, onto ext = 0. -/
theorem addSec_any (tb to : Nat) (x d : Int) (h0 : 0 ≤ x) (h1 : x < 1000000000) (hd0 : -10000000000 ≤ d) (hd1 : d ≤ 10000000000) (w : World) (hc : w.cell? ⟨tb, to, none⟩ = some (.int .u64 x)) (hd : w.cell? ⟨tb, to + 1, none⟩ = some (.int .i64 0)) (hf : w.frozen? ⟨tb, to + 1, none⟩ = false) :
    Calls Try.prog 32 #[.pointer (some ⟨tb, to, none⟩), .int .i64 d] w fun e w' => e = .returned (.tuple #[]) ∧ w' = w.setCell ⟨tb, to + 1, none⟩ (.int .i64 d) := by
  have hh := high_no x h0 h1
  by_cases hp : 0 < d
  · go_enter Try.func32, Try.ntmps32
    go_wp2
    all_goals (go_end0; exact ⟨rfl, rfl⟩)
  · have hp' : ¬ 0 < d := hp
    go_enter Try.func32, Try.ntmps32
    go_wp2
    all_goals (go_end0; exact ⟨rfl, rfl⟩)

end Go.Proofs.Qxb6612812a
