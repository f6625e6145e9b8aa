import Derived.Test.Qxb6613770aCopy
import Derived.Test.Qxb6613770aVar
namespace Go.Proofs.Qxb6613770a
set_option linter.unusedVariables false
set_option linter.unusedSimpArgs false
open Go.RowKit

set_option maxHeartbeats 2000000 in
set_option maxRecDepth 100000 in
/-- zzULen: the bytes of v's varint. -/
theorem ulen_any (x : Nat) (hx : x < 18446744073709551616) (w : World) :
    Calls Try.prog 39 #[.int .u64 x] w fun e w' => e = .returned (.int .i64 ((Lib.uvarint x).length : Int)) ∧ w = w' := by
  have hl := Lib.uvarint_length64 hx
  go_enter Try.func39, Try.ntmps39
  go_wp2
  go_loop [3] (fun kk => ∃ k : Nat, kk = .int .i64 k ∧ 1 ≤ k ∧ k ≤ 10 ∧ k ≤ (Lib.uvarint x).length) (fun kk => 10 - (intOf kk).toNat)
  case atStart => exact ⟨1, rfl, by omega, by omega, Lib.uvarint_pos x⟩
  case round =>
    obtain ⟨k, rfl, hk1, hk2, hk3⟩ := hrel
    go_wp2
    · have h1 : (k : Int) < 10 := by assumption
      have h2 : IntKind.u64.wrap (2 ^ (7 * k)) ≤ (x : Int) := by assumption
      rw [wrap_pow k (by omega)] at h2
      have h3 := uvarint_len_gt k x (by omega)
      go_round
      case rel => exact ⟨k + 1, by go_num, by omega, by omega, h3⟩
      case measure => simp [intOf]; omega
    · have h1 : (k : Int) < 10 := by assumption
      have h2 : (x : Int) < IntKind.u64.wrap (2 ^ (7 * k)) := by assumption
      rw [wrap_pow k (by omega)] at h2
      have h3 := uvarint_len_le (k - 1) x (by rw [Nat.sub_add_cancel hk1]; omega)
      go_ret
      exact ⟨ret_int (by omega), rfl⟩
    · have h1 : (10 : Int) ≤ k := by assumption
      go_ret
      exact ⟨ret_int (by omega), rfl⟩

set_option maxHeartbeats 2000000 in
set_option maxRecDepth 100000 in
/-- zzProperPrefix. -/
theorem proper_any (a0 : Option Addr) (b1 : Nat) (n0 n1 c0 c1 : Nat) (xs ys : List UInt8) (w : World) (h0 : BytesAt w a0 xs) (h1 : BytesAt w (some ⟨b1, 0, none⟩) ys) (hx : xs.length = n0) (hy : ys.length = n1) (hl0 : n0 ≤ maxLen) (hl1 : n1 ≤ c1) (hl2 : c1 ≤ maxLen) :
    Calls Try.prog 22 #[.slice a0 n0 c0, .slice (some ⟨b1, 0, none⟩) n1 c1] w fun e w' => e = .returned (.bool (isProper xs ys)) ∧ Same w w' := by
  have HL0 := hl0
  unfold maxLen at hl0 hl2
  by_cases h : n0 < n1
  · have hr : isProper xs ys = (xs == ys.take n0) := by
      simp only [isProper, hx, hy, h, decide_true, Bool.true_and]
    have h' : (n0 : Int) < (n1 : Int) := by omega
    rw [hr]
    have HX : Hid (xs.length = n0) := hx
    have HY : Hid (ys.length = n1) := hy
    have ht : BytesAt w (some ⟨b1, 0, none⟩) (ys.take n0) := by
      have : ys = ys.take n0 ++ ys.drop n0 := (List.take_append_drop _ _).symm
      rw [this] at h1
      exact h1.take
    have HT : Hid ((ys.take n0).length = n0) := by show _ = _; rw [List.length_take]; omega
    clear hx hy hr
    go_enter Try.func22, Try.ntmps22
    go_wp2_with (go_at_call 21; refine (same_any a0 (some ⟨b1, 0, none⟩) n0 n0 c0 c1 xs (ys.take n0) _ h0 ht HX.out HT.out HL0 HL0).mono ?_; rintro e w' ⟨rfl, hs⟩)
    go_ret
    exact ⟨rfl, hs⟩
  · have hr : isProper xs ys = false := by
      simp only [isProper, hx, hy, h, decide_false, Bool.false_and]
    have h' : ¬ (n0 : Int) < (n1 : Int) := by omega
    rw [hr]
    clear hx hy hr
    go_enter Try.func22, Try.ntmps22
    go_wp2
    go_ret
    exact ⟨rfl, Same.refl _⟩

end Go.Proofs.Qxb6613770a
