import Derived.Lib.VarintBits
import Derived.Lib.VarintMem
namespace Go.Proofs.Qxb6613770a
set_option linter.unusedVariables false
set_option linter.unusedSimpArgs false

theorem pow128 (k : Nat) : 128 ^ k = 2 ^ (7 * k) := by
  rw [Nat.pow_mul]

theorem or_step (x k c : Nat) (hc : c < 256) (hcm : c % 128 = x / 128 ^ k % 128) (hx : x < 18446744073709551616) :
    bits .or .u64 ((x : Int) % 128 ^ k) (IntKind.u64.wrap (IntKind.u64.wrap (bits .and .u8 (c : Int) 127) * 2 ^ (7 * k))) = ((x % 128 ^ (k + 1) : Nat) : Int) := by
  have hp : 0 < 128 ^ k := Nat.pow_pos (by decide)
  have e0 : bits .and .u8 (c : Int) 127 = ((c % 128 : Nat) : Int) := by
    rw [u8_and127 _ (by omega) (by omega)]; omega
  have hle : 128 ^ k * (x / 128 ^ k % 128) ≤ x := by
    have h1 : x / 128 ^ k % 128 ≤ x / 128 ^ k := Nat.mod_le _ _
    have h2 : 128 ^ k * (x / 128 ^ k % 128) ≤ 128 ^ k * (x / 128 ^ k) := Nat.mul_le_mul_left _ h1
    have h3 := Nat.mul_div_le x (128 ^ k)
    omega
  have e1 : IntKind.u64.wrap ((c % 128 : Nat) : Int) = ((c % 128 : Nat) : Int) := u64_wrap_id _ (by omega) (by omega)
  have e2 : ((c % 128 : Nat) : Int) * 2 ^ (7 * k) = ((128 ^ k * (x / 128 ^ k % 128) : Nat) : Int) := by
    rw [hcm, pow128, Int.natCast_mul, Int.natCast_pow, Int.mul_comm]; rfl
  have e3 : IntKind.u64.wrap ((128 ^ k * (x / 128 ^ k % 128) : Nat) : Int) = ((128 ^ k * (x / 128 ^ k % 128) : Nat) : Int) := u64_wrap_id _ (by omega) (by omega)
  have e4 : ((x : Int) % 128 ^ k) = ((x % 128 ^ k : Nat) : Int) := by
    rw [Int.natCast_emod, Int.natCast_pow]; rfl
  rw [e0, e1, e2, e3, e4, Nat.mod_pow_succ]
  have hlt : x % 128 ^ k < 128 ^ k := Nat.mod_lt _ hp
  have hle2 : x % 128 ^ k ≤ x := Nat.mod_le _ _
  have c1 : ((x % 128 ^ k : Nat) : Int) < 2 ^ (7 * k) := by
    have : ((x % 128 ^ k : Nat) : Int) < ((2 ^ (7 * k) : Nat) : Int) := by rw [← pow128]; exact Int.ofNat_lt.2 hlt
    rw [Int.natCast_pow] at this; exact this
  have c2 : ((128 ^ k * (x / 128 ^ k % 128) : Nat) : Int) % 2 ^ (7 * k) = 0 := by
    have : ((128 ^ k * (x / 128 ^ k % 128) : Nat) : Int) % ((2 ^ (7 * k) : Nat) : Int) = 0 := by
      rw [← pow128, ← Int.natCast_emod, Nat.mul_mod_right]; rfl
    rw [Int.natCast_pow] at this; exact this
  have hj := bits_join_low .u64 64 (by decide) wraps_u64 (7 * k) ((x % 128 ^ k : Nat) : Int) ((128 ^ k * (x / 128 ^ k % 128) : Nat) : Int) (by omega) c1 (by
    show _ < (18446744073709551616 : Int); omega) (by omega) c2 (by show _ < (18446744073709551616 : Int); omega)
  rw [hj]; omega

theorem or_nine (x c : Nat) (hc : c < 256) (hcm : c % 128 = x / 128 ^ 9 % 128) (hx : x < 18446744073709551616) (h2 : x / 128 ^ 9 < 128) (hm : x % 128 ^ (9 + 1) = x) :
    bits .or .u64 ((x : Int) % 9223372036854775808) (IntKind.u64.wrap (IntKind.u64.wrap (bits .and .u8 (c : Int) 127) * 9223372036854775808)) = (x : Int) := by
  have h := or_step x 9 c hc hcm hx
  have e1 : (128 : Int) ^ 9 = 9223372036854775808 := by decide
  have e2 : (2 : Int) ^ (7 * 9) = 9223372036854775808 := by decide
  rw [e1, e2, hm] at h
  exact h

theorem mod_last {x k : Nat} (h : x / 128 ^ k < 128) : x % 128 ^ (k + 1) = x := by
  apply Nat.mod_eq_of_lt
  rw [Nat.pow_succ, Nat.mul_comm]
  exact (Nat.div_lt_iff_lt_mul (Nat.pow_pos (by decide))).1 h

theorem div_next (x k : Nat) : x / 128 ^ (k + 1) = x / 128 ^ k / 128 := by
  rw [Nat.pow_succ, Nat.div_div_eq_div_mul]

theorem div_nine {x : Nat} (h : x < 18446744073709551616) : x / 128 ^ 9 < 2 := by
  apply Nat.div_lt_of_lt_mul
  exact Nat.lt_of_lt_of_le h (by decide)

theorem wrap_pow (k : Nat) (hk : k < 10) : IntKind.u64.wrap (2 ^ (7 * k)) = ((128 ^ k : Nat) : Int) := by
  have h1 : 128 ^ k ≤ 128 ^ 9 := Nat.pow_le_pow_right (by decide) (by omega)
  have h2 : (128 : Nat) ^ 9 = 9223372036854775808 := by decide
  have e : (2 : Int) ^ (7 * k) = ((128 ^ k : Nat) : Int) := by rw [pow128, Int.natCast_pow]; rfl
  rw [e]
  generalize 128 ^ k = z at *
  exact u64_wrap_id _ (by omega) (by omega)

end Go.Proofs.Qxb6613770a
