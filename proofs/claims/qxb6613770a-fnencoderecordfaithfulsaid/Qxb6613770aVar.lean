import Derived.Lib.VarintMem
namespace Go.Proofs.Qxb6613770a
set_option linter.unusedVariables false
set_option linter.unusedSimpArgs false
open Go.Lib

theorem u8_inj {a b : Nat} (ha : a < 256) (hb : b < 256) (h : a.toUInt8 = b.toUInt8) : a = b := by
  have := congrArg UInt8.toNat h
  rwa [toUInt8_toNat ha, toUInt8_toNat hb] at this

/-- Varints are prefix free. -/
theorem uvarint_pf : ∀ (n x y : Nat) (r s : List UInt8), x ≤ n → uvarint x ++ r = uvarint y ++ s → x = y ∧ r = s
  | 0, x, y, r, s, hn, h => by
    rw [uvarint_small (by omega)] at h
    by_cases hy : y < 128
    · rw [uvarint_small hy] at h
      simp only [List.cons_append, List.nil_append, List.cons.injEq] at h
      exact ⟨u8_inj (by omega) (by omega) h.1, h.2⟩
    · rw [uvarint_big (by omega)] at h
      simp only [List.cons_append, List.nil_append, List.cons.injEq] at h
      have := u8_inj (by omega) (by omega) h.1
      omega
  | n + 1, x, y, r, s, hn, h => by
    by_cases hx : x < 128
    · rw [uvarint_small hx] at h
      by_cases hy : y < 128
      · rw [uvarint_small hy] at h
        simp only [List.cons_append, List.nil_append, List.cons.injEq] at h
        exact ⟨u8_inj (by omega) (by omega) h.1, h.2⟩
      · rw [uvarint_big (by omega)] at h
        simp only [List.cons_append, List.nil_append, List.cons.injEq] at h
        have := u8_inj (by omega) (by omega) h.1
        omega
    · rw [uvarint_big (by omega)] at h
      by_cases hy : y < 128
      · rw [uvarint_small hy] at h
        simp only [List.cons_append, List.nil_append, List.cons.injEq] at h
        have := u8_inj (by omega) (by omega) h.1
        omega
      · rw [uvarint_big (x := y) (by omega)] at h
        simp only [List.cons_append, List.nil_append, List.cons.injEq] at h
        have e1 := u8_inj (by omega) (by omega) h.1
        have ih := uvarint_pf n (x / 128) (y / 128) r s (by omega) h.2
        exact ⟨by omega, ih.2⟩

theorem uvarint_prefix {x y : Nat} {r s : List UInt8} (h : uvarint x ++ r = uvarint y ++ s) : x = y ∧ r = s := uvarint_pf x x y r s (Nat.le_refl _) h

theorem uvarint_inj {x y : Nat} (h : uvarint x = uvarint y) : x = y := (uvarint_prefix (r := []) (s := []) (by simpa using h)).1

theorem uvarint_beq (x y : Nat) : (uvarint x == uvarint y) = decide (x = y) := by
  by_cases h : x = y
  · subst h; simp
  · simp [h]; exact fun e => h (uvarint_inj e)

theorem uvarint_len_gt : ∀ (k x : Nat), 128 ^ k ≤ x → k < (uvarint x).length
  | 0, x, _ => uvarint_pos x
  | k + 1, x, h => by
    have h1 : 128 ≤ x := by
      have : 128 ^ 1 ≤ 128 ^ (k + 1) := Nat.pow_le_pow_right (by decide) (by omega)
      omega
    rw [uvarint_big h1, List.length_cons]
    have := uvarint_len_gt k (x / 128) (by rw [Nat.le_div_iff_mul_le (by decide), ← Nat.pow_succ]; exact h)
    omega

theorem uvarint_len_le (k x : Nat) (h : x < 128 ^ (k + 1)) : (uvarint x).length ≤ k + 1 := uvarint_length k x h

theorem uvarint_len_mono {x y : Nat} (h : x ≤ y) : (uvarint x).length ≤ (uvarint y).length := by
  have hp := uvarint_pos x
  rcases Nat.lt_or_ge (uvarint y).length (uvarint x).length with h1 | h1
  · -- then 128 ^ (len y) ≤ x
    have hy := uvarint_pos y
    rcases Nat.lt_or_ge x (128 ^ (uvarint y).length) with h2 | h2
    · have h3 := uvarint_len_le ((uvarint y).length - 1) x (by rw [Nat.sub_add_cancel hy]; exact h2)
      omega
    · have := uvarint_len_gt _ y (Nat.le_trans h2 h)
      omega
  · exact h1

/-- A proper prefix, as zzProperPrefix tells it. -/
def isProper (xs ys : List UInt8) : Bool := decide (xs.length < ys.length) && (xs == ys.take xs.length)

theorem isProper_iff (xs ys : List UInt8) : isProper xs ys = true → ∃ t, t ≠ [] ∧ ys = xs ++ t := by
  intro h
  simp [isProper] at h
  refine ⟨ys.drop xs.length, ?_, ?_⟩
  · intro e
    have := congrArg List.length e
    simp at this
    omega
  · have h2 := List.take_append_drop xs.length ys
    rw [← h.2] at h2
    exact h2.symm

theorem uvarint_not_proper (x y : Nat) : isProper (uvarint x) (uvarint y) = false := by
  cases h : isProper (uvarint x) (uvarint y) with
  | false => rfl
  | true =>
    obtain ⟨t, ht, e⟩ := isProper_iff _ _ h
    have := (uvarint_prefix (r := t) (s := []) (by simpa using e.symm)).2
    exact absurd this ht

end Go.Proofs.Qxb6613770a
