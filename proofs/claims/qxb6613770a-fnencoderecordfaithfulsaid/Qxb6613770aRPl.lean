import Derived.Test.Qxb6613770aLPl
import Derived.Test.Qxb6613770aRecW
namespace Go.Proofs.Qxb6613770a
set_option linter.unusedVariables false
set_option linter.unusedSimpArgs false

/-! ### The plain laws on the encoding of a record -/

theorem Ver.ext' {a b : Ver} (h1 : a.slot = b.slot) (h2 : a.br = b.br) (h3 : a.bn = b.bn) : a = b := by
  cases a; cases b; simp only at h1 h2 h3; subst h1 h2 h3; rfl

theorem Ver.enc_pf {a b : Ver} {r s : List UInt8} (h : a.enc ++ r = b.enc ++ s) : a = b ∧ r = s := by
  unfold Ver.enc at h
  rw [List.append_assoc, List.append_assoc] at h
  obtain ⟨e0, h⟩ := uvarint_prefix h
  obtain ⟨e1, e2, h⟩ := encBallot_pf h
  exact ⟨Ver.ext' e0 e1 (data_inj e2), h⟩

theorem keys_pf : ∀ (xs ys : List (List UInt8)) (r s : List UInt8), xs.length = ys.length → xs.flatMap encStr ++ r = ys.flatMap encStr ++ s → xs = ys ∧ r = s
  | [], [], r, s, _, h => ⟨rfl, by simpa using h⟩
  | [], _ :: _, _, _, hl, _ => by simp at hl
  | _ :: _, [], _, _, hl, _ => by simp at hl
  | x :: xs, y :: ys, r, s, hl, h => by
    rw [List.flatMap_cons, List.flatMap_cons, List.append_assoc, List.append_assoc] at h
    obtain ⟨h1, h2⟩ := encStr_pf h
    obtain ⟨h3, h4⟩ := keys_pf xs ys r s (by simpa using hl) h2
    exact ⟨by rw [h1, h3], h4⟩

theorem Tx.enc_pf {a b : Tx} {r s : List UInt8} (h : a.enc ++ r = b.enc ++ s) : a = b ∧ r = s := by
  unfold Tx.enc Tx.head Tx.tail at h
  simp only [List.append_assoc] at h
  obtain ⟨e0, h⟩ := Ver.enc_pf h
  obtain ⟨e1, h⟩ := uvarint_prefix h
  obtain ⟨e2, h⟩ := keys_pf _ _ _ _ e1 h
  obtain ⟨e3, h⟩ := encB_pf h
  obtain ⟨e4, h⟩ := encB_pf h
  obtain ⟨e5, h⟩ := encStr_pf h
  obtain ⟨e6, h⟩ := Ver.enc_pf h
  refine ⟨?_, h⟩
  cases a; cases b
  simp only at e0 e2 e3 e4 e5 e6
  subst e0 e2 e3 e4 e5 e6
  rfl

theorem encTxn_pf {a b : Option Tx} {r s : List UInt8} (h : encB a.isSome ++ (encTxn a ++ r) = encB b.isSome ++ (encTxn b ++ s)) : a = b ∧ r = s := by
  obtain ⟨e0, h⟩ := encB_pf h
  cases a with
  | none =>
    cases b with
    | none => exact ⟨rfl, by simpa [encTxn] using h⟩
    | some y => simp at e0
  | some x =>
    cases b with
    | none => simp at e0
    | some y =>
      obtain ⟨e1, h⟩ := Tx.enc_pf (a := x) (b := y) h
      exact ⟨by rw [e1], h⟩

theorem Rec.enc_pf {a b : Rec} {r s : List UInt8} (h : a.enc ++ r = b.enc ++ s) : a = b ∧ r = s := by
  unfold Rec.enc at h
  simp only [List.append_assoc] at h
  obtain ⟨e0, e1, h⟩ := encBallot_pf h
  obtain ⟨e2, h⟩ := uvarint_prefix h
  obtain ⟨e3, e4, h⟩ := encBallot_pf h
  obtain ⟨e5, h⟩ := encStr_pf h
  obtain ⟨e6, h⟩ := encB_pf h
  obtain ⟨e7, h⟩ := encStr_pf h
  obtain ⟨e8, h⟩ := Ver.enc_pf h
  obtain ⟨e9, h⟩ := encTxn_pf h
  refine ⟨?_, h⟩
  have f1 := data_inj e1
  have f4 := data_inj e4
  have f5 := data_inj e5
  clear e1 e4 e5
  cases a; cases b
  simp only at e0 f1 e2 e3 f4 f5 e6 e7 e8 e9
  subst e0 f1 e2 e3 f4 f5 e6 e7 e8 e9
  rfl

/-- Are the two marks the same? -/
def sameTx (a b : Option Tx) : Bool := (encB a.isSome ++ encTxn a) == (encB b.isSome ++ encTxn b)
theorem sameTx_self (a : Option Tx) : sameTx a a = true := by unfold sameTx; simp
theorem sameTx_false {a b : Option Tx} (h : a ≠ b) : sameTx a b = false := by
  unfold sameTx
  rw [beq_eq_false_iff_ne]
  intro e
  exact h (encTxn_pf (r := []) (s := []) (by rw [List.append_nil, List.append_nil]; exact e)).1

/-- Are the two records the same? -/
def sameRec (a b : Rec) : Bool := ((4 : UInt8) :: a.enc) == (4 :: b.enc)
theorem sameRec_self (a : Rec) : sameRec a a = true := by unfold sameRec; simp
theorem sameRec_false {a b : Rec} (h : a ≠ b) : sameRec a b = false := by
  unfold sameRec
  rw [beq_eq_false_iff_ne]
  intro e
  have e := (List.cons.inj e).2
  exact h (Rec.enc_pf (r := []) (s := []) (by rw [e])).1

theorem Rec.not_proper (a b : Rec) : isProper ((4 : UInt8) :: a.enc) (4 :: b.enc) = false := by
  cases h : isProper ((4 : UInt8) :: a.enc) (4 :: b.enc) with
  | false => rfl
  | true =>
    obtain ⟨t, ht, e⟩ := isProper_iff _ _ h
    have e : b.enc = a.enc ++ t := (List.cons.inj e).2
    have := (Rec.enc_pf (a := a) (b := b) (r := t) (s := []) (by rw [e, List.append_nil])).2
    exact absurd this ht

end Go.Proofs.Qxb6613770a
