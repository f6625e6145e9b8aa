import Derived.Test.Qxb6613770aVar
import Derived.Test.Qxb6613770aLocW
import Derived.Lib.Strings
namespace Go.Proofs.Qxb6613770a
set_option linter.unusedVariables false
set_option linter.unusedSimpArgs false

/-! ### The plain laws on the encoding of a Located -/

theorem encStr_pf {x y r s : List UInt8} (h : encStr x ++ r = encStr y ++ s) : x = y ∧ r = s := by
  unfold encStr at h
  rw [List.append_assoc, List.append_assoc] at h
  obtain ⟨h1, h2⟩ := uvarint_prefix h
  exact List.append_inj h2 h1

theorem encB_pf {x y : Bool} {r s : List UInt8} (h : encB x ++ r = encB y ++ s) : x = y ∧ r = s := by
  unfold encB at h
  obtain ⟨h1, h2⟩ := uvarint_prefix h
  refine ⟨?_, h2⟩
  cases x <;> cases y <;> simp at h1 <;> rfl

theorem encBallot_pf {a b : Nat} {x y r s : List UInt8} (h : encBallot a x ++ r = encBallot b y ++ s) : a = b ∧ x = y ∧ r = s := by
  unfold encBallot at h
  rw [List.append_assoc, List.append_assoc] at h
  obtain ⟨h1, h2⟩ := uvarint_prefix h
  exact ⟨h1, encStr_pf h2⟩

theorem encDur_pf {a b : Int} {r s : List UInt8} (h : encDur a ++ r = encDur b ++ s) : normDur a = normDur b ∧ r = s := by
  unfold encDur at h
  obtain ⟨h1, h2⟩ := uvarint_prefix h
  refine ⟨?_, h2⟩
  unfold normDur
  by_cases ha : a < 0 <;> by_cases hb : b < 0 <;> simp [ha, hb] at h1 ⊢
  omega

theorem encDur_norm (a : Int) : encDur a = encDur (normDur a) := by
  unfold encDur normDur
  by_cases ha : a < 0 <;> simp [ha]

theorem flat_pf : ∀ (xs ys : List Int) (r s : List UInt8), xs.length = ys.length → xs.flatMap encDur ++ r = ys.flatMap encDur ++ s → xs.map normDur = ys.map normDur ∧ r = s
  | [], [], r, s, _, h => ⟨rfl, by simpa using h⟩
  | [], _ :: _, _, _, hl, _ => by simp at hl
  | _ :: _, [], _, _, hl, _ => by simp at hl
  | x :: xs, y :: ys, r, s, hl, h => by
    rw [List.flatMap_cons, List.flatMap_cons, List.append_assoc, List.append_assoc] at h
    obtain ⟨h1, h2⟩ := encDur_pf h
    obtain ⟨h3, h4⟩ := flat_pf xs ys r s (by simpa using hl) h2
    exact ⟨by rw [List.map_cons, List.map_cons, h1, h3], h4⟩

theorem flat_norm (xs : List Int) : xs.flatMap encDur = (xs.map normDur).flatMap encDur := by
  induction xs with
  | nil => rfl
  | cons x xs ih => rw [List.flatMap_cons, List.map_cons, List.flatMap_cons, ← encDur_norm, ih]

/-- The heads agree. -/
structure HeadEq (a b : Loc) : Prop where
  slot : a.slot = b.slot
  br : a.br = b.br
  bn : a.bn = b.bn
  leader : a.leader = b.leader
  pr : a.pr = b.pr
  pn : a.pn = b.pn
  leased : a.leased = b.leased
  cutoff : a.cutoff = b.cutoff

open Classical in
theorem headEq_em (a b : Loc) : HeadEq a b ∨ ¬ HeadEq a b := em _

theorem data_inj {a b : ByteArray} (h : a.data.toList = b.data.toList) : a = b := by
  cases a; cases b; simp at h; rw [h]

theorem Loc.enc_pf {a b : Loc} {r s : List UInt8} (h : a.enc ++ r = b.enc ++ s) : (HeadEq a b ∧ a.ans.map normDur = b.ans.map normDur) ∧ r = s := by
  unfold Loc.enc Loc.head at h
  simp only [List.append_assoc] at h
  obtain ⟨e0, h⟩ := uvarint_prefix h
  obtain ⟨e1, e2, h⟩ := encBallot_pf h
  obtain ⟨e3, h⟩ := encStr_pf h
  obtain ⟨e4, e5, h⟩ := encBallot_pf h
  obtain ⟨e6, h⟩ := encB_pf h
  obtain ⟨e7, h⟩ := encB_pf h
  obtain ⟨e8, h⟩ := uvarint_prefix h
  obtain ⟨e9, h⟩ := flat_pf _ _ _ _ e8 h
  exact ⟨⟨⟨e0, e1, data_inj e2, data_inj e3, e4, data_inj e5, e6, e7⟩, e9⟩, h⟩

theorem Loc.enc_same {a b : Loc} (h : HeadEq a b) (ha : a.ans.map normDur = b.ans.map normDur) : a.enc = b.enc := by
  have hl : a.ans.length = b.ans.length := by
    have := congrArg List.length ha
    simpa using this
  unfold Loc.enc Loc.head
  rw [h.slot, h.br, h.bn, h.leader, h.pr, h.pn, h.leased, h.cutoff, hl, flat_norm a.ans, flat_norm b.ans, ha]

/-- Do they agree, as the layout sees them? -/
def sameLoc (a b : Loc) : Bool := a.enc == b.enc

theorem sameLoc_true {a b : Loc} (h : HeadEq a b) (ha : a.ans.map normDur = b.ans.map normDur) : sameLoc a b = true := by
  unfold sameLoc; rw [Loc.enc_same h ha]; simp

theorem sameLoc_false {a b : Loc} (h : ¬ (HeadEq a b ∧ a.ans.map normDur = b.ans.map normDur)) : sameLoc a b = false := by
  unfold sameLoc
  rw [beq_eq_false_iff_ne]
  intro e
  exact h (Loc.enc_pf (r := []) (s := []) (by rw [e])).1

theorem Loc.not_proper (a b : Loc) : isProper a.enc b.enc = false := by
  cases h : isProper a.enc b.enc with
  | false => rfl
  | true =>
    obtain ⟨t, ht, e⟩ := isProper_iff _ _ h
    have := (Loc.enc_pf (a := a) (b := b) (r := t) (s := []) (by rw [e, List.append_nil])).2
    exact absurd this ht

end Go.Proofs.Qxb6613770a
