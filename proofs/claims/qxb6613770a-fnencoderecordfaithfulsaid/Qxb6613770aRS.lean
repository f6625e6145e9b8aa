import Derived.Test.Qxb6613770aRPl
import Derived.Test.Qxb6613770aRF1
import Derived.BigQuiet
namespace Go.Proofs.Qxb6613770a
set_option linter.unusedVariables false
set_option linter.unusedSimpArgs false
open Go.RowKit

/-- Two versions differ: where first? -/
theorem Ver.ne_cases {a b : Ver} (h : a ≠ b) : (¬ (a.slot : Int) = (b.slot : Int)) ∨ (a.slot = b.slot ∧ ¬ (a.br : Int) = (b.br : Int)) ∨ (a.slot = b.slot ∧ a.br = b.br ∧ ¬ a.bn.toList = b.bn.toList) := by
  by_cases h1 : a.slot = b.slot
  · by_cases h2 : a.br = b.br
    · by_cases h3 : a.bn.toList = b.bn.toList
      · exact absurd (Ver.ext' h1 h2 (toList_inj h3)) h
      · exact .inr (.inr ⟨h1, h2, h3⟩)
    · exact .inr (.inl ⟨h1, by omega⟩)
  · exact .inl (by omega)

open Classical in
/-- Two marks' heads differ: where first? -/
theorem Tx.ne_cases {a b : Tx} (h : ¬ (a.id = b.id ∧ a.com = b.com ∧ a.del = b.del ∧ a.ver = b.ver)) : a.id ≠ b.id ∨ (a.id = b.id ∧ a.com ≠ b.com) ∨ (a.id = b.id ∧ a.com = b.com ∧ a.del ≠ b.del) ∨ (a.id = b.id ∧ a.com = b.com ∧ a.del = b.del ∧ a.ver ≠ b.ver) := by
  by_cases h1 : a.id = b.id
  · by_cases h2 : a.com = b.com
    · by_cases h3 : a.del = b.del
      · by_cases h4 : a.ver = b.ver
        · exact absurd ⟨h1, h2, h3, h4⟩ h
        · exact .inr (.inr (.inr ⟨h1, h2, h3, h4⟩))
      · exact .inr (.inr (.inl ⟨h1, h2, h3⟩))
    · exact .inr (.inl ⟨h1, h2⟩)
  · exact .inl h1

theorem ver_same {a b : Ver} (h : a = b) : a.slot = b.slot ∧ a.br = b.br ∧ a.bn = b.bn := by subst h; exact ⟨rfl, rfl, rfl⟩

theorem bool_ne {x y : Bool} (h : x ≠ y) : (x != y) = true ∧ (x == y) = false := by
  cases x <;> cases y <;> simp_all

set_option maxHeartbeats 16000000 in
set_option maxRecDepth 100000 in
/-- zzSameTxn, where the heads differ. -/
theorem sameTxn_diff (a b : Tx) (hne : ¬ (a.id = b.id ∧ a.com = b.com ∧ a.del = b.del ∧ a.ver = b.ver)) (b1 o1 b2 o2 : Nat) (ka : Option Addr) (kn kc : Nat) (va : Option Addr) (vn vc : Nat) (la : Option Addr) (ln lc : Nat) (ua : Option Addr) (un uc : Nat) (w : World) (ha : TxAt w b1 o1 a ka kn kc va vn vc) (hb : TxAt w b2 o2 b la ln lc ua un uc) :
    Calls Try.prog 51 #[.pointer (some ⟨b1, o1, none⟩), .pointer (some ⟨b2, o2, none⟩)] w fun e w' => e = .returned (.bool false) ∧ Same w w' := by
  obtain ⟨⟨p0, p1, p2⟩, p3, _, p4, p5, p6, _, ⟨p7, p8, p9⟩⟩ := ha
  obtain ⟨⟨q0, q1, q2⟩, q3, _, q4, q5, q6, _, ⟨q7, q8, q9⟩⟩ := hb
  rcases Tx.ne_cases hne with h | ⟨h1, h⟩ | ⟨h1, h2, h⟩ | ⟨h1, h2, h3, h⟩
  · clear hne
    rcases Ver.ne_cases h with e1 | ⟨e1, e2⟩ | ⟨e1, e2, e3⟩
    all_goals
      clear h
      go_enter Try.func51, Try.ntmps51
      go_wp2
      go_quiet (fail)
      go_wp2
      go_ret
      exact ⟨rfl, Same.ofDraws ⟨nq, rfl⟩⟩
  · obtain ⟨e1, e2, e3⟩ := ver_same h1
    obtain ⟨e4, e5⟩ := bool_ne h
    clear hne h1 h
    go_enter Try.func51, Try.ntmps51
    go_wp2
    go_quiet (fail)
    go_wp2
    go_ret
    exact ⟨rfl, Same.ofDraws ⟨nq, rfl⟩⟩
  · obtain ⟨e1, e2, e3⟩ := ver_same h1
    obtain ⟨e4, e5⟩ := bool_ne h
    clear hne h1 h
    go_enter Try.func51, Try.ntmps51
    go_wp2
    go_quiet (fail)
    go_wp2
    go_ret
    exact ⟨rfl, Same.ofDraws ⟨nq, rfl⟩⟩
  · obtain ⟨e1, e2, e3⟩ := ver_same h1
    clear hne h1
    rcases Ver.ne_cases h with e4 | ⟨e4, e5⟩ | ⟨e4, e5, e6⟩
    all_goals
      clear h
      go_enter Try.func51, Try.ntmps51
      go_wp2
      go_quiet (fail)
      go_wp2
      go_ret
      exact ⟨rfl, Same.ofDraws ⟨nq, rfl⟩⟩

end Go.Proofs.Qxb6613770a
