import Derived.Test.Qxb6613770aRS
namespace Go.Proofs.Qxb6613770a
set_option linter.unusedVariables false
set_option linter.unusedSimpArgs false
open Go.RowKit

theorem take_next {α : Type} {xs ys : List α} {k : Nat} (hx : k < xs.length) (hy : k < ys.length) (h : xs.take k = ys.take k) (he : xs[k] = ys[k]) : xs.take (k + 1) = ys.take (k + 1) := by
  rw [List.take_succ_eq_append_getElem hx, List.take_succ_eq_append_getElem hy, h, he]
theorem ne_at {α : Type} {xs ys : List α} {k : Nat} (hx : k < xs.length) (hy : k < ys.length) (he : xs[k] ≠ ys[k]) : xs ≠ ys := by
  intro e
  subst e
  exact he rfl

set_option maxHeartbeats 16000000 in
set_option maxRecDepth 100000 in
/-- zzSameTxn, where the heads agree. -/
theorem sameTxn_head (a b : Tx) (h1 : a.id = b.id) (h2 : a.com = b.com) (h3 : a.del = b.del) (h4 : a.ver = b.ver) (hla : a.Len) (hlb : b.Len) (R : Bool) (hRt : a.val = b.val → a.keys = b.keys → R = true) (hRf : (a.val ≠ b.val ∨ a.keys ≠ b.keys) → R = false) (b1 o1 b2 o2 : Nat) (ka : Option Addr) (kn kc : Nat) (va : Option Addr) (vn vc : Nat) (la : Option Addr) (ln lc : Nat) (ua : Option Addr) (un uc : Nat) (w : World) (ha : TxAt w b1 o1 a ka kn kc va vn vc) (hb : TxAt w b2 o2 b la ln lc ua un uc) :
    Calls Try.prog 51 #[.pointer (some ⟨b1, o1, none⟩), .pointer (some ⟨b2, o2, none⟩)] w fun e w' => e = .returned (.bool R) ∧ Same w w' := by
  obtain ⟨⟨p0, p1, p2⟩, p3, HKa', p4, p5, p6, HVa', ⟨p7, p8, p9⟩⟩ := ha
  obtain ⟨⟨q0, q1, q2⟩, q3, HKb', q4, q5, q6, HVb', ⟨q7, q8, q9⟩⟩ := hb
  have HKa : Hid (Keys w ka kn kc a.keys) := HKa'
  have HKb : Hid (Keys w la ln lc b.keys) := HKb'
  have HVa : Hid (Bs w va vn vc a.val) := HVa'
  have HVb : Hid (Bs w ua un uc b.val) := HVb'
  have HRt : Hid (a.val = b.val → a.keys = b.keys → R = true) := hRt
  have HRf : Hid ((a.val ≠ b.val ∨ a.keys ≠ b.keys) → R = false) := hRf
  obtain ⟨e1, e2, e3⟩ := ver_same h1
  obtain ⟨e4, e5, e6⟩ := ver_same h4
  have m1 := hla.val
  have m2 := hlb.val
  have m3 := hla.keys
  have m4 := hlb.keys
  rw [HVa'.len] at m1
  rw [HVb'.len] at m2
  rw [HKa'.len] at m3
  rw [HKb'.len] at m4
  have HLa : Hid (∀ x ∈ a.keys, x.length ≤ maxLen) := hla.each
  have HLb : Hid (∀ x ∈ b.keys, x.length ≤ maxLen) := hlb.each
  have M1 : Hid (vn ≤ maxLen) := m1
  have M2 : Hid (un ≤ maxLen) := m2
  have m3' : (kn : Int) ≤ 9223372036854775807 := by unfold maxLen at m3; omega
  have m4' : (ln : Int) ≤ 9223372036854775807 := by unfold maxLen at m4; omega
  clear hla hlb HKa' HKb' HVa' HVb' hRt hRf h1 h4 m1 m2 m3 m4
  by_cases hv : a.val = b.val
  · have g0 : (a.val == b.val) = true := by rw [hv]; simp
    have HV : Hid (a.val = b.val) := hv
    clear hv
    by_cases hkl : kn = ln
    · have g1 : ((kn : Int) != (ln : Int)) = false := by rw [hkl]; simp
      go_enter Try.func51, Try.ntmps51
      go_wp2
      go_quiet ((go_at_call 21; exact Calls.quiet_of (same_draws va ua vn un vc uc a.val b.val _ HVa.out.at_ HVb.out.at_ HVa.out.len HVb.out.len M1.out M2.out)))
      go_wp2
      go_quiet (fail)
      go_wp2
      go_loopw [5] (fun v5 wr => ∃ k : Nat, v5 = .int .i64 k ∧ k ≤ kn ∧ a.keys.take k = b.keys.take k ∧ Same w wr) (fun v5 _ => kn - (intOf v5).toNat)
      case atStart => exact ⟨0, rfl, Nat.zero_le _, by simp, Same.ofDraws ⟨_, World.drewN_drewN _ _ _⟩⟩
      case round =>
        obtain ⟨k, rfl, hkn, htk, hsm⟩ := hrel
        have HT : Hid (a.keys.take k = b.keys.take k) := htk
        clear htk
        have r3 : wr.cell? ⟨b1, o1 + 3, none⟩ = some (.slice ka kn kc) := by rw [hsm.cell]; exact p3
        have s3 : wr.cell? ⟨b2, o2 + 3, none⟩ = some (.slice la ln lc) := by rw [hsm.cell]; exact q3
        by_cases hlt : k < kn
        · have hkx : k < a.keys.length := by rw [HKa.out.len]; exact hlt
          have hky : k < b.keys.length := by rw [HKb.out.len]; omega
          have hlt' : (k : Int) < (kn : Int) := by omega
          have hlt2 : (k : Int) < (ln : Int) := by omega
          rcases HKa.out.at_ with h0 | ⟨kb, ko, hxe, G⟩
          · rw [h0] at hkx; simp at hkx
          rcases HKb.out.at_ with h0 | ⟨jb, jo, hye, J⟩
          · rw [h0] at hky; simp at hky
          subst hxe hye
          obtain ⟨a', n', c', y1, y2⟩ := G k hkx
          obtain ⟨a2, n2, c2, z1, z2⟩ := J k hky
          have y3 : wr.cell? ⟨kb, ko + k, none⟩ = some (.slice a' n' c') := by rw [hsm.cell]; exact y1
          have z3 : wr.cell? ⟨jb, jo + k, none⟩ = some (.slice a2 n2 c2) := by rw [hsm.cell]; exact z1
          have HY : Hid (Bs wr a' n' c' a.keys[k]) := y2.ext hsm.ext
          have HZ : Hid (Bs wr a2 n2 c2 b.keys[k]) := z2.ext hsm.ext
          have NY : Hid (n' ≤ maxLen) := by have := HLa.out _ (List.getElem_mem hkx); rw [y2.len] at this; exact this
          have NZ : Hid (n2 ≤ maxLen) := by have := HLb.out _ (List.getElem_mem hky); rw [z2.len] at this; exact this
          clear G J y1 y2 z1 z2
          have HS : Hid (a.keys[k] = b.keys[k] → a.keys.take (k + 1) = b.keys.take (k + 1)) := take_next hkx hky HT.out
          have HN : Hid (a.keys[k] ≠ b.keys[k] → a.keys ≠ b.keys) := ne_at hkx hky
          generalize a.keys[k] = x at *
          generalize b.keys[k] = y at *
          by_cases hke : x = y
          · have HS' : Hid (_ = _) := HS.out hke
            have g2 : (x == y) = true := by rw [hke]; simp
            clear hke
            go_wp2
            go_quiet ((go_at_call 21; exact Calls.quiet_of (same_draws a' a2 n' n2 c' c2 x y _ HY.out.at_ HZ.out.at_ HY.out.len HZ.out.len NY.out NZ.out)))
            go_wp2
            go_roundw
            case rel => exact ⟨k + 1, by go_num, by omega, HS'.out, hsm.trans (Same.ofDraws ⟨_, rfl⟩)⟩
            case measure => simp [intOf]; omega
          · have g2 : (x == y) = false := by simpa using hke
            have HR : Hid (R = false) := HRf.out (.inr (HN.out hke))
            clear hke
            go_wp2
            go_quiet ((go_at_call 21; exact Calls.quiet_of (same_draws a' a2 n' n2 c' c2 x y _ HY.out.at_ HZ.out.at_ HY.out.len HZ.out.len NY.out NZ.out)))
            go_wp2
            go_ret
            exact ⟨ret_bool HR.out.symm, hsm.trans (Same.ofDraws ⟨_, rfl⟩)⟩
        · have HR : Hid (R = true) := by
            refine HRt.out HV.out ?_
            have := HT.out
            rw [List.take_of_length_le (by rw [HKa.out.len]; omega), List.take_of_length_le (by rw [HKb.out.len]; omega)] at this
            exact this
          go_wp2
          go_ret
          exact ⟨ret_bool HR.out.symm, hsm⟩
    · have g1 : ((kn : Int) != (ln : Int)) = true := by simp; omega
      have HR : Hid (R = false) := HRf.out (.inr (fun e => hkl (by have := congrArg List.length e; rw [HKa.out.len, HKb.out.len] at this; exact this)))
      go_enter Try.func51, Try.ntmps51
      go_wp2
      go_quiet ((go_at_call 21; exact Calls.quiet_of (same_draws va ua vn un vc uc a.val b.val _ HVa.out.at_ HVb.out.at_ HVa.out.len HVb.out.len M1.out M2.out)))
      go_wp2
      go_quiet (fail)
      go_wp2
      go_ret
      exact ⟨ret_bool HR.out.symm, Same.ofDraws ⟨_, World.drewN_drewN _ _ _⟩⟩
  · have g0 : (a.val == b.val) = false := by simpa using hv
    have HR : Hid (R = false) := HRf.out (.inl hv)
    clear hv
    go_enter Try.func51, Try.ntmps51
    go_wp2
    go_quiet ((go_at_call 21; exact Calls.quiet_of (same_draws va ua vn un vc uc a.val b.val _ HVa.out.at_ HVb.out.at_ HVa.out.len HVb.out.len M1.out M2.out)))
    go_wp2
    go_ret
    exact ⟨ret_bool HR.out.symm, Same.ofDraws ⟨nq, rfl⟩⟩

end Go.Proofs.Qxb6613770a
