import Derived.Test.Qxb6613770aRecG
namespace Go.Proofs.Qxb6613770a
set_option linter.unusedVariables false
set_option linter.unusedSimpArgs false
open Go.RowKit

/-- Some number up to the bound's successor. -/
def SomeNum (w : World) (e : Ending) (w' : World) : Prop := ∃ r : Int, e = .returned (.int .i64 r) ∧ 0 ≤ r ∧ r ≤ 1048577 ∧ Kept (fun _ => False) w w'

set_option maxHeartbeats 8000000 in
set_option maxRecDepth 100000 in
/-- zzTxnSize. -/
theorem txnSize_any (s : Int) (hs0 : 0 ≤ s) (hs1 : s ≤ 1048577) (tp : Option Addr) (T : Option Tx) (hT : ∀ t, T = some t → t.size ≤ 1048576) (w : World) (hm : TxnAt w tp T) :
    Calls Try.prog 46 #[.int .i64 s, .pointer tp] w fun e w' => SomeNum w e w' := by
  cases T with
  | none =>
    have htp : tp = none := hm
    subst htp
    go_enter Try.func46, Try.ntmps46
    go_wp2
    go_ret
    exact ⟨s, rfl, hs0, hs1, Kept.refl _ _⟩
  | some t =>
    obtain ⟨b, o, ka, kn, kc, wa, wn, wc, rfl, htm⟩ := hm
    have hsz := hT t rfl
    unfold Tx.size at hsz
    have hkl := htm.keys.len
    have hwl := htm.val.len
    have HKL : Hid (t.keys.length = kn) := hkl
    have hke : ∀ x ∈ t.keys, x.length ≤ 1048576 := fun x hx => by have := key_le t.keys x hx; omega
    have HKE : Hid (∀ x ∈ t.keys, x.length ≤ 1048576) := hke
    have g1 : t.id.bn.size ≤ 1048576 := by omega
    have g2 : t.ver.bn.size ≤ 1048576 := by omega
    have g3 : wn ≤ 1048576 := by omega
    have g4 : kn ≤ 1048576 := by omega
    have ca1 := htm.id.c2
    have ca2 := htm.ck
    have ca3 := htm.cv
    have ca4 := htm.ver.c2
    have HKS : Hid (t.keys = [] ∨ ∃ b off, ka = some ⟨b, off, none⟩ ∧ ∀ j (hj : j < t.keys.length), ∃ a' n' c', w.cell? ⟨b, off + j, none⟩ = some (.slice a' n' c') ∧ Bs w a' n' c' t.keys[j]) := htm.keys.at_
    clear hsz hkl hwl hke hT
    go_enter Try.func46, Try.ntmps46
    go_wp2_with fail
    refine (add_any s (t.id.bn.size : Int) hs0 hs1 (by omega) (by omega) _).mono ?_
    rintro e w1 ⟨r1, rfl, q0, q1, rfl⟩
    go_wp2_with fail
    refine (add_any r1 (t.ver.bn.size : Int) q0 q1 (by omega) (by omega) _).mono ?_
    rintro e w1 ⟨r2, rfl, q2, q3, rfl⟩
    go_wp2_with fail
    refine (add_any r2 (wn : Int) q2 q3 (by omega) (by omega) _).mono ?_
    rintro e w1 ⟨r3, rfl, q4, q5, rfl⟩
    by_cases hb : 43690 < kn
    · have hb' : (43690 : Int) < (kn : Int) := by omega
      go_wp2
      go_ret
      exact ⟨_, rfl, by decide, by decide, Kept.refl _ _⟩
    · have hb' : ¬ (43690 : Int) < (kn : Int) := by omega
      go_wp2_with fail
      refine (add_any r3 (24 * kn : Int) q4 q5 (by omega) (by omega) _).mono ?_
      rintro e w1 ⟨r4, rfl, q6, q7, rfl⟩
      go_wp2
      go_loopw [5, 0] (fun v5 v0 wr => ∃ (k : Nat) (z : Int), v5 = .int .i64 k ∧ v0 = .int .i64 z ∧ k ≤ kn ∧ 0 ≤ z ∧ z ≤ 1048577 ∧ w = wr) (fun v5 _ _ => kn - (intOf v5).toNat)
      case atStart => exact ⟨0, r4, rfl, rfl, Nat.zero_le _, q6, q7, rfl⟩
      case round =>
        obtain ⟨k, z, rfl, rfl, hkn, z0, z1, rfl⟩ := hrel
        by_cases hlt : k < kn
        · have hlt' : (k : Int) < (kn : Int) := by omega
          have hkz : k < t.keys.length := by rw [HKL.out]; exact hlt
          by_cases hz : (1048576 : Int) < z
          · go_wp2
            go_ret
            exact ⟨z, rfl, z0, z1, Kept.refl _ _⟩
          · rcases HKS.out with h0 | ⟨kb, ko, rfl, g⟩
            · rw [h0] at hkz; simp at hkz
            obtain ⟨a', n', c', y1, y2⟩ := g k hkz
            have y4 := y2.len
            have y5 := HKE.out _ (List.getElem_mem hkz)
            rw [y4] at y5
            clear g y2 y4
            go_wp2_with fail
            refine (add_any z (n' : Int) z0 z1 (by omega) (by omega) _).mono ?_
            rintro e w1 ⟨r5, rfl, q8, q9, rfl⟩
            go_wp2
            go_roundw
            case rel => exact ⟨k + 1, r5, by go_num, rfl, by omega, q8, q9, by first | rfl | trivial⟩
            case measure => simp [intOf]; omega
        · go_wp2
          go_ret
          exact ⟨z, rfl, z0, z1, Kept.refl _ _⟩

set_option maxHeartbeats 8000000 in
set_option maxRecDepth 100000 in
/-- zzRecordSize. -/
theorem sizeR_any (r : Rec) (hs : r.Small) (va : Option Addr) (vn vc : Nat) (tp : Option Addr) (w : World) (hq : RecMem w r va vn vc tp) :
    Calls Try.prog 24 #[recVal r va vn vc tp] w fun e w' => SomeNum w e w' := by
  have hsz := hs.self
  have hvl := hq.val.len
  rw [hvl] at hsz
  have hkB : Kept (fun _ => False) w (w.alloc (.cells #[.int .u64 r.pr, .string r.pn, .int .u64 r.slot, .int .u64 r.br, .string r.bn, .string r.leader, .bool r.del, .slice va vn vc, .int .u64 r.ver.slot, .int .u64 r.ver.br, .string r.ver.bn, .pointer tp] 58)) := (Kept.refl _ w).alloc _
  clear hvl
  unfold recVal
  go_enter Try.func24, Try.ntmps24
  go_wp2_with fail
  refine (add_any 0 (r.pn.size : Int) (by omega) (by omega) (by omega) (by omega) _).mono ?_
  rintro e w1 ⟨r1, rfl, q0, q1, rfl⟩
  go_wp2_with fail
  refine (add_any r1 (r.bn.size : Int) (by omega) (by omega) (by omega) (by omega) _).mono ?_
  rintro e w1 ⟨r2, rfl, q2, q3, rfl⟩
  go_wp2_with fail
  refine (add_any r2 (r.leader.size : Int) (by omega) (by omega) (by omega) (by omega) _).mono ?_
  rintro e w1 ⟨r3, rfl, q4, q5, rfl⟩
  go_wp2_with fail
  refine (add_any r3 (vn : Int) (by omega) (by omega) (by omega) (by omega) _).mono ?_
  rintro e w1 ⟨r4, rfl, q6, q7, rfl⟩
  go_wp2_with fail
  refine (add_any r4 (r.ver.bn.size : Int) (by omega) (by omega) (by omega) (by omega) _).mono ?_
  rintro e w1 ⟨r5, rfl, q8, q9, rfl⟩
  go_wp2_with fail
  refine (txnSize_any r5 q8 q9 tp r.txn hs.txn _ (hq.txn.ext hkB.ext0)).mono ?_
  rintro e w1 ⟨r6, rfl, x0, x1, k1⟩
  go_wp2
  go_ret
  exact ⟨r6, rfl, x0, x1, hkB.trans k1 (fun _ _ h => h)⟩

end Go.Proofs.Qxb6613770a
