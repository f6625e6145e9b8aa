import Derived.Test.Qxb6613770aRecG
import Derived.Test.Qxb6613770aRG0
namespace Go.Proofs.Qxb6613770a
set_option linter.unusedVariables false
set_option linter.unusedSimpArgs false
open Go.RowKit

set_option maxHeartbeats 16000000 in
set_option maxRecDepth 100000 in
theorem bytesRF_ss (a b : Rec) (hla : a.Len) (hlb : b.Len) (va : Option Addr) (vn vc : Nat) (ua : Option Addr) (un uc : Nat) (w : World) (hva : a.val.length = vn) (hvb : b.val.length = un) (ta : Tx) (hTa : a.txn = some ta) (ab ao : Nat) (ka : Option Addr) (kn kc : Nat) (wa : Option Addr) (wn wc : Nat) (hta : TxAt w ab ao ta ka kn kc wa wn wc) (tb : Tx) (hTb : b.txn = some tb) (bb bo : Nat) (la : Option Addr) (ln lc : Nat) (xa : Option Addr) (xn xc : Nat) (htb : TxAt w bb bo tb la ln lc xa xn xc) :
    Calls Try.prog 29 #[recVal a va vn vc (some ⟨ab, ao, none⟩), recVal b ua un uc (some ⟨bb, bo, none⟩)] w fun e w' => Guard (a.Small ∧ b.Small) w e w' := by
  have h1 := hla.pn
  have h2 := hla.bn
  have h3 := hla.leader
  have h4 := hla.val
  have h5 := hla.ver
  have i1 := hlb.pn
  have i2 := hlb.bn
  have i3 := hlb.leader
  have i4 := hlb.val
  have i5 := hlb.ver
  have HVa : Hid (a.val.length = vn) := hva
  have HVb : Hid (b.val.length = un) := hvb
  have HTa : Hid (a.txn = some ta) := hTa
  have HTb : Hid (b.txn = some tb) := hTb
  rw [hva] at h4
  rw [hvb] at i4
  unfold maxLen at h1 h2 h3 h4 h5 i1 i2 i3 i4 i5
  obtain ⟨mA, mB, kB⟩ := twoBox w a b va vn vc (some ⟨ab, ao, none⟩) ua un uc (some ⟨bb, bo, none⟩)
  have fl := hla.txn ta hTa
  have fkl := hta.keys.len
  have fwl := hta.val.len
  have f1 := fl.id
  have f2 := fl.ver
  have f3 := fl.val
  have f4 := fl.keys
  rw [fwl] at f3
  rw [fkl] at f4
  have HKLa : Hid (ta.keys.length = kn) := fkl
  have HWLa : Hid (ta.val.length = wn) := fwl
  have HEAa : Hid (∀ x ∈ ta.keys, x.length ≤ maxLen) := fl.each
  unfold maxLen at f1 f2 f3 f4
  have fc1 := kB.cell' hta.id.c2 (fun h => h)
  have fc2 := kB.cell' hta.ck (fun h => h)
  have fc3 := kB.cell' hta.cv (fun h => h)
  have fc4 := kB.cell' hta.ver.c2 (fun h => h)
  have HKSa : Hid (Keys w ka kn _ ta.keys) := hta.keys
  clear fkl fwl fl
  have gl := hlb.txn tb hTb
  have gkl := htb.keys.len
  have gwl := htb.val.len
  have g1 := gl.id
  have g2 := gl.ver
  have g3 := gl.val
  have g4 := gl.keys
  rw [gwl] at g3
  rw [gkl] at g4
  have HKLb : Hid (tb.keys.length = ln) := gkl
  have HWLb : Hid (tb.val.length = xn) := gwl
  have HEAb : Hid (∀ x ∈ tb.keys, x.length ≤ maxLen) := gl.each
  unfold maxLen at g1 g2 g3 g4
  have gc1 := kB.cell' htb.id.c2 (fun h => h)
  have gc2 := kB.cell' htb.ck (fun h => h)
  have gc3 := kB.cell' htb.cv (fun h => h)
  have gc4 := kB.cell' htb.ver.c2 (fun h => h)
  have HKSb : Hid (Keys w la ln _ tb.keys) := htb.keys
  clear gkl gwl gl
  clear hva hvb hTa hTb hla hlb hta htb
  unfold recVal
  have p11 := mA.c11
  have q11 := mB.c11
  go_enter Try.func29, Try.ntmps29
  go_wp2
  all_goals try (go_ret; exact ⟨_, rfl, (fun h => by cases h), kB⟩)
  clear p11 q11
  generalize hW : (w.alloc (.cells #[.int .u64 a.pr, .string a.pn, .int .u64 a.slot, .int .u64 a.br, .string a.bn, .string a.leader, .bool a.del, .slice va vn vc, .int .u64 a.ver.slot, .int .u64 a.ver.br, .string a.ver.bn, .pointer (some ⟨ab, ao, none⟩)] 58)).alloc (.cells #[.int .u64 b.pr, .string b.pn, .int .u64 b.slot, .int .u64 b.br, .string b.bn, .string b.leader, .bool b.del, .slice ua un uc, .int .u64 b.ver.slot, .int .u64 b.ver.br, .string b.ver.bn, .pointer (some ⟨bb, bo, none⟩)] 58) = W at *
  obtain ⟨B, hB⟩ : ∃ B, w.heap.size = B := ⟨_, rfl⟩
  rw [hB] at mA mB ⊢
  clear hW hB
  obtain ⟨p0, p1, p2, p3, p4, p5, p6, p7, ⟨p8, p9, p10⟩, p11⟩ := mA
  obtain ⟨q0, q1, q2, q3, q4, q5, q6, q7, ⟨q8, q9, q10⟩, q11⟩ := mB
  go_loop [6, 5] (fun vi v5 => ∃ (k : Nat) (z : Int), vi = .int .i64 k ∧ v5 = .int .i64 z ∧ k ≤ kn ∧ z = ((a.pn.size + a.bn.size + a.leader.size + vn + a.ver.bn.size + ta.id.bn.size + kn + lens ta.keys k : Nat) : Int) ∧ z ≤ 1048576) (fun vi _ => kn - (intOf vi).toNat)
  case atStart => exact ⟨0, _, rfl, rfl, Nat.zero_le _, by rw [lens_zero]; omega, by omega⟩
  case round =>
    obtain ⟨k, z, rfl, rfl, hkn, hz, hz1⟩ := hrel
    have HZa : Hid (z = ((a.pn.size + a.bn.size + a.leader.size + vn + a.ver.bn.size + ta.id.bn.size + kn + lens ta.keys k : Nat) : Int)) := hz
    have hz0 : 0 ≤ z := by omega
    clear hz
    by_cases hlt : k < kn
    · have hlt' : (k : Int) < (kn : Int) := by omega
      have hkz : k < ta.keys.length := by rw [HKLa.out]; exact hlt
      rcases HKSa.out.at_ with h0 | ⟨kb, ko, hxe, g⟩
      · rw [h0] at hkz; simp at hkz
      subst hxe
      obtain ⟨a', n', c', y1, y2⟩ := g k hkz
      have y3 := kB.cell' y1 (fun h => h)
      have y4 := y2.len
      have y5 := HEAa.out _ (List.getElem_mem hkz)
      have hls := lens_succ ta.keys k hkz
      rw [y4] at y5 hls
      unfold maxLen at y5
      have HLS : Hid (_ = _) := hls
      clear g y1 y2 y4 hls
      by_cases e1 : 1048576 < n'
      · have e1' : (1048576 : Int) < (n' : Int) := by omega
        go_wp2
        go_ret
        exact ⟨_, rfl, (fun h => by cases h), kB⟩
      · have e1' : ¬ (1048576 : Int) < (n' : Int) := by omega
        by_cases e2 : (1048576 : Int) < z + (n' : Int)
        · go_wp2
          go_ret
          exact ⟨_, rfl, (fun h => by cases h), kB⟩
        · go_wp2
          go_round
          case rel => exact ⟨k + 1, _, by go_num, rfl, by omega, by have hls := HLS.out; have hz := HZa.out; rw [hls]; omega, by omega⟩
          case measure => simp [intOf]; omega
    · have hkn' : k = kn := by omega
      have hlaa := lens_all ta.keys
      rw [HKLa.out] at hlaa
      rw [hkn'] at HZa
      have hlt' : ¬ (k : Int) < (kn : Int) := by omega
      clear hlt hkn hkn'
      have hza := HZa.out
      obtain ⟨S1, hS1⟩ : ∃ S1, a.pn.size + a.bn.size + a.leader.size + vn + a.ver.bn.size + ta.id.bn.size + kn + lens ta.keys kn = S1 := ⟨_, rfl⟩
      rw [hS1] at hza
      have HS1 : Hid (a.pn.size + a.bn.size + a.leader.size + vn + a.ver.bn.size + ta.id.bn.size + kn + lens ta.keys kn = S1) := hS1
      subst hza
      clear hS1 HZa
      go_wp2
      all_goals try (go_ret; exact ⟨_, rfl, (fun h => by cases h), kB⟩)
      go_loop [7, 5] (fun vi v5 => ∃ (k : Nat) (z : Int), vi = .int .i64 k ∧ v5 = .int .i64 z ∧ k ≤ ln ∧ z = ((S1 + wn + ta.ver.bn.size + (b.pn.size + b.bn.size + b.leader.size + un + b.ver.bn.size) + tb.id.bn.size + ln + lens tb.keys k : Nat) : Int) ∧ z ≤ 1048576) (fun vi _ => ln - (intOf vi).toNat)
      case atStart => exact ⟨0, _, rfl, rfl, Nat.zero_le _, by rw [lens_zero]; omega, by omega⟩
      case round =>
        obtain ⟨k, z, rfl, rfl, hkn, hz, hz1⟩ := hrel
        have HZb : Hid (z = ((S1 + wn + ta.ver.bn.size + (b.pn.size + b.bn.size + b.leader.size + un + b.ver.bn.size) + tb.id.bn.size + ln + lens tb.keys k : Nat) : Int)) := hz
        have hz0 : 0 ≤ z := by omega
        clear hz
        by_cases hlt : k < ln
        · have hlt' : (k : Int) < (ln : Int) := by omega
          have hkz : k < tb.keys.length := by rw [HKLb.out]; exact hlt
          rcases HKSb.out.at_ with h0 | ⟨kb, ko, hxe, g⟩
          · rw [h0] at hkz; simp at hkz
          subst hxe
          obtain ⟨a', n', c', y1, y2⟩ := g k hkz
          have y3 := kB.cell' y1 (fun h => h)
          have y4 := y2.len
          have y5 := HEAb.out _ (List.getElem_mem hkz)
          have hls := lens_succ tb.keys k hkz
          rw [y4] at y5 hls
          unfold maxLen at y5
          have HLS : Hid (_ = _) := hls
          clear g y1 y2 y4 hls
          by_cases e1 : 1048576 < n'
          · have e1' : (1048576 : Int) < (n' : Int) := by omega
            go_wp2
            go_ret
            exact ⟨_, rfl, (fun h => by cases h), kB⟩
          · have e1' : ¬ (1048576 : Int) < (n' : Int) := by omega
            by_cases e2 : (1048576 : Int) < z + (n' : Int)
            · go_wp2
              go_ret
              exact ⟨_, rfl, (fun h => by cases h), kB⟩
            · go_wp2
              go_round
              case rel => exact ⟨k + 1, _, by go_num, rfl, by omega, by have hls := HLS.out; have hz := HZb.out; rw [hls]; omega, by omega⟩
              case measure => simp [intOf]; omega
        · have hkn' : k = ln := by omega
          have hlab := lens_all tb.keys
          rw [HKLb.out] at hlab
          rw [hkn'] at HZb
          have hlt' : ¬ (k : Int) < (ln : Int) := by omega
          clear hlt hkn hkn'
          go_wp2
          all_goals
            go_ret
            refine ⟨_, rfl, ?_, kB⟩
            first
              | (intro h; cases h; done)
              | (intro _
                 have hz := HZb.out
                 have hy := HS1.out
                 refine ⟨?_, ?_⟩
                 · refine ⟨by rw [HVa.out]; omega, fun t' ht => ?_⟩
                   rw [HTa.out] at ht
                   simp only [Option.some.injEq] at ht
                   subst ht
                   unfold Tx.size
                   rw [HKLa.out, HWLa.out, ← hlaa]
                   omega
                 · refine ⟨by rw [HVb.out]; omega, fun t' ht => ?_⟩
                   rw [HTb.out] at ht
                   simp only [Option.some.injEq] at ht
                   subst ht
                   unfold Tx.size
                   rw [HKLb.out, HWLb.out, ← hlab]
                   omega)

end Go.Proofs.Qxb6613770a
