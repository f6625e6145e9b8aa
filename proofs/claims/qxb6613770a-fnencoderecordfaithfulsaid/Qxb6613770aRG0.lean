import Derived.Test.Qxb6613770aRecG
namespace Go.Proofs.Qxb6613770a
set_option linter.unusedVariables false
set_option linter.unusedSimpArgs false
open Go.RowKit

theorem twoBox (w : World) (a b : Rec) (va : Option Addr) (vn vc : Nat) (tp : Option Addr) (ua : Option Addr) (un uc : Nat) (up : Option Addr) :
    RecAt ((w.alloc (.cells #[.int .u64 a.pr, .string a.pn, .int .u64 a.slot, .int .u64 a.br, .string a.bn, .string a.leader, .bool a.del, .slice va vn vc, .int .u64 a.ver.slot, .int .u64 a.ver.br, .string a.ver.bn, .pointer tp] 58)).alloc (.cells #[.int .u64 b.pr, .string b.pn, .int .u64 b.slot, .int .u64 b.br, .string b.bn, .string b.leader, .bool b.del, .slice ua un uc, .int .u64 b.ver.slot, .int .u64 b.ver.br, .string b.ver.bn, .pointer up] 58)) w.heap.size a va vn vc tp ∧ RecAt ((w.alloc (.cells #[.int .u64 a.pr, .string a.pn, .int .u64 a.slot, .int .u64 a.br, .string a.bn, .string a.leader, .bool a.del, .slice va vn vc, .int .u64 a.ver.slot, .int .u64 a.ver.br, .string a.ver.bn, .pointer tp] 58)).alloc (.cells #[.int .u64 b.pr, .string b.pn, .int .u64 b.slot, .int .u64 b.br, .string b.bn, .string b.leader, .bool b.del, .slice ua un uc, .int .u64 b.ver.slot, .int .u64 b.ver.br, .string b.ver.bn, .pointer up] 58)) (w.heap.size + 1) b ua un uc up ∧ Kept (fun _ => False) w ((w.alloc (.cells #[.int .u64 a.pr, .string a.pn, .int .u64 a.slot, .int .u64 a.br, .string a.bn, .string a.leader, .bool a.del, .slice va vn vc, .int .u64 a.ver.slot, .int .u64 a.ver.br, .string a.ver.bn, .pointer tp] 58)).alloc (.cells #[.int .u64 b.pr, .string b.pn, .int .u64 b.slot, .int .u64 b.br, .string b.bn, .string b.leader, .bool b.del, .slice ua un uc, .int .u64 b.ver.slot, .int .u64 b.ver.br, .string b.ver.bn, .pointer up] 58)) := by
  refine ⟨(recAt_box w 58 a va vn vc tp).ext ((Kept.refl (fun _ => False) _).alloc _).ext0, ?_, ((Kept.refl _ w).alloc _).alloc _⟩
  have h := recAt_box (w.alloc (.cells #[.int .u64 a.pr, .string a.pn, .int .u64 a.slot, .int .u64 a.br, .string a.bn, .string a.leader, .bool a.del, .slice va vn vc, .int .u64 a.ver.slot, .int .u64 a.ver.br, .string a.ver.bn, .pointer tp] 58)) 58 b ua un uc up
  have e : (w.alloc (.cells #[.int .u64 a.pr, .string a.pn, .int .u64 a.slot, .int .u64 a.br, .string a.bn, .string a.leader, .bool a.del, .slice va vn vc, .int .u64 a.ver.slot, .int .u64 a.ver.br, .string a.ver.bn, .pointer tp] 58)).heap.size = w.heap.size + 1 := by simp
  rw [e] at h
  exact h

set_option maxHeartbeats 16000000 in
set_option maxRecDepth 100000 in
theorem bytesRF_nn (a b : Rec) (hla : a.Len) (hlb : b.Len) (va : Option Addr) (vn vc : Nat) (ua : Option Addr) (un uc : Nat) (w : World) (hva : a.val.length = vn) (hvb : b.val.length = un) (hTa : a.txn = none) (hTb : b.txn = none) :
    Calls Try.prog 29 #[recVal a va vn vc none, recVal b ua un uc none] w fun e w' => Guard (a.Small ∧ b.Small) w e w' := by
  have h1 := hla.pn
  have h2 := hla.bn
  have h3 := hla.leader
  have h4 := hla.val
  have h5 := hla.ver
  have i1 := hlb.pn
  have i2 := hlb.bn
  have i3 := hlb.leader
  have i4 := hlb.val
  have i5 := hlb.ver
  have HVa : Hid (a.val.length = vn) := hva
  have HVb : Hid (b.val.length = un) := hvb
  have HTa : Hid (a.txn = none) := hTa
  have HTb : Hid (b.txn = none) := hTb
  rw [hva] at h4
  rw [hvb] at i4
  unfold maxLen at h1 h2 h3 h4 h5 i1 i2 i3 i4 i5
  obtain ⟨mA, mB, kB⟩ := twoBox w a b va vn vc none ua un uc none
  clear hva hvb hTa hTb hla hlb
  obtain ⟨p0, p1, p2, p3, p4, p5, p6, p7, ⟨p8, p9, p10⟩, p11⟩ := mA
  obtain ⟨q0, q1, q2, q3, q4, q5, q6, q7, ⟨q8, q9, q10⟩, q11⟩ := mB
  unfold recVal
  go_enter Try.func29, Try.ntmps29
  go_wp2
  all_goals
    go_ret
    refine ⟨_, rfl, ?_, kB⟩
    first
      | (intro h; cases h; done)
      | (intro _
         refine ⟨?_, ?_⟩
         · refine ⟨by rw [HVa.out]; omega, fun t' ht => ?_⟩
           rw [HTa.out] at ht; cases ht
         · refine ⟨by rw [HVb.out]; omega, fun t' ht => ?_⟩
           rw [HTb.out] at ht; cases ht)

end Go.Proofs.Qxb6613770a
