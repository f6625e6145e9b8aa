import Derived.Test.Qxb6613770aLF1
namespace Go.Proofs.Qxb6613770a
set_option linter.unusedVariables false
set_option linter.unusedSimpArgs false
open Go.RowKit

theorem ulen_q (x : Nat) (hx : x < 18446744073709551616) (w : World) :
    Calls Try.prog 39 #[.int .u64 x] w fun e w' => e = .returned (.int .i64 ((Lib.uvarint x).length : Int)) ∧ w' = w :=
  (ulen_any x hx w).mono fun e w' ⟨h1, h2⟩ => ⟨h1, h2.symm⟩

def strLen (n : Nat) : Nat := (Lib.uvarint n).length + n
theorem strLen_eq (s : ByteArray) : (encStr s.data.toList).length = strLen s.size := by
  unfold encStr strLen; rw [List.length_append, size_toList]

set_option maxHeartbeats 1000000 in
set_option maxRecDepth 100000 in
/-- zzStrLen. -/
theorem strLen_any (n : Nat) (hn : n ≤ 1048576) (w : World) :
    Calls Try.prog 44 #[.int .i64 n] w fun e w' => e = .returned (.int .i64 (strLen n : Int)) ∧ w' = w := by
  have hl := Lib.uvarint_length64 (x := n) (by omega)
  have hn' : (n : Int) ≤ 1048576 := by omega
  have hl' : ((Lib.uvarint n).length : Int) ≤ 10 := by omega
  go_enter Try.func44, Try.ntmps44
  go_wp2_with fail
  refine (ulen_any n (by omega) _).mono ?_
  rintro e w' ⟨rfl, rfl⟩
  go_wp2
  go_ret
  exact ⟨ret_int (by unfold strLen; omega), rfl⟩

set_option maxHeartbeats 1000000 in
set_option maxRecDepth 100000 in
/-- zzDurLen. -/
theorem durLen_any (d : Int) (h1 : -9223372036854775808 ≤ d) (h2 : d ≤ 9223372036854775807) (w : World) :
    Calls Try.prog 45 #[.int .i64 d] w fun e w' => e = .returned (.int .i64 ((encDur d).length : Int)) ∧ w' = w := by
  by_cases hd : d < 0
  · have he : (encDur d).length = 1 := by unfold encDur; rw [if_pos hd, Lib.uvarint_small (by decide)]; rfl
    rw [he]
    go_enter Try.func45, Try.ntmps45
    go_wp2
    go_ret
    exact ⟨rfl, rfl⟩
  · obtain ⟨y, rfl⟩ := Int.eq_ofNat_of_zero_le (by omega : 0 ≤ d)
    have he : encDur (y : Int) = Lib.uvarint (y + 1) := by unfold encDur; rw [if_neg hd]; congr 1
    rw [he]
    go_enter Try.func45, Try.ntmps45
    go_wp2_with fail
    refine (ulen_any (y + 1) (by omega) _).mono ?_
    rintro e w' ⟨rfl, rfl⟩
    go_wp2
    go_ret
    exact ⟨rfl, rfl⟩

set_option maxHeartbeats 2000000 in
set_option maxRecDepth 100000 in
/-- zzBallotLen. -/
theorem ballotLen_any (r : Nat) (hr : r < 18446744073709551616) (s : ByteArray) (hs : s.size ≤ 1048576) (w : World) :
    Calls Try.prog 43 #[.agg #[.int .u64 r, .string s]] w fun e w' => e = .returned (.int .i64 ((encBallot r s.data.toList).length : Int)) ∧ Kept (fun _ => False) w w' := by
  have hl := Lib.uvarint_length64 hr
  have hl2 := Lib.uvarint_length64 (x := s.size) (by omega)
  have hl' : ((Lib.uvarint r).length : Int) ≤ 10 := by omega
  have hsl : strLen s.size ≤ 1048586 := by unfold strLen; omega
  have hsl' : (strLen s.size : Int) ≤ 1048586 := by omega
  have HE : Hid ((encBallot r s.data.toList).length = (Lib.uvarint r).length + strLen s.size) := by
    show _ = _
    unfold encBallot; rw [List.length_append, strLen_eq]
  go_enter Try.func43, Try.ntmps43
  go_wp2
  go_quiet ((first | (go_at_call 39; exact Calls.quiet_of_same (ulen_q r hr _)) | (go_at_call 44; exact Calls.quiet_of_same (strLen_any s.size hs _))))
  go_wp2
  go_ret
  refine ⟨ret_int (by rw [HE.out]; omega), ?_⟩
  exact ((Kept.refl _ w).alloc _).drewN _

end Go.Proofs.Qxb6613770a
