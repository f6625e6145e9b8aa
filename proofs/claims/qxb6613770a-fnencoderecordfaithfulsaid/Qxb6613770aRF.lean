import Derived.Test.Qxb6613770aRS3
import Derived.Test.Qxb6613770aRL
import Derived.Test.Qxb6613770aRG1
import Derived.Test.Qxb6613770aRG2
import Derived.Test.Qxb6613770aRG3
namespace Go.Proofs.Qxb6613770a
set_option linter.unusedVariables false
set_option linter.unusedSimpArgs false
open Go.RowKit

/-- zzBytes of two records. -/
theorem bytesRF_any (a b : Rec) (hla : a.Len) (hlb : b.Len) (va : Option Addr) (vn vc : Nat) (tp : Option Addr) (ua : Option Addr) (un uc : Nat) (up : Option Addr) (w : World) (hqa : RecMem w a va vn vc tp) (hqb : RecMem w b ua un uc up) :
    Calls Try.prog 29 #[recVal a va vn vc tp, recVal b ua un uc up] w fun e w' => Guard (a.Small ∧ b.Small) w e w' := by
  have hta := hqa.txn
  have htb := hqb.txn
  cases hA : a.txn with
  | none =>
    rw [hA] at hta
    obtain rfl : tp = none := hta
    cases hB : b.txn with
    | none =>
      rw [hB] at htb
      obtain rfl : up = none := htb
      exact bytesRF_nn a b hla hlb va vn vc ua un uc w hqa.val.len hqb.val.len hA hB
    | some tb =>
      rw [hB] at htb
      obtain ⟨bb, bo, la, ln, lc, xa, xn, xc, rfl, htb⟩ := htb
      exact bytesRF_ns a b hla hlb va vn vc ua un uc w hqa.val.len hqb.val.len hA tb hB bb bo la ln lc xa xn xc htb
  | some ta =>
    rw [hA] at hta
    obtain ⟨ab, ao, ka, kn, kc, wa, wn, wc, rfl, hta⟩ := hta
    cases hB : b.txn with
    | none =>
      rw [hB] at htb
      obtain rfl : up = none := htb
      exact bytesRF_sn a b hla hlb va vn vc ua un uc w hqa.val.len hqb.val.len ta hA ab ao ka kn kc wa wn wc hta hB
    | some tb =>
      rw [hB] at htb
      obtain ⟨bb, bo, la, ln, lc, xa, xn, xc, rfl, htb⟩ := htb
      exact bytesRF_ss a b hla hlb va vn vc ua un uc w hqa.val.len hqb.val.len ta hA ab ao ka kn kc wa wn wc hta tb hB bb bo la ln lc xa xn xc htb

/-- What the law has to know of memory. -/
structure GF (w wx : World) (B : Nat) (a b : Rec) (va : Option Addr) (vn vc : Nat) (tp : Option Addr) (ua : Option Addr) (un uc : Nat) (up : Option Addr) : Prop where
  kept : Kept (fun _ => False) w wx
  ma : RecAt wx B a va vn vc tp
  mb : RecAt wx (B + 1) b ua un uc up
theorem GF.next {w wx wy : World} {B : Nat} {a b : Rec} {va : Option Addr} {vn vc : Nat} {tp : Option Addr} {ua : Option Addr} {un uc : Nat} {up : Option Addr} (h : GF w wx B a b va vn vc tp ua un uc up) (hk : Kept (fun _ => False) wx wy) : GF w wy B a b va vn vc tp ua un uc up :=
  ⟨h.kept.trans hk (fun _ _ h => h), h.ma.ext hk.ext0, h.mb.ext hk.ext0⟩
theorem GF.below {w wx : World} {B : Nat} {a b : Rec} {va : Option Addr} {vn vc : Nat} {tp : Option Addr} {ua : Option Addr} {un uc : Nat} {up : Option Addr} (h : GF w wx B a b va vn vc tp ua un uc up) : Below w.heap.size w wx := h.kept.below (Nat.le_refl _) (fun _ h => h.elim)

theorem first4 {w : World} {g : Nat} {bs L : List UInt8} (hL : (4 : UInt8) :: bs = L) (h : BytesAt w (some ⟨g, 0, none⟩) L) : w.cell? ⟨g, 0, none⟩ = some (.int .u8 4) := by
  subst hL
  rcases h with h | ⟨b, o, e, g'⟩
  · cases h
  · simp only [Option.some.injEq, Addr.mk.injEq, and_true] at e
    obtain ⟨rfl, rfl⟩ := e
    have := g' 0 (by simp)
    simpa using this

set_option maxHeartbeats 16000000 in
set_option maxRecDepth 100000 in
theorem rf_walk (a b : Rec) (hna : a.Num) (hla : a.Len) (hnb : b.Num) (hlb : b.Len) (va : Option Addr) (vn vc : Nat) (tp : Option Addr) (ua : Option Addr) (un uc : Nat) (up : Option Addr) (w : World) (hqa : RecMem w a va vn vc tp) (hqb : RecMem w b ua un uc up) :
    Calls Try.prog 6 #[recVal a va vn vc tp, recVal b ua un uc up] w fun e w' => e = .returned (.bool true) ∧ Below w.heap.size w w' := by
  obtain ⟨mA, mB, kB⟩ := twoBox w a b va vn vc tp ua un uc up
  have F0 : GF w _ w.heap.size a b va vn vc tp ua un uc up := ⟨kB, mA, mB⟩
  have HQa : Hid (RecMem w a va vn vc tp) := hqa
  have HQb : Hid (RecMem w b ua un uc up) := hqb
  clear hqa hqb mA mB kB
  unfold recVal
  go_enter Try.func6, Try.ntmps6
  go_wp2_with fail
  refine (bytesRF_any a b hla hlb va vn vc tp ua un uc up _ (HQa.out.ext F0.kept.ext0) (HQb.out.ext F0.kept.ext0)).mono ?_
  rintro e w1 ⟨bq, rfl, hbq, k1⟩
  have F1 := F0.next k1
  clear F0 k1
  obtain ⟨B, hB⟩ : ∃ B, w.heap.size = B := ⟨_, rfl⟩
  rw [hB] at F1
  simp only [hB]
  cases bq with
  | false =>
    clear hB
    go_wp2
    go_ret
    exact ⟨rfl, F1.below⟩
  | true =>
    obtain ⟨hsa, hsb⟩ := hbq rfl
    clear hbq
    obtain ⟨p0, p1, p2, p3, p4, p5, p6, p7, ⟨p8, p9, p10⟩, p11⟩ := F1.ma
    clear hB
    go_wp2_with fail
    refine (sizeR_any a hsa va vn vc tp _ (HQa.out.ext F1.kept.ext0)).mono ?_
    rintro e w2 ⟨z2, rfl, hz20, hz21, k2⟩
    have F2 := F1.next k2
    clear p0 p1 p2 p3 p4 p5 p6 p7 p8 p9 p10 p11
    clear F1 k2
    obtain ⟨q0, q1, q2, q3, q4, q5, q6, q7, ⟨q8, q9, q10⟩, q11⟩ := F2.mb
    by_cases hz2 : 1048576 < z2
    · go_wp2
      go_ret
      exact ⟨rfl, F2.below⟩
    · go_wp2_with fail
      refine (sizeR_any b hsb ua un uc up _ (HQb.out.ext F2.kept.ext0)).mono ?_
      rintro e w3 ⟨z3, rfl, hz30, hz31, k3⟩
      have F3 := F2.next k3
      clear q0 q1 q2 q3 q4 q5 q6 q7 q8 q9 q10 q11
      clear F2 k3
      obtain ⟨p0, p1, p2, p3, p4, p5, p6, p7, ⟨p8, p9, p10⟩, p11⟩ := F3.ma
      by_cases hz3 : 1048576 < z3
      · go_wp2
        go_ret
        exact ⟨rfl, F3.below⟩
      · go_wp2_with fail
        refine (toRecord_any a hsa va vn vc tp _ (HQa.out.ext F3.kept.ext0)).mono ?_
        rintro e w4 ⟨va', vn', vc', tp', rfl, hq4, k4⟩
        have F4 := F3.next k4
        clear p0 p1 p2 p3 p4 p5 p6 p7 p8 p9 p10 p11
        clear F3 k4
        go_wp2_with fail
        refine (zencodeR_any _ a (hna.ok hsa) va' vn' vc' tp' hq4).mono ?_
        rintro e w5 ⟨v5, rfl, own5, hb5, k5⟩
        have F5 := F4.next k5
        clear F4 k5 hb5 hq4
        have hpos5 : 0 < ((4 : UInt8) :: a.enc).length := by simp
        obtain ⟨LA, hLA⟩ : ∃ L, (4 : UInt8) :: a.enc = L := ⟨_, rfl⟩
        have HLA : Hid ((4 : UInt8) :: a.enc = LA) := hLA
        rw [hLA] at own5 hpos5
        clear hLA
        obtain ⟨g5, c5, hv5, hg5⟩ := owns_some own5 hpos5
        subst hv5
        obtain ⟨bo5, -, hc51, hc52⟩ := owns_bytes own5
        clear own5
        obtain ⟨q0, q1, q2, q3, q4, q5, q6, q7, ⟨q8, q9, q10⟩, q11⟩ := F5.mb
        go_wp2_with fail
        refine (toRecord_any b hsb ua un uc up _ (HQb.out.ext F5.kept.ext0)).mono ?_
        rintro e w6 ⟨ua', un', uc', up', rfl, hq6, k6⟩
        have F6 := F5.next k6
        have bo6 := bo5.ext k6.ext0
        clear q0 q1 q2 q3 q4 q5 q6 q7 q8 q9 q10 q11
        clear F5 k6 bo5
        go_wp2_with fail
        refine (zencodeR_any _ b (hnb.ok hsb) ua' un' uc' up' hq6).mono ?_
        rintro e w7 ⟨v7, rfl, own7, hb7, k7⟩
        have F7 := F6.next k7
        have boA := bo6.ext k7.ext0
        clear F6 k7 hb7 hq6 bo6
        have hpos7 : 0 < ((4 : UInt8) :: b.enc).length := by simp
        obtain ⟨LB, hLB⟩ : ∃ L, (4 : UInt8) :: b.enc = L := ⟨_, rfl⟩
        have HLB : Hid ((4 : UInt8) :: b.enc = LB) := hLB
        rw [hLB] at own7 hpos7
        clear hLB
        obtain ⟨g7, c7, hv7, hg7⟩ := owns_some own7 hpos7
        subst hv7
        obtain ⟨boB, -, hc71, hc72⟩ := owns_bytes own7
        clear own7
        have mxa : LA.length ≤ maxLen := Nat.le_trans hc51 hc52
        have mxb : LB.length ≤ maxLen := Nat.le_trans hc71 hc72
        have mxa' : (LA.length : Int) ≤ 9223372036854775807 := by unfold maxLen at mxa; omega
        have mxb' : (LB.length : Int) ≤ 9223372036854775807 := by unfold maxLen at mxb; omega
        have pa' : (0 : Int) < (LA.length : Int) := by omega
        have pb' : (0 : Int) < (LB.length : Int) := by omega
        have e8 : ((LA.length : Int) != (LA.length : Int)) = false := by simp
        have e9 : ((LB.length : Int) != (LB.length : Int)) = false := by simp
        have BA : Hid (BytesAt w7 (some ⟨g5, 0, none⟩) LA) := boA
        have BB : Hid (BytesAt w7 (some ⟨g7, 0, none⟩) LB) := boB
        clear boA boB
        obtain ⟨p0, p1, p2, p3, p4, p5, p6, p7, ⟨p8, p9, p10⟩, p11⟩ := F7.ma
        go_wp2_with fail
        refine (recLen_any a (hna.ok hsa) va vn vc tp _ (HQa.out.ext F7.kept.ext0) LA.length (by rw [HLA.out])).mono ?_
        rintro e w8 ⟨rfl, k8⟩
        have F8 := F7.next k8
        have BA8 : Hid (BytesAt w8 (some ⟨g5, 0, none⟩) LA) := BA.out.ext k8.ext0
        have BB8 : Hid (BytesAt w8 (some ⟨g7, 0, none⟩) LB) := BB.out.ext k8.ext0
        clear p0 p1 p2 p3 p4 p5 p6 p7 p8 p9 p10 p11
        clear F7 k8 BA BB
        obtain ⟨q0, q1, q2, q3, q4, q5, q6, q7, ⟨q8, q9, q10⟩, q11⟩ := F8.mb
        go_wp2_with fail
        refine (recLen_any b (hnb.ok hsb) ua un uc up _ (HQb.out.ext F8.kept.ext0) LB.length (by rw [HLB.out])).mono ?_
        rintro e w9 ⟨rfl, k9⟩
        have F9 := F8.next k9
        have BA9 : Hid (BytesAt w9 (some ⟨g5, 0, none⟩) LA) := BA8.out.ext k9.ext0
        have BB9 : Hid (BytesAt w9 (some ⟨g7, 0, none⟩) LB) := BB8.out.ext k9.ext0
        clear q0 q1 q2 q3 q4 q5 q6 q7 q8 q9 q10 q11
        clear F8 k9 BA8 BB8
        have f1 := first4 HLA.out BA9.out
        have f2 := first4 HLB.out BB9.out
        obtain ⟨p0, p1, p2, p3, p4, p5, p6, p7, ⟨p8, p9, p10⟩, p11⟩ := F9.ma
        obtain ⟨q0, q1, q2, q3, q4, q5, q6, q7, ⟨q8, q9, q10⟩, q11⟩ := F9.mb
        go_wp2_with fail
        refine (sameR_any a b hla hlb va vn vc tp ua un uc up _ (HQa.out.ext F9.kept.ext0) (HQb.out.ext F9.kept.ext0)).mono ?_
        rintro e w10 ⟨rfl, k10⟩
        have F10 := F9.next k10
        have BA10 : Hid (BytesAt w10 (some ⟨g5, 0, none⟩) LA) := BA9.out.ext k10.ext0
        have BB10 : Hid (BytesAt w10 (some ⟨g7, 0, none⟩) LB) := BB9.out.ext k10.ext0
        clear p0 p1 p2 p3 p4 p5 p6 p7 p8 p9 p10 p11
        clear q0 q1 q2 q3 q4 q5 q6 q7 q8 q9 q10 q11
        clear F9 k10 BA9 BB9 f1 f2
        have hsame : (LA == LB) = sameRec a b := by rw [← HLA.out, ← HLB.out]; rfl
        have HP1 : Hid (isProper LA LB = false) := by rw [← HLA.out, ← HLB.out]; exact Rec.not_proper a b
        have HP2 : Hid (isProper LB LA = false) := by rw [← HLA.out, ← HLB.out]; exact Rec.not_proper b a
        go_wp2_with fail
        refine (same_any (some ⟨g5, 0, none⟩) (some ⟨g7, 0, none⟩) _ _ c5 c7 LA LB _ BA10.out BB10.out rfl rfl mxa mxb).mono ?_
        rintro e w11 ⟨rfl, k11⟩
        have F11 := F10.next k11.kept
        have BA11 : Hid (BytesAt w11 (some ⟨g5, 0, none⟩) LA) := BA10.out.ext k11.ext
        have BB11 : Hid (BytesAt w11 (some ⟨g7, 0, none⟩) LB) := BB10.out.ext k11.ext
        clear F10 k11 BA10 BB10
        rw [hsame]
        clear hsame
        cases hsl : sameRec a b with
        | true =>
          go_wp2
          go_ret
          exact ⟨rfl, F11.below⟩
        | false =>
          go_wp2_with fail
          refine (proper_any (some ⟨g5, 0, none⟩) g7 _ _ c5 c7 LA LB _ BA11.out BB11.out rfl rfl mxa hc71 hc72).mono ?_
          rintro e w12 ⟨rfl, k12⟩
          have F12 := F11.next k12.kept
          have BA12 : Hid (BytesAt w12 (some ⟨g5, 0, none⟩) LA) := BA11.out.ext k12.ext
          have BB12 : Hid (BytesAt w12 (some ⟨g7, 0, none⟩) LB) := BB11.out.ext k12.ext
          have np1 := HP1.out
          clear F11 k12 BA11 BB11
          go_wp2_with fail
          refine (proper_any (some ⟨g7, 0, none⟩) g5 _ _ c7 c5 LB LA _ BB12.out BA12.out rfl rfl mxb hc51 hc52).mono ?_
          rintro e w13 ⟨rfl, k13⟩
          have F13 := F12.next k13.kept
          have np2 := HP2.out
          clear F12 k13
          go_wp2
          go_ret
          exact ⟨rfl, F13.below⟩

end Go.Proofs.Qxb6613770a
