import Derived.Test.Qxb6613770aRecX
import Derived.Test.Qxb6613770aRecR
import Derived.Test.Qxb6613770aOpenR
namespace Go.Proofs.Qxb6613770a
set_option linter.unusedVariables false
set_option linter.unusedSimpArgs false
open Go.RowKit

theorem Rd.done {w : World} {rb b n c i : Nat} {bs : List UInt8} (h : Rd w rb b n c i bs []) : i = n := by
  have hd := congrArg List.length h.drop
  rw [List.length_drop, List.length_nil, h.len] at hd
  have := h.le
  omega

theorem uvarint4 : Lib.uvarint 4 = [4] := by first | rfl | decide | (unfold Lib.uvarint; simp)

/-- What stays while the law reads. -/
structure RF (w wX wr : World) (rb : Nat) : Prop where
  ext : Ext wX wr
  below : Below w.heap.size w wr
  h1 : wX.heap.size ≤ rb
  h2 : w.heap.size ≤ rb
theorem RF.kept {w wX wr wy : World} {rb : Nat} (h : RF w wX wr rb) (hk : Kept (fun k => k = rb) wr wy) : RF w wX wy rb := by
  have h1 := h.h1
  have h2 := h.h2
  exact ⟨h.ext.kept h1 hk, h.below.trans (hk.below h.below.size (fun k e => by omega)), h1, h2⟩

/-- A command's cells. -/
structure CmdAt (w : World) (b : Nat) (r : Rec) (va : Option Addr) (vn vc : Nat) (tp : Option Addr) : Prop where
  c0 : w.cell? ⟨b, 0, none⟩ = some (.string r.leader)
  c1 : w.cell? ⟨b, 1, none⟩ = some (.bool r.del)
  c2 : w.cell? ⟨b, 2, none⟩ = some (.slice va vn vc)
  c3 : w.cell? ⟨b, 3, none⟩ = some (.int .u64 r.ver.slot)
  c4 : w.cell? ⟨b, 4, none⟩ = some (.int .u64 r.ver.br)
  c5 : w.cell? ⟨b, 5, none⟩ = some (.string r.ver.bn)
  c6 : w.cell? ⟨b, 6, none⟩ = some (.pointer tp)
theorem cmdBox (w : World) (r : Rec) (va : Option Addr) (vn vc : Nat) (tp : Option Addr) (ty : TypeId) : CmdAt (w.alloc (.cells #[.string r.leader, .bool r.del, .slice va vn vc, .int .u64 r.ver.slot, .int .u64 r.ver.br, .string r.ver.bn, .pointer tp] ty)) w.heap.size r va vn vc tp :=
  ⟨by simp [go_sem], by simp [go_sem], by simp [go_sem], by simp [go_sem], by simp [go_sem], by simp [go_sem], by simp [go_sem]⟩

set_option maxHeartbeats 8000000 in
set_option maxRecDepth 100000 in
theorem rl_walk (r : Rec) (hn : r.Num) (hl : r.Len) (va : Option Addr) (vn vc : Nat) (tp : Option Addr) (w : World) (hq : RecMem w r va vn vc tp) :
    Calls Try.prog 5 #[recVal r va vn vc tp] w fun e w' => e = .returned (.bool true) ∧ Below w.heap.size w w' := by
  have m0 := recAt_box w 58 r va vn vc tp
  have kb : Kept (fun _ => False) w (w.alloc (.cells #[.int .u64 r.pr, .string r.pn, .int .u64 r.slot, .int .u64 r.br, .string r.bn, .string r.leader, .bool r.del, .slice va vn vc, .int .u64 r.ver.slot, .int .u64 r.ver.br, .string r.ver.bn, .pointer tp] 58)) := (Kept.refl _ w).alloc _
  have HQ : Hid (RecMem w r va vn vc tp) := hq
  clear hq
  unfold recVal
  go_enter Try.func5, Try.ntmps5
  go_wp2_with fail
  refine (bytesR_any r hl va vn vc tp _ (HQ.out.ext kb.ext0)).mono ?_
  rintro e w1 ⟨bq, rfl, hbq, k1⟩
  have K1 := kb.trans k1 (fun _ _ h => h)
  have m1 := m0.ext k1.ext0
  clear m0 kb k1
  obtain ⟨p0, p1, p2, p3, p4, p5, p6, p7, ⟨p8, p9, p10⟩, p11⟩ := m1
  cases bq with
  | false =>
    go_wp2
    go_ret
    exact ⟨rfl, K1.below (Nat.le_refl _) (fun _ h => h.elim)⟩
  | true =>
    have hs := hbq rfl
    clear hbq
    go_wp2_with fail
    refine (sizeR_any r hs va vn vc tp _ (HQ.out.ext K1.ext0)).mono ?_
    rintro e w2 ⟨z, rfl, hz0, hz1, k2⟩
    have K2 := K1.trans k2 (fun _ _ h => h)
    have m2 := RecAt.ext ⟨p0, p1, p2, p3, p4, p5, p6, p7, ⟨p8, p9, p10⟩, p11⟩ k2.ext0
    clear K1 k2 p0 p1 p2 p3 p4 p5 p6 p7 p8 p9 p10 p11
    obtain ⟨p0, p1, p2, p3, p4, p5, p6, p7, ⟨p8, p9, p10⟩, p11⟩ := m2
    by_cases hz : 1048576 < z
    · go_wp2
      go_ret
      exact ⟨rfl, K2.below (Nat.le_refl _) (fun _ h => h.elim)⟩
    · go_wp2_with fail
      refine (toRecord_any r hs va vn vc tp _ (HQ.out.ext K2.ext0)).mono ?_
      rintro e w3 ⟨va', vn', vc', tp', rfl, hq3, k3⟩
      have K3 := K2.trans k3 (fun _ _ h => h)
      have m3 := RecAt.ext ⟨p0, p1, p2, p3, p4, p5, p6, p7, ⟨p8, p9, p10⟩, p11⟩ k3.ext0
      clear K2 k3 p0 p1 p2 p3 p4 p5 p6 p7 p8 p9 p10 p11
      go_wp2_with fail
      refine (zencodeR_any _ r (hn.ok hs) va' vn' vc' tp' hq3).mono ?_
      rintro e w4 ⟨v4, rfl, own4, hb4, k4⟩
      have K4 := K3.trans k4 (fun _ _ h => h)
      have m4 := m3.ext k4.ext0
      clear hq3 m3 K3 k4 hb4
      have hvn : vn ≤ 1048576 := by have := hs.self; have := HQ.out.val.len; omega
      have hsz := hs.self
      have hpos : 0 < ((4 : UInt8) :: r.enc).length := by simp
      obtain ⟨L, hL⟩ : ∃ L, (4 : UInt8) :: r.enc = L := ⟨_, rfl⟩
      have HL : Hid ((4 : UInt8) :: r.enc = L) := hL
      rw [hL] at own4 hpos
      clear hL
      obtain ⟨g4, c4, hv4, hg4⟩ := owns_some own4 hpos
      subst hv4
      obtain ⟨hbo, -, hc41, hc42⟩ := owns_bytes own4
      have hX := cmdBox w4 r va vn vc tp 54
      have KX : Kept (fun _ => False) w (w4.alloc (.cells #[.string r.leader, .bool r.del, .slice va vn vc, .int .u64 r.ver.slot, .int .u64 r.ver.br, .string r.ver.bn, .pointer tp] 54)) := K4.alloc _
      have mX := m4.ext ((Kept.refl (fun _ => False) w4).alloc (.cells #[.string r.leader, .bool r.del, .slice va vn vc, .int .u64 r.ver.slot, .int .u64 r.ver.br, .string r.ver.bn, .pointer tp] 54)).ext0
      have bX := hbo.ext ((Kept.refl (fun _ => False) w4).alloc (.cells #[.string r.leader, .bool r.del, .slice va vn vc, .int .u64 r.ver.slot, .int .u64 r.ver.br, .string r.ver.bn, .pointer tp] 54)).ext0
      have QX := HQ.out.ext KX.ext0
      have hsX : (w4.alloc (.cells #[.string r.leader, .bool r.del, .slice va vn vc, .int .u64 r.ver.slot, .int .u64 r.ver.br, .string r.ver.bn, .pointer tp] 54)).heap.size = w4.heap.size + 1 := by simp
      have hcells := heap_alloc_new (w4.alloc (.cells #[.string r.leader, .bool r.del, .slice va vn vc, .int .u64 r.ver.slot, .int .u64 r.ver.br, .string r.ver.bn, .pointer tp] 54)) (.cells #[.slice (some ⟨g4, 0, none⟩) L.length c4, .int .i64 0, .bool true] 41)
      have hg4' : g4 < w4.heap.size := (own4.lt _ rfl).2
      have HLR : Hid (L = Lib.uvarint 4 ++ (encBallot r.pr r.pn.data.toList ++ (Lib.uvarint r.slot ++ (encBallot r.br r.bn.data.toList ++ (encStr r.leader.data.toList ++ (encB r.del ++ (encStr r.val ++ (r.ver.enc ++ (encB r.txn.isSome ++ encTxn r.txn))))))))) := by
        show L = _
        rw [← HL.out, uvarint4]; rfl
      clear hbo own4 K4
      have e0 := m4.c0
      have e1 := m4.c1
      have e2 := m4.c2
      have e3 := m4.c3
      have e4 := m4.c4
      have e5 := m4.c5
      have e6 := m4.c6
      have e7 := m4.c7
      have e8 := m4.ver.c0
      have e9 := m4.ver.c1
      have e10 := m4.ver.c2
      have e11 := m4.c11
      clear m4
      go_wp2_with fail
      generalize hWX : w4.alloc (.cells #[.string r.leader, .bool r.del, .slice va vn vc, .int .u64 r.ver.slot, .int .u64 r.ver.br, .string r.ver.bn, .pointer tp] 54) = wX at *
      rw [hsX] at hcells
      have F4 : RF w wX (wX.alloc (.cells #[.slice (some ⟨g4, 0, none⟩) L.length c4, .int .i64 0, .bool true] 41)) (w4.heap.size + 1) :=
        ⟨((Kept.refl (fun _ => False) wX).alloc _).ext0, (KX.alloc _).below (Nat.le_refl _) (fun _ h => h.elim), by omega, by have := KX.size; omega⟩
      have R4 : Rd (wX.alloc (.cells #[.slice (some ⟨g4, 0, none⟩) L.length c4, .int .i64 0, .bool true] 41)) (w4.heap.size + 1) g4 L.length c4 0 L (Lib.uvarint 4 ++ (encBallot r.pr r.pn.data.toList ++ (Lib.uvarint r.slot ++ (encBallot r.br r.bn.data.toList ++ (encStr r.leader.data.toList ++ (encB r.del ++ (encStr r.val ++ (r.ver.enc ++ (encB r.txn.isSome ++ encTxn r.txn))))))))) :=
        ⟨hcells, bX.ext ((Kept.refl (fun _ => False) wX).alloc _).ext0, by omega, rfl, Nat.le_trans hc41 hc42, Nat.zero_le _, by rw [List.drop_zero]; exact HLR.out⟩
      refine (wantUint_any (w4.heap.size + 1) g4 _ c4 0 4 (by decide) L _ _ R4).mono ?_
      rintro e w5 ⟨rfl, i5, R5, k5⟩
      have F5 := F4.kept k5
      clear F4 R4 k5 e0 e1 e2 e3 e4 e5 e6 e7 e8 e9 e10 e11 hcells hWX hsX KX hg4'
      generalize w4.heap.size + 1 = rb at *
      generalize w4.heap.size = cb at *
      have e0 := F5.ext _ _ mX.c0
      have e1 := F5.ext _ _ mX.c1
      go_wp2_with fail
      refine (wantBallot_any rb g4 _ c4 i5 r.pr hn.pr r.pn (by omega) L _ _ R5).mono ?_
      rintro e w6 ⟨rfl, i6, R6, k6⟩
      have F6 := F5.kept k6
      clear F5 R5 k6 e0 e1
      have e2 := F6.ext _ _ mX.c2
      go_wp2_with fail
      refine (wantUint_any rb g4 _ c4 i6 r.slot hn.slot L _ _ R6).mono ?_
      rintro e w7 ⟨rfl, i7, R7, k7⟩
      have F7 := F6.kept k7
      clear F6 R6 k7 e2
      have e3 := F7.ext _ _ mX.c3
      have e4 := F7.ext _ _ mX.c4
      go_wp2_with fail
      refine (wantBallot_any rb g4 _ c4 i7 r.br hn.br r.bn (by omega) L _ _ R7).mono ?_
      rintro e w8 ⟨rfl, i8, R8, k8⟩
      have F8 := F7.kept k8
      clear F7 R7 k8 e3 e4
      have e5 := F8.ext _ _ hX.c0
      go_wp2_with fail
      refine (wantString_any rb g4 _ c4 i8 r.leader (by omega) L _ _ R8).mono ?_
      rintro e w9 ⟨rfl, i9, R9, k9⟩
      have F9 := F8.kept k9
      clear F8 R8 k9 e5
      have e6 := F9.ext _ _ hX.c1
      go_wp2_with fail
      refine (wantBool_any rb g4 _ c4 i9 r.del L _ _ R9).mono ?_
      rintro e w10 ⟨rfl, i10, R10, k10⟩
      have F10 := F9.kept k10
      clear F9 R9 k10 e6
      have e7 := F10.ext _ _ hX.c2
      go_wp2_with fail
      refine (wantBytes_any wX rb g4 _ c4 i10 va vn vc r.val hvn L _ _ F10.ext F10.h1 QX.val R10).mono ?_
      rintro e w11 ⟨rfl, i11, R11, k11⟩
      have F11 := F10.kept k11
      clear F10 R10 k11 e7
      have e8 := F11.ext _ _ hX.c3
      have e9 := F11.ext _ _ hX.c4
      have e10 := F11.ext _ _ hX.c5
      go_wp2_with fail
      refine (wantVersion_any rb g4 _ c4 i11 r.ver hn.ver (by omega) L _ _ R11).mono ?_
      rintro e w12 ⟨rfl, i12, R12, k12⟩
      have F12 := F11.kept k12
      clear F11 R11 k12 e8 e9 e10 hsz
      have htn := hn.txn
      have hts := hs.txn
      have QT := QX.txn
      obtain ⟨T, hT⟩ : ∃ T, r.txn = T := ⟨_, rfl⟩
      rw [hT] at QT R12 htn hts
      clear hT HLR HL HQ mX QX
      have e11 := F12.ext _ _ hX.c6
      cases T with
      | none =>
        obtain rfl : tp = none := QT
        go_wp2_with fail
        refine (wantBool_any rb g4 _ c4 i12 false L [] _ R12).mono ?_
        rintro e w13 ⟨rfl, i13, R13, k13⟩
        have F13 := F12.kept k13
        have hir := R13.done
        obtain ⟨r0, r1, r2, -⟩ := R13.rd.cells
        rw [hir] at r1
        have e12 := F13.ext _ _ hX.c6
        clear hir F12 R12 k13 e11 R13
        go_wp2
        go_ret
        exact ⟨rfl, F13.below⟩
      | some t =>
        obtain ⟨tb, to, ka, kn, kc, wa, wn, wc, rfl, htx⟩ := QT
        have htt := hts t rfl
        unfold Tx.size at htt
        have hkl := htx.keys.len
        have hwl := htx.val.len
        have HKL : Hid (t.keys.length = kn) := hkl
        have HKE : Hid (∀ x ∈ t.keys, x.length ≤ 1048576) := fun x hx => by have := key_le t.keys x hx; omega
        have y1 : t.id.bn.size ≤ 1048576 := by omega
        have y2 : t.ver.bn.size ≤ 1048576 := by omega
        have y3 : wn ≤ 1048576 := by omega
        have y4 : kn ≤ 1048576 := by omega
        have y4' : (kn : Int) ≤ 1048576 := by omega
        have tn := htn t rfl
        clear htt hkl hwl hts htn
        go_wp2_with fail
        refine (wantBool_any rb g4 _ c4 i12 true L t.enc _ R12).mono ?_
        rintro e w13 ⟨rfl, i13, R13', k13⟩
        have F13 := F12.kept k13
        have R13 : Rd w13 rb g4 L.length c4 i13 L (t.id.enc ++ (Lib.uvarint kn ++ (t.keys.flatMap encStr ++ (encB t.com ++ (encB t.del ++ (encStr t.val ++ (t.ver.enc ++ []))))))) := by
          have e : t.enc = (t.id.enc ++ (Lib.uvarint kn ++ (t.keys.flatMap encStr ++ (encB t.com ++ (encB t.del ++ (encStr t.val ++ (t.ver.enc ++ []))))))) := by
            unfold Tx.enc Tx.head Tx.tail
            rw [HKL.out, List.append_nil, List.append_assoc]
          rw [← e]; exact R13'
        clear F12 R12 k13 e11 R13'
        have e12 := F13.ext _ _ hX.c6
        have t0 := F13.ext _ _ htx.id.c0
        have t1 := F13.ext _ _ htx.id.c1
        have t2 := F13.ext _ _ htx.id.c2
        go_wp2_with fail
        refine (wantVersion_any rb g4 _ c4 i13 t.id tn.id y1 L _ _ R13).mono ?_
        rintro e w14 ⟨rfl, i14, R14, k14⟩
        have F14 := F13.kept k14
        clear F13 R13 k14 e12 t0 t1 t2
        have t3 := F14.ext _ _ htx.ck
        go_wp2_with fail
        refine (wantUint_any rb g4 _ c4 i14 kn (by omega) L _ _ R14).mono ?_
        rintro e w15 ⟨rfl, i15, R15, k15⟩
        have F15 := F14.kept k15
        clear F14 R14 k15 t3
        go_wp2_with fail
        go_loopw [7] (fun v7 wr => ∃ (k i' : Nat), v7 = .int .i64 k ∧ k ≤ kn ∧ Rd wr rb g4 L.length c4 i' L ((t.keys.drop k).flatMap encStr ++ (encB t.com ++ (encB t.del ++ (encStr t.val ++ (t.ver.enc ++ []))))) ∧ RF w wX wr rb) (fun v7 _ => kn - (intOf v7).toNat)
        case atStart => exact ⟨0, i15, rfl, Nat.zero_le _, by rw [List.drop_zero]; exact R15, F15⟩
        case round =>
          obtain ⟨k, i', rfl, hkn, R, F⟩ := hrel
          have t3 := F.ext _ _ htx.ck
          by_cases hlt : k < kn
          · have hkz : k < t.keys.length := by rw [HKL.out]; exact hlt
            have hlt' : (k : Int) < (kn : Int) := by omega
            rcases htx.keys.at_ with h0 | ⟨kb, ko, hxe, G⟩
            · rw [h0] at hkz; simp at hkz
            subst hxe
            obtain ⟨a', n', c', z1, z2⟩ := G k hkz
            have z4 := z2.len
            have z5 := HKE.out _ (List.getElem_mem hkz)
            rw [z4] at z5
            have z6 := F.ext _ _ z1
            have HZ : Hid (Bs wX a' n' c' t.keys[k]) := z2
            have R' : Rd wr rb g4 L.length c4 i' L (encStr t.keys[k] ++ ((t.keys.drop (k + 1)).flatMap encStr ++ (encB t.com ++ (encB t.del ++ (encStr t.val ++ (t.ver.enc ++ [])))))) := by
              rw [List.drop_eq_getElem_cons hkz, List.flatMap_cons, List.append_assoc] at R
              exact R
            clear G R z1 z2 z4
            go_wp2_with fail
            refine (wantBytes_any wX rb g4 _ c4 i' a' n' c' t.keys[k] z5 L _ _ F.ext F.h1 HZ.out R').mono ?_
            rintro e w16 ⟨rfl, i16, R16, k16⟩
            go_wp2
            go_roundw
            case rel => exact ⟨k + 1, i16, by go_num, by omega, R16, F.kept k16⟩
            case measure => simp [intOf]; omega
          · have hdz : t.keys.drop k = [] := List.drop_of_length_le (by rw [HKL.out]; omega)
            rw [hdz, List.flatMap_nil, List.nil_append] at R
            clear hdz
            have t4 := F.ext _ _ htx.cc
            go_wp2_with fail
            refine (wantBool_any rb g4 _ c4 i' t.com L _ _ R).mono ?_
            rintro e w17 ⟨rfl, i17, R17, k17⟩
            have F17 := F.kept k17
            clear F R k17 t4 t3
            have t5 := F17.ext _ _ htx.cd
            go_wp2_with fail
            refine (wantBool_any rb g4 _ c4 i17 t.del L _ _ R17).mono ?_
            rintro e w18 ⟨rfl, i18, R18, k18⟩
            have F18 := F17.kept k18
            clear F17 R17 k18 t5
            have t6 := F18.ext _ _ htx.cv
            go_wp2_with fail
            refine (wantBytes_any wX rb g4 _ c4 i18 wa wn wc t.val y3 L _ _ F18.ext F18.h1 htx.val R18).mono ?_
            rintro e w19 ⟨rfl, i19, R19, k19⟩
            have F19 := F18.kept k19
            clear F18 R18 k19 t6
            have t7 := F19.ext _ _ htx.ver.c0
            have t8 := F19.ext _ _ htx.ver.c1
            have t9 := F19.ext _ _ htx.ver.c2
            go_wp2_with fail
            refine (wantVersion_any rb g4 _ c4 i19 t.ver tn.ver y2 L _ _ R19).mono ?_
            rintro e w20 ⟨rfl, i20, R20, k20⟩
            have F20 := F19.kept k20
            have hir := R20.done
            obtain ⟨r0, r1, r2, -⟩ := R20.rd.cells
            rw [hir] at r1
            clear hir F19 R19 k20 t7 t8 t9 R20
            go_wp2
            go_ret
            exact ⟨rfl, F20.below⟩

end Go.Proofs.Qxb6613770a
