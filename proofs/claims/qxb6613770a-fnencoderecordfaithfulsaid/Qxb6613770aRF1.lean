import Derived.Test.Qxb6613770aRecX
import Derived.Test.Qxb6613770aLF3
namespace Go.Proofs.Qxb6613770a
set_option linter.unusedVariables false
set_option linter.unusedSimpArgs false
open Go.RowKit

theorem encStr_strLen (xs : List UInt8) : (encStr xs).length = strLen xs.length := by
  unfold encStr strLen; rw [List.length_append]
theorem Ver.enc_length (v : Ver) : v.enc.length = (Lib.uvarint v.slot).length + (encBallot v.br v.bn.data.toList).length := by
  unfold Ver.enc; rw [List.length_append]

set_option maxHeartbeats 4000000 in
set_option maxRecDepth 100000 in
/-- zzVersionLen. -/
theorem versionLen_any (v : Ver) (hv : v.Ok) (hz : v.bn.size ≤ 1048576) (w : World) :
    Calls Try.prog 50 #[.agg #[.int .u64 v.slot, .int .u64 v.br, .string v.bn]] w fun e w' => e = .returned (.int .i64 (v.enc.length : Int)) ∧ Kept (fun _ => False) w w' := by
  have hl := Lib.uvarint_length64 hv.slot
  have hb := encBallot_len v.br hv.br v.bn (by omega)
  have hl' : ((Lib.uvarint v.slot).length : Int) ≤ 10 := by omega
  have hb' : ((encBallot v.br v.bn.data.toList).length : Int) ≤ 1048596 := by omega
  have HE : Hid (v.enc.length = (Lib.uvarint v.slot).length + (encBallot v.br v.bn.data.toList).length) := Ver.enc_length v
  have m0 : VerAt (w.alloc (.cells #[.int .u64 v.slot, .int .u64 v.br, .string v.bn] 51)) w.heap.size 0 v := ⟨by simp [go_sem], by simp [go_sem], by simp [go_sem]⟩
  go_enter Try.func50, Try.ntmps50
  go_wp2
  go_region_with (first
    | (go_at_call 39; refine (ulen_q v.slot hv.slot _).mono ?_; rintro e w' ⟨rfl, rfl⟩)
    | (go_at_call 43; refine (ballotLen_any v.br hv.br v.bn hz _).mono ?_; rintro e w1 ⟨rfl, k1⟩))
  all_goals
    go_wp2
    go_ret
    refine ⟨ret_int (by rw [HE.out, wrap_id _ (by omega) (by omega)]; omega), ?_⟩
    repeat (first | with_reducible assumption | with_reducible exact Kept.refl _ _ | with_reducible refine Kept.drew ?_ | with_reducible refine Kept.alloc ?_ _ | with_reducible refine Kept.trans ?_ (by with_reducible assumption) (fun _ _ h => h))

/-- What the first statement of zzRecordLen loads. -/
def SN (bb : Nat) (r : Rec) (va : Option Addr) (vn vc : Nat) (tp : Option Addr) (w' : World) : Prop :=
  w'.cell? ⟨bb, 0, none⟩ = some (.int .u64 r.pr) ∧ w'.cell? ⟨bb, 1, none⟩ = some (.string r.pn) ∧ w'.cell? ⟨bb, 2, none⟩ = some (.int .u64 r.slot) ∧ w'.cell? ⟨bb, 3, none⟩ = some (.int .u64 r.br) ∧ w'.cell? ⟨bb, 4, none⟩ = some (.string r.bn) ∧ w'.cell? ⟨bb + 1, 0, none⟩ = some (.string r.leader) ∧ w'.cell? ⟨bb + 1, 2, none⟩ = some (.slice va vn vc) ∧ w'.cell? ⟨bb + 1, 3, none⟩ = some (.int .u64 r.ver.slot) ∧ w'.cell? ⟨bb + 1, 4, none⟩ = some (.int .u64 r.ver.br) ∧ w'.cell? ⟨bb + 1, 5, none⟩ = some (.string r.ver.bn) ∧ w'.cell? ⟨bb + 1, 6, none⟩ = some (.pointer tp)
theorem SN_kept {bb : Nat} {r : Rec} {va : Option Addr} {vn vc : Nat} {tp : Option Addr} {w w' : World} (hk : Kept (fun _ => False) w w') (h : SN bb r va vn vc tp w) : SN bb r va vn vc tp w' := by
  obtain ⟨a0, a1, a2, a3, a4, a5, a6, a7, a8, a9, a10⟩ := h
  have f : ¬ False := fun h => h
  exact ⟨hk.cell' a0 f, hk.cell' a1 f, hk.cell' a2 f, hk.cell' a3 f, hk.cell' a4 f, hk.cell' a5 f, hk.cell' a6 f, hk.cell' a7 f, hk.cell' a8 f, hk.cell' a9 f, hk.cell' a10 f⟩
theorem SN_drew {bb : Nat} {r : Rec} {va : Option Addr} {vn vc : Nat} {tp : Option Addr} {w : World} (h : SN bb r va vn vc tp w) : SN bb r va vn vc tp w.drew := h
theorem SN_new (w : World) (r : Rec) (va : Option Addr) (vn vc : Nat) (tp : Option Addr) : SN w.heap.size r va vn vc tp ((w.alloc (.cells #[.int .u64 r.pr, .string r.pn, .int .u64 r.slot, .int .u64 r.br, .string r.bn, .string r.leader, .bool r.del, .slice va vn vc, .int .u64 r.ver.slot, .int .u64 r.ver.br, .string r.ver.bn, .pointer tp] 58)).alloc (.cells #[.string r.leader, .bool r.del, .slice va vn vc, .int .u64 r.ver.slot, .int .u64 r.ver.br, .string r.ver.bn, .pointer tp] 54)) := by
  refine ⟨?_, ?_, ?_, ?_, ?_, ?_, ?_, ?_, ?_, ?_, ?_⟩ <;> simp [go_sem]

/-- A mark's cells that zzRecordLen loads. -/
def ST (b o : Nat) (t : Tx) (ka : Option Addr) (kn kc : Nat) (va : Option Addr) (vn vc : Nat) (w' : World) : Prop :=
  w'.cell? ⟨b, o, none⟩ = some (.int .u64 t.id.slot) ∧ w'.cell? ⟨b, o + 1, none⟩ = some (.int .u64 t.id.br) ∧ w'.cell? ⟨b, o + 2, none⟩ = some (.string t.id.bn) ∧ w'.cell? ⟨b, o + 3, none⟩ = some (.slice ka kn kc) ∧ w'.cell? ⟨b, o + 6, none⟩ = some (.slice va vn vc) ∧ w'.cell? ⟨b, o + 7, none⟩ = some (.int .u64 t.ver.slot) ∧ w'.cell? ⟨b, o + 8, none⟩ = some (.int .u64 t.ver.br) ∧ w'.cell? ⟨b, o + 9, none⟩ = some (.string t.ver.bn)
theorem ST_kept {b o : Nat} {t : Tx} {ka : Option Addr} {kn kc : Nat} {va : Option Addr} {vn vc : Nat} {w w' : World} (hk : Kept (fun _ => False) w w') (h : ST b o t ka kn kc va vn vc w) : ST b o t ka kn kc va vn vc w' := by
  obtain ⟨a0, a1, a2, a3, a4, a5, a6, a7⟩ := h
  have f : ¬ False := fun h => h
  exact ⟨hk.cell' a0 f, hk.cell' a1 f, hk.cell' a2 f, hk.cell' a3 f, hk.cell' a4 f, hk.cell' a5 f, hk.cell' a6 f, hk.cell' a7 f⟩
theorem ST_drew {b o : Nat} {t : Tx} {ka : Option Addr} {kn kc : Nat} {va : Option Addr} {vn vc : Nat} {w : World} (h : ST b o t ka kn kc va vn vc w) : ST b o t ka kn kc va vn vc w.drew := h

/-- The length of what stands ahead of the mark. -/
def lenR (r : Rec) : Nat := 1 + (encBallot r.pr r.pn.data.toList).length + (Lib.uvarint r.slot).length + (encBallot r.br r.bn.data.toList).length + strLen r.leader.size + 1 + strLen r.val.length + r.ver.enc.length + 1
theorem lenR_eq (r : Rec) : ((4 : UInt8) :: r.enc).length = lenR r + (encTxn r.txn).length := by
  unfold Rec.enc lenR
  simp only [List.length_cons, List.length_append, encStr_strLen, size_toList, encB_len1]
  omega
theorem lenT_eq (t : Tx) : t.enc.length = t.id.enc.length + (Lib.uvarint t.keys.length).length + (t.keys.flatMap encStr).length + (2 + strLen t.val.length + t.ver.enc.length) := by
  unfold Tx.enc Tx.head Tx.tail
  simp only [List.length_append, encStr_strLen, encB_len1]
  omega

theorem wraps8 (a b c d e f : Nat) (ha : a ≤ 1048596) (hb : b ≤ 10) (hc : c ≤ 1048596) (hd : d ≤ 1048586) (he : e ≤ 1048586) (hf : f ≤ 1048606) :
    IntKind.i64.wrap (IntKind.i64.wrap (IntKind.i64.wrap (IntKind.i64.wrap (IntKind.i64.wrap (IntKind.i64.wrap (IntKind.i64.wrap (IntKind.i64.wrap (1 + (a : Int)) + (b : Int)) + (c : Int)) + (d : Int)) + 1) + (e : Int)) + (f : Int)) + 1) = ((1 + a + b + c + d + 1 + e + f + 1 : Nat) : Int) := by
  rw [wrap_id (1 + (a : Int)) (by omega) (by omega), wrap_id (1 + (a : Int) + (b : Int)) (by omega) (by omega), wrap_id (1 + (a : Int) + (b : Int) + (c : Int)) (by omega) (by omega), wrap_id (1 + (a : Int) + (b : Int) + (c : Int) + (d : Int)) (by omega) (by omega), wrap_id (1 + (a : Int) + (b : Int) + (c : Int) + (d : Int) + 1) (by omega) (by omega), wrap_id (1 + (a : Int) + (b : Int) + (c : Int) + (d : Int) + 1 + (e : Int)) (by omega) (by omega), wrap_id (1 + (a : Int) + (b : Int) + (c : Int) + (d : Int) + 1 + (e : Int) + (f : Int)) (by omega) (by omega), wrap_id _ (by omega) (by omega)]
  omega

set_option maxHeartbeats 8000000 in
set_option maxRecDepth 100000 in
/-- zzRecordLen. -/
theorem recLen_any (r : Rec) (hr : r.Ok) (va : Option Addr) (vn vc : Nat) (tp : Option Addr) (w : World) (hq : RecMem w r va vn vc tp) (N : Nat) (hN : ((4 : UInt8) :: r.enc).length = N) :
    Calls Try.prog 30 #[recVal r va vn vc tp] w fun e w' => e = .returned (.int .i64 (N : Int)) ∧ Kept (fun _ => False) w w' := by
  have hsz := hr.sizes
  have hvl := hq.val.len
  have l1 := encBallot_len r.pr hr.pr r.pn (by omega)
  have l2 := Lib.uvarint_length64 hr.slot
  have l3 := encBallot_len r.br hr.br r.bn (by omega)
  have l4 : strLen r.leader.size ≤ 1048586 := by
    have := Lib.uvarint_length64 (x := r.leader.size) (by omega)
    unfold strLen; omega
  have l5 : strLen vn ≤ 1048586 := by
    have := Lib.uvarint_length64 (x := vn) (by omega)
    unfold strLen; omega
  have l6 := Ver.enc_len r.ver hr.ver (by omega)
  have s1 : r.pn.size ≤ 1048576 := by omega
  have s2 : r.bn.size ≤ 1048576 := by omega
  have s3 : r.leader.size ≤ 1048576 := by omega
  have s4 : vn ≤ 1048576 := by omega
  have s5 : r.ver.bn.size ≤ 1048576 := by omega
  have HW := wraps8 (encBallot r.pr r.pn.data.toList).length (Lib.uvarint r.slot).length (encBallot r.br r.bn.data.toList).length (strLen r.leader.size) (strLen vn) r.ver.enc.length (by omega) (by omega) (by omega) l4 l5 (by omega)
  have HR : Hid (N = lenR r + (encTxn r.txn).length) := hN.symm.trans (lenR_eq r)
  have HQT : Hid (TxnAt w tp r.txn) := hq.txn
  have hro := hr.txn
  have hN0 : lenR r = 1 + (encBallot r.pr r.pn.data.toList).length + (Lib.uvarint r.slot).length + (encBallot r.br r.bn.data.toList).length + strLen r.leader.size + 1 + strLen vn + r.ver.enc.length + 1 := by unfold lenR; rw [hvl]
  rw [← hN0] at HW
  have hNle : lenR r ≤ 8000000 := by omega
  have HWh : Hid (_ = _) := HW
  have hV := SN_new w r va vn vc tp
  have hk0 : Kept (fun _ => False) w ((w.alloc (.cells #[.int .u64 r.pr, .string r.pn, .int .u64 r.slot, .int .u64 r.br, .string r.bn, .string r.leader, .bool r.del, .slice va vn vc, .int .u64 r.ver.slot, .int .u64 r.ver.br, .string r.ver.bn, .pointer tp] 58)).alloc (.cells #[.string r.leader, .bool r.del, .slice va vn vc, .int .u64 r.ver.slot, .int .u64 r.ver.br, .string r.ver.bn, .pointer tp] 54)) := ((Kept.refl _ w).alloc _).alloc _
  clear hsz hvl l1 l2 l3 l4 l5 l6 hN0 HW hN
  unfold recVal
  go_enter Try.func30, Try.ntmps30
  go_wp2
  generalize hW : (w.alloc (.cells #[.int .u64 r.pr, .string r.pn, .int .u64 r.slot, .int .u64 r.br, .string r.bn, .string r.leader, .bool r.del, .slice va vn vc, .int .u64 r.ver.slot, .int .u64 r.ver.br, .string r.ver.bn, .pointer tp] 58)).alloc (.cells #[.string r.leader, .bool r.del, .slice va vn vc, .int .u64 r.ver.slot, .int .u64 r.ver.br, .string r.ver.bn, .pointer tp] 54) = W at *
  obtain ⟨bb, hbb⟩ : ∃ bb, w.heap.size = bb := ⟨_, rfl⟩
  rw [hbb] at hV ⊢
  clear hW hbb
  have m0 := hV
  obtain ⟨m0, m1, m2, m3, m4, m5, m6, m7, m8, m9, m10⟩ := m0
  go_region_held3 (fun w' => w'.cell? ⟨bb, 0, none⟩ = some (.int .u64 r.pr) ∧ w'.cell? ⟨bb, 1, none⟩ = some (.string r.pn) ∧ w'.cell? ⟨bb, 2, none⟩ = some (.int .u64 r.slot) ∧ w'.cell? ⟨bb, 3, none⟩ = some (.int .u64 r.br) ∧ w'.cell? ⟨bb, 4, none⟩ = some (.string r.bn) ∧ w'.cell? ⟨bb + 1, 0, none⟩ = some (.string r.leader) ∧ w'.cell? ⟨bb + 1, 2, none⟩ = some (.slice va vn vc) ∧ w'.cell? ⟨bb + 1, 3, none⟩ = some (.int .u64 r.ver.slot) ∧ w'.cell? ⟨bb + 1, 4, none⟩ = some (.int .u64 r.ver.br) ∧ w'.cell? ⟨bb + 1, 5, none⟩ = some (.string r.ver.bn) ∧ w'.cell? ⟨bb + 1, 6, none⟩ = some (.pointer tp))
    ((show SN bb r va vn vc tp _; repeat (first | with_reducible exact hV | with_reducible refine SN_drew ?_ | with_reducible refine SN_kept (by with_reducible assumption) ?_)))
    (first
      | (go_at_call_of 43 r.pn; refine (ballotLen_any r.pr hr.pr r.pn s1 _).mono ?_; rintro e w1 ⟨rfl, k1⟩)
      | (go_at_call 39; refine (ulen_q r.slot hr.slot _).mono ?_; rintro e w' ⟨rfl, rfl⟩)
      | (go_at_call_of 43 r.bn; refine (ballotLen_any r.br hr.br r.bn s2 _).mono ?_; rintro e w2 ⟨rfl, k2⟩)
      | (go_at_call_of 44 r.leader; refine (strLen_any r.leader.size s3 _).mono ?_; rintro e w' ⟨rfl, rfl⟩)
      | (go_at_call_of 44 vn; refine (strLen_any vn s4 _).mono ?_; rintro e w' ⟨rfl, rfl⟩)
      | (go_at_call 50; refine (versionLen_any r.ver hr.ver s5 _).mono ?_; rintro e w3 ⟨rfl, k3⟩))
  have hkw : Kept (fun _ => False) w w3 := by (repeat (first | with_reducible assumption | with_reducible exact Kept.refl _ _ | with_reducible refine Kept.drew ?_ | with_reducible refine Kept.alloc ?_ _ | with_reducible refine Kept.trans ?_ (by with_reducible assumption) (fun _ _ h => h)))
  rw [HWh.out]
  clear hV m0 m1 m2 m3 m4 m5 m6 m7 m8 m9 k1 k2 k3 HWh
  obtain ⟨T, hT⟩ : ∃ T, r.txn = T := ⟨_, rfl⟩
  have hQT := HQT.out
  have hR := HR.out
  rw [hT] at hQT hR hro
  clear hT HQT HR hk0 hq
  cases T with
  | none =>
    obtain rfl : tp = none := hQT
    go_wp2
    go_ret
    exact ⟨ret_int (by rw [hR]; simp [encTxn]), hkw⟩
  | some t =>
    obtain ⟨tb, to, ka, kn, kc, wa, wn, wc, rfl, htx⟩ := hQT
    have hto := hro t rfl
    have hts := hto.sizes
    have hkl := htx.keys.len
    have hwl := htx.val.len
    have HKL : Hid (t.keys.length = kn) := hkl
    have HKE : Hid (∀ x ∈ t.keys, x.length ≤ 1048576) := fun x hx => by have := key_le t.keys x hx; omega
    have y1 : t.id.bn.size ≤ 1048576 := by omega
    have y2 : t.ver.bn.size ≤ 1048576 := by omega
    have y3 : wn ≤ 1048576 := by omega
    have y4 : kn ≤ 1048576 := by omega
    have y4' : (kn : Int) ≤ 1048576 := by omega
    have u1 := Ver.enc_len t.id hto.id y1
    have u2 := Ver.enc_len t.ver hto.ver y2
    have u3 := Lib.uvarint_length64 (x := kn) (by omega)
    have u4 : strLen wn ≤ 1048586 := by
      have := Lib.uvarint_length64 (x := wn) (by omega)
      unfold strLen; omega
    have hkf : (t.keys.flatMap encStr).length ≤ 20000000 := by
      have := keys_len t.keys (fun x hx => by have := HKE.out x hx; omega)
      omega
    have HKF : Hid ((t.keys.flatMap encStr).length ≤ 20000000) := hkf
    have hTl := lenT_eq t
    rw [hkl, hwl] at hTl
    have HTL : Hid (N = lenR r + (t.id.enc.length + (Lib.uvarint kn).length) + (t.keys.flatMap encStr).length + (2 + strLen wn + t.ver.enc.length)) := by
      show _ = _
      have e : (encTxn (some t)).length = t.enc.length := rfl
      rw [hR, e, hTl]; omega
    have hVT : ST tb to t ka kn kc wa wn wc w3 := ST_kept hkw ⟨htx.id.c0, htx.id.c1, htx.id.c2, htx.ck, htx.cv, htx.ver.c0, htx.ver.c1, htx.ver.c2⟩
    have HKS : Hid (Keys w ka kn kc t.keys) := htx.keys
    have HW2 : Hid (IntKind.i64.wrap ((lenR r : Int) + IntKind.i64.wrap ((t.id.enc.length : Int) + ((Lib.uvarint kn).length : Int))) = ((lenR r + (t.id.enc.length + (Lib.uvarint kn).length) : Nat) : Int)) := by
      show _ = _
      rw [wrap_id ((t.id.enc.length : Int) + ((Lib.uvarint kn).length : Int)) (by omega) (by omega), wrap_id _ (by omega) (by omega)]; omega
    have hN1 : lenR r + (t.id.enc.length + (Lib.uvarint kn).length) ≤ 20000000 := by omega
    have hvi := hto.id
    have hvv := hto.ver
    clear hts hkl hwl hro hto hkf hTl hR htx
    have m0 := hVT
    obtain ⟨m0, m1, m2, m3, m4, m5, m6, m7⟩ := m0
    go_wp2
    go_region_held3 (fun w' => w'.cell? ⟨tb, to, none⟩ = some (.int .u64 t.id.slot) ∧ w'.cell? ⟨tb, to + 1, none⟩ = some (.int .u64 t.id.br) ∧ w'.cell? ⟨tb, to + 2, none⟩ = some (.string t.id.bn) ∧ w'.cell? ⟨tb, to + 3, none⟩ = some (.slice ka kn kc) ∧ w'.cell? ⟨tb, to + 6, none⟩ = some (.slice wa wn wc) ∧ w'.cell? ⟨tb, to + 7, none⟩ = some (.int .u64 t.ver.slot) ∧ w'.cell? ⟨tb, to + 8, none⟩ = some (.int .u64 t.ver.br) ∧ w'.cell? ⟨tb, to + 9, none⟩ = some (.string t.ver.bn))
      ((show ST tb to t ka kn kc wa wn wc _; repeat (first | with_reducible exact hVT | with_reducible refine ST_drew ?_ | with_reducible refine ST_kept (by with_reducible assumption) ?_)))
      (first
        | (go_at_call 50; refine (versionLen_any t.id hvi y1 _).mono ?_; rintro e w4 ⟨rfl, k4⟩)
        | (go_at_call 39; rw [u64_wrap_id (kn : Int) (by omega) (by omega)]; refine (ulen_q kn (by omega) _).mono ?_; rintro e w' ⟨rfl, rfl⟩))
    rw [HW2.out]
    generalize lenR r + (t.id.enc.length + (Lib.uvarint kn).length) = N1 at *
    have hk4 : Kept (fun _ => False) w w' := by (repeat (first | with_reducible assumption | with_reducible exact Kept.refl _ _ | with_reducible refine Kept.drew ?_ | with_reducible refine Kept.alloc ?_ _ | with_reducible refine Kept.trans ?_ (by with_reducible assumption) (fun _ _ h => h)))
    have hVr : ST tb to t ka kn kc wa wn wc w' := by assumption
    clear HW2 hkw k4 hVT m0 m1 m2 m3 m4 m5 m6 m7 m10
    go_wp2
    go_loop [4, 6] (fun v4 v6 => ∃ k : Nat, v6 = .int .i64 k ∧ k ≤ kn ∧ v4 = .int .i64 ((N1 + ((t.keys.take k).flatMap encStr).length : Nat) : Int)) (fun _ v6 => kn - (intOf v6).toNat)
    case atStart => exact ⟨0, rfl, Nat.zero_le _, by simp⟩
    case round =>
      obtain ⟨k, rfl, hkn, rfl⟩ := hrel
      have LF := keys_take t.keys k
      have LF2 := HKF.out
      by_cases hlt : k < kn
      · have hkz : k < t.keys.length := by rw [HKL.out]; exact hlt
        have hlt' : (k : Int) < (kn : Int) := by omega
        rcases HKS.out.at_ with h0 | ⟨kb, ko, hxe, G⟩
        · rw [h0] at hkz; simp at hkz
        subst hxe
        obtain ⟨a', n', c', z1, z2⟩ := G k hkz
        have z4 := z2.len
        have z5 := HKE.out _ (List.getElem_mem hkz)
        rw [z4] at z5
        have z6 := hk4.cell' z1 (fun h => h)
        have HF : Hid (((t.keys.take (k + 1)).flatMap encStr).length = ((t.keys.take k).flatMap encStr).length + strLen n') := by
          show _ = _
          rw [keys_next t.keys k hkz, List.length_append, encStr_strLen, z4]
        have z7 : strLen n' ≤ 1048586 := by
          have := Lib.uvarint_length64 (x := n') (by omega)
          unfold strLen; omega
        clear G z1 z2 z4
        generalize ((t.keys.take k).flatMap encStr).length = F at *
        generalize (t.keys.flatMap encStr).length = FF0 at *
        have j1 : (N1 : Int) + (F : Int) ≤ 40000000 := by omega
        have j2 : (strLen n' : Int) ≤ 1048586 := by omega
        go_wp2_with fail
        refine (strLen_any n' z5 _).mono ?_
        rintro e w5 ⟨rfl, hw5⟩
        subst hw5
        generalize strLen n' = sl at *
        go_wp2
        go_round
        case rel => exact ⟨k + 1, by go_num, by omega, by rw [HF.out]; congr 1; omega⟩
        case measure => simp [intOf]; omega
      · have hke : k = kn := by omega
        have HX : Hid (N = (N1 + ((t.keys.take k).flatMap encStr).length) + (2 + strLen wn + t.ver.enc.length)) := by
          have e1 : t.keys.take k = t.keys := List.take_of_length_le (by rw [HKL.out]; omega)
          show _ = _
          rw [e1, HTL.out]
        have HX2 : N1 + ((t.keys.take k).flatMap encStr).length ≤ 40000000 := by omega
        clear HTL HKF LF LF2
        generalize N1 + ((t.keys.take k).flatMap encStr).length = F at *
        have HW3 : Hid (IntKind.i64.wrap ((F : Int) + IntKind.i64.wrap (IntKind.i64.wrap (2 + (strLen wn : Int)) + (t.ver.enc.length : Int))) = (N : Int)) := by
          show _ = _
          rw [wrap_id (2 + (strLen wn : Int)) (by omega) (by omega), wrap_id (2 + (strLen wn : Int) + (t.ver.enc.length : Int)) (by omega) (by omega), wrap_id _ (by omega) (by omega), HX.out]; omega
        have m0 := hVr
        obtain ⟨m0, m1, m2, m3, m4, m5, m6, m7⟩ := m0
        go_wp2
        go_region_held3 (fun w' => w'.cell? ⟨tb, to, none⟩ = some (.int .u64 t.id.slot) ∧ w'.cell? ⟨tb, to + 1, none⟩ = some (.int .u64 t.id.br) ∧ w'.cell? ⟨tb, to + 2, none⟩ = some (.string t.id.bn) ∧ w'.cell? ⟨tb, to + 3, none⟩ = some (.slice ka kn kc) ∧ w'.cell? ⟨tb, to + 6, none⟩ = some (.slice wa wn wc) ∧ w'.cell? ⟨tb, to + 7, none⟩ = some (.int .u64 t.ver.slot) ∧ w'.cell? ⟨tb, to + 8, none⟩ = some (.int .u64 t.ver.br) ∧ w'.cell? ⟨tb, to + 9, none⟩ = some (.string t.ver.bn))
          ((show ST tb to t ka kn kc wa wn wc _; repeat (first | with_reducible exact hVr | with_reducible refine ST_drew ?_ | with_reducible refine ST_kept (by with_reducible assumption) ?_)))
          (first
            | (go_at_call 44; refine (strLen_any wn y3 _).mono ?_; rintro e w5 ⟨rfl, rfl⟩)
            | (go_at_call 50; refine (versionLen_any t.ver hvv y2 _).mono ?_; rintro e w6 ⟨rfl, k6⟩))
        rw [HW3.out]
        go_wp2
        go_ret
        exact ⟨ret_int rfl, by (repeat (first | with_reducible assumption | with_reducible exact Kept.refl _ _ | with_reducible refine Kept.drew ?_ | with_reducible refine Kept.alloc ?_ _ | with_reducible refine Kept.trans ?_ (by with_reducible assumption) (fun _ _ h => h)))⟩

end Go.Proofs.Qxb6613770a
