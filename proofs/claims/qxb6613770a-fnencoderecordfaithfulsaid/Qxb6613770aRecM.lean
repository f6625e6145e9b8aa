import Derived.Test.Qxb6613770aRecW
namespace Go.Proofs.Qxb6613770a
set_option linter.unusedVariables false
set_option linter.unusedSimpArgs false
open Go.RowKit

theorem nil_value (a : Addr) (w : World) : (nilAhead 253 79 (.pointer (some a)) (nameAt Try.f57 4)).run Try.prog w = .ok (some false) w := by kernel_rfl
theorem met_value (a : Addr) (w : World) : (method 253 79 (.pointer (some a)) (nameAt Try.f57 4)).run Try.prog w = .ok (86, .pointer (some a)) w := by kernel_rfl
theorem met_present (a : Addr) (w : World) : (method 253 79 (.pointer (some a)) (nameAt Try.f57 6)).run Try.prog w = .ok (85, .pointer (some a)) w := by kernel_rfl
theorem nil_key (a : Addr) (w : World) : (nilAhead 253 79 (.pointer (some a)) (nameAt Try.f59 1)).run Try.prog w = .ok (some false) w := by kernel_rfl
theorem met_key (a : Addr) (w : World) : (method 253 79 (.pointer (some a)) (nameAt Try.f59 1)).run Try.prog w = .ok (83, .pointer (some a)) w := by kernel_rfl

/-! ### Lengths -/
theorem encStr_len' (s : List UInt8) (h : s.length < 18446744073709551616) : (encStr s).length ≤ 10 + s.length := by
  unfold encStr
  rw [List.length_append]
  have := Lib.uvarint_length64 h
  omega
theorem Ver.enc_len (v : Ver) (hv : v.Ok) (h : v.bn.size ≤ 1048576) : v.enc.length ≤ 30 + v.bn.size := by
  unfold Ver.enc
  rw [List.length_append]
  have := Lib.uvarint_length64 hv.slot
  have := encBallot_len v.br hv.br v.bn (by omega)
  omega
theorem key_le (ks : List (List UInt8)) : ∀ x ∈ ks, x.length ≤ (ks.map List.length).sum := by
  induction ks with
  | nil => intro x h; cases h
  | cons k ks ih =>
    intro x h
    rw [List.map_cons, List.sum_cons]
    rcases List.mem_cons.1 h with rfl | h
    · omega
    · have := ih x h; omega
theorem keys_len (ks : List (List UInt8)) (h : ∀ x ∈ ks, x.length < 18446744073709551616) : (ks.flatMap encStr).length ≤ 10 * ks.length + (ks.map List.length).sum := by
  induction ks with
  | nil => simp
  | cons k ks ih =>
    rw [List.flatMap_cons, List.length_append, List.map_cons, List.sum_cons, List.length_cons]
    have := encStr_len' k (h k (List.mem_cons_self ..))
    have := ih (fun x hx => h x (List.mem_cons_of_mem _ hx))
    omega
theorem keys_take (ks : List (List UInt8)) (k : Nat) : ((ks.take k).flatMap encStr).length ≤ (ks.flatMap encStr).length := by
  have h : ks.flatMap encStr = (ks.take k).flatMap encStr ++ (ks.drop k).flatMap encStr := by rw [← List.flatMap_append, List.take_append_drop]
  rw [h, List.length_append]; omega
theorem keys_next (ks : List (List UInt8)) (k : Nat) (hk : k < ks.length) : (ks.take (k + 1)).flatMap encStr = (ks.take k).flatMap encStr ++ encStr ks[k] := by
  rw [List.take_succ_eq_append_getElem hk, List.flatMap_append]; simp

set_option maxHeartbeats 8000000 in
set_option maxRecDepth 100000 in
/-- Txn.walk. -/
theorem txn_any (w0 w : World) (eb b o : Nat) (t : Tx) (ht : t.Ok) (ka : Option Addr) (kn kc : Nat) (va : Option Addr) (vn vc : Nat) (sv : Value) (bs : List UInt8) (hs : SR w0 w eb sv bs) (hm : TxAt w0 b o t ka kn kc va vn vc) (hlim : bs.length ≤ 100000000) :
    Calls Try.prog 59 #[.pointer (some ⟨b, o, none⟩), .iface 79 (.pointer (some ⟨eb, 0, none⟩))] w fun e w' => e = .returned (.tuple #[]) ∧ ∃ sv', SR w0 w' eb sv' (bs ++ t.enc) := by
  have n5 := nil_bool ⟨eb, 0, none⟩
  have n6 := met_bool ⟨eb, 0, none⟩
  have n7 := met_count ⟨eb, 0, none⟩
  have n8 := nil_value ⟨eb, 0, none⟩
  have n9 := met_value ⟨eb, 0, none⟩
  have n1 := nil_key ⟨eb, 0, none⟩
  have n2 := met_key ⟨eb, 0, none⟩
  conv at n1 in (nameAt _ _) => whnf
  conv at n2 in (nameAt _ _) => whnf
  conv at n5 in (nameAt _ _) => whnf
  conv at n6 in (nameAt _ _) => whnf
  conv at n7 in (nameAt _ _) => whnf
  conv at n8 in (nameAt _ _) => whnf
  conv at n9 in (nameAt _ _) => whnf
  have hsz := ht.sizes
  have hkn := hm.keys.len
  have hvn := hm.val.len
  have HK : Hid (t.keys.length = kn) := hkn
  have HKS : Hid (∀ x ∈ t.keys, x.length ≤ 1048576) := fun x hx => by have := key_le t.keys x hx; omega
  have hKL : (t.keys.flatMap encStr).length ≤ 10 * kn + 1048576 := by
    have := keys_len t.keys (fun x hx => by have := HKS.out x hx; omega)
    omega
  have hkn' : (kn : Int) ≤ 1048576 := by omega
  have L0 := Ver.enc_len t.id ht.id (by omega)
  have L1 := Lib.uvarint_length64 (x := kn) (by omega)
  have HH : Hid (t.head = t.id.enc ++ Lib.uvarint kn) := by show _ = _; unfold Tx.head; rw [HK.out]
  have LH : t.head.length ≤ 40 + 1048576 := by rw [HH.out, List.length_append]; omega
  have m0 := hm.ext hs.ext
  have hvn1 : vn ≤ 1048576 := by omega
  have hv1 : t.id.bn.size ≤ 1048576 := by omega
  have hv2 : t.ver.bn.size ≤ 1048576 := by omega
  have hkn1 : kn ≤ 1048576 := by omega
  clear hsz hkn hvn
  go_enter Try.func59, Try.ntmps59
  go_wp2_with fail
  refine (version_any w0 w eb b o t.id ht.id hv1 sv bs hs hm.id (by omega)).mono ?_
  rintro e w1 ⟨rfl, sv1, s1⟩
  have m1 := hm.ext s1.ext
  have k1 := m1.ck
  have hb1 : b < w1.heap.size := World.block_lt_of_cell? w1 _ k1
  clear m0 m1
  have s1a := s1.alloc (.cells #[.int .i64 (kn : Int)] 3)
  go_wp2_with fail
  refine (count_any eb w1.heap.size 0 kn (by unfold maxLen; omega) _ sv1 _ _ s1a.enc ?z1 ?z2).mono ?_
  case z1 => simp [go_sem]
  case z2 => rw [List.length_append]; omega
  rintro e w2 ⟨rfl, sv2, e2, v2⟩
  have s2 := s1a.moved v2 e2
  rw [List.append_assoc, ← HH.out] at s2
  have hb2 : w2.cell? ⟨w1.heap.size, 0, none⟩ = some (.int .i64 (kn : Int)) := by
    refine v2.cell (by simp [go_sem]) (by have := s1.enc.lt; simp; omega) (fun e => ?_)
    have := (s1.enc.own.lt _ e).2
    simp at this
  have k2 := (hm.ext s2.ext).ck
  clear e2 v2 s1a s1 k1
  go_wp2
  go_quiet (fail)
  go_wp2
  go_loopw [35, 5] (fun v35 v5 wr => ∃ (k : Nat) (svr : Value), v35 = .int .i64 k ∧ k ≤ kn ∧ SR w0 wr eb svr (bs ++ t.head ++ (t.keys.take k).flatMap encStr)) (fun v35 _ _ => kn - (intOf v35).toNat)
  case atStart => exact ⟨0, sv2, rfl, Nat.zero_le _, by simpa using s2.drewN nq⟩
  case round =>
    obtain ⟨k, svr, rfl, hk, sr⟩ := hrel
    have HT := keys_take t.keys k
    have HL2 : Hid ((bs ++ t.head ++ (t.keys.take k).flatMap encStr).length ≤ 200000000) := by
      show _ ≤ _
      rw [List.length_append, List.length_append]; omega
    clear HT
    by_cases hlt : k < kn
    · have hlt' : (k : Int) < (kn : Int) := by omega
      have hkz : k < t.keys.length := by rw [HK.out]; exact hlt
      have mr := hm.ext sr.ext
      have c3 := mr.ck
      rcases hm.keys.at_ with h0 | ⟨kb, ko, rfl, g⟩
      · rw [h0] at hkz; simp at hkz
      obtain ⟨a', n', c', g1, g2⟩ := g k hkz
      have hn' := g2.len
      have hle := HKS.out _ (List.getElem_mem hkz)
      have HF : Hid (_ = _) := keys_next t.keys k hkz
      have HG : Hid (Bs w0 a' n' c' t.keys[k]) := g2
      have hn2 : n' ≤ 1048576 := by omega
      clear g g2 hn' hle mr
      go_wp2
      go_region_with (go_at_call 83; refine (key_any w0 _ eb kb (ko + k) a' n' c' _ svr _ sr.drew g1 HG.out (by have := HL2.out; omega)).mono ?_; rintro e w3 ⟨rfl, sv3, s3⟩)
      all_goals
        go_wp2
        go_roundw
        case rel => exact ⟨k + 1, sv3, by go_num, by omega, by rw [HF.out, ← List.append_assoc]; exact s3⟩
        case measure => simp [intOf]; omega
    · have hkn'' : k = kn := by omega
      subst hkn''
      have e1 : t.keys.take k = t.keys := List.take_of_length_le (by rw [HK.out]; exact Nat.le_refl _)
      rw [e1] at sr HL2
      have B1 := encB_len t.com
      have B2 := encB_len t.del
      have B3 := encStr_len' t.val (by have := hm.val.len; omega)
      have hvl := hm.val.len
      rw [hvl] at B3
      clear hvl e1
      have HE : Hid (bs ++ t.enc = bs ++ t.head ++ t.keys.flatMap encStr ++ encB t.com ++ encB t.del ++ encStr t.val ++ t.ver.enc) := by
        show _ = _; simp only [Tx.enc, Tx.tail, List.append_assoc]
      generalize hBB : bs ++ t.head ++ t.keys.flatMap encStr = BB at *
      clear hBB
      have hBL := HL2.out
      have m3 := hm.ext sr.ext
      go_wp2
      go_region_with (go_at_call 81; refine (bool_any eb b (o + 4) t.com svr BB _ sr.drew.enc m3.cc (by omega)).mono ?_; rintro e w4 ⟨rfl, sv4, e4, v4⟩)
      have s4 := sr.drew.moved v4 e4
      have m4 := hm.ext s4.ext
      clear e4 v4 m3
      go_wp2
      go_region_with (go_at_call 81; refine (bool_any eb b (o + 5) t.del sv4 _ _ s4.drew.enc m4.cd (by rw [List.length_append]; omega)).mono ?_; rintro e w5 ⟨rfl, sv5, e5, v5⟩)
      have s5 := s4.drew.moved v5 e5
      clear e5 v5 m4 s4
      go_wp2
      go_region_with (go_at_call 86; refine (value_any w0 _ eb b (o + 6) va vn vc t.val sv5 _ s5.drew hm.cv hm.val (by rw [List.length_append, List.length_append]; omega)).mono ?_; rintro e w6 ⟨rfl, sv6, s6⟩)
      go_wp2_with fail
      refine (version_any w0 _ eb b (o + 7) t.ver ht.ver hv2 sv6 _ s6 hm.ver (by rw [List.length_append, List.length_append, List.length_append]; omega)).mono ?_
      rintro e w7 ⟨rfl, sv7, s7⟩
      go_wp2
      go_end0
      exact ⟨rfl, sv7, by rw [HE.out]; exact s7⟩

end Go.Proofs.Qxb6613770a
