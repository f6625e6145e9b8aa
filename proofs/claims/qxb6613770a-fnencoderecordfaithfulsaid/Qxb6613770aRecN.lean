import Derived.Test.Qxb6613770aRecM
namespace Go.Proofs.Qxb6613770a
set_option linter.unusedVariables false
set_option linter.unusedSimpArgs false
open Go.RowKit

theorem SR.bool_kept {w0 w1 w2 : World} {eb : Nat} {sv sv2 : Value} {bs : List UInt8} {x : Bool} (s1 : SR w0 w1 eb sv bs) (v2 : Moved eb sv (w1.alloc (.cells #[.bool x] 4)) sv2 w2) : w2.cell? ⟨w1.heap.size, 0, none⟩ = some (.bool x) := by
  refine v2.cell (by simp [go_sem]) (by have := s1.enc.lt; simp; omega) (fun e => ?_)
  have := (s1.enc.own.lt _ e).2
  simp at this

set_option maxHeartbeats 8000000 in
set_option maxRecDepth 100000 in
/-- Command.walk. -/
theorem command_any (w0 w : World) (eb b : Nat) (r : Rec) (hr : r.Ok) (va : Option Addr) (vn vc : Nat) (tp : Option Addr) (sv : Value) (bs : List UInt8) (hs : SR w0 w eb sv bs) (hm : RecAt w0 b r va vn vc tp) (hq : RecMem w0 r va vn vc tp) (hlim : bs.length ≤ 50000000) :
    Calls Try.prog 57 #[.pointer (some ⟨b, 5, none⟩), .iface 79 (.pointer (some ⟨eb, 0, none⟩))] w fun e w' => e = .returned (.tuple #[]) ∧ ∃ sv', SR w0 w' eb sv' (bs ++ (encStr r.leader.data.toList ++ (encB r.del ++ (encStr r.val ++ (r.ver.enc ++ (encB r.txn.isSome ++ encTxn r.txn)))))) := by
  have n1 := met_present ⟨eb, 0, none⟩
  have n3 := nil_node ⟨eb, 0, none⟩
  have n4 := met_node ⟨eb, 0, none⟩
  have n5 := nil_bool ⟨eb, 0, none⟩
  have n6 := met_bool ⟨eb, 0, none⟩
  have n8 := nil_value ⟨eb, 0, none⟩
  have n9 := met_value ⟨eb, 0, none⟩
  conv at n1 in (nameAt _ _) => whnf
  conv at n3 in (nameAt _ _) => whnf
  conv at n4 in (nameAt _ _) => whnf
  conv at n5 in (nameAt _ _) => whnf
  conv at n6 in (nameAt _ _) => whnf
  conv at n8 in (nameAt _ _) => whnf
  conv at n9 in (nameAt _ _) => whnf
  have hsz := hr.sizes
  have hvl := hq.val.len
  have HV : Hid (r.val.length = vn) := hvl
  rw [hvl] at hsz
  have L2 := encStr_len r.leader (by omega)
  have L3 := encB_len r.del
  have L4 := encStr_len' r.val (by omega)
  rw [hvl] at L4
  have L5 := Ver.enc_len r.ver hr.ver (by omega)
  clear hvl
  have m0 := hm.ext hs.ext
  have hne := (hs.ne hm.c0).1
  go_enter Try.func57, Try.ntmps57
  go_wp2
  go_region_with (go_at_call 84; refine (node_any eb b 5 r.leader (by omega) sv bs _ hs.drew.enc m0.c5 hne (hs.ne hm.c0).2 (by omega)).mono ?_; rintro e w1 ⟨rfl, sv1, e1, v1⟩)
  have s1 := hs.drew.moved v1 e1
  have m1 := hm.ext s1.ext
  clear e1 v1 m0
  go_wp2
  go_region_with (go_at_call 81; refine (bool_any eb b 6 r.del sv1 _ _ s1.drew.enc m1.c6 (by rw [List.length_append]; omega)).mono ?_; rintro e w2 ⟨rfl, sv2, e2, v2⟩)
  have s2 := s1.drew.moved v2 e2
  clear e2 v2 m1 s1
  go_wp2
  go_region_with (go_at_call 86; refine (value_any w0 _ eb b 7 va vn vc r.val sv2 _ s2.drew hm.c7 hq.val (by rw [List.length_append, List.length_append]; omega)).mono ?_; rintro e w3 ⟨rfl, sv3, s3⟩)
  clear s2
  go_wp2_with fail
  refine (version_any w0 _ eb b 8 r.ver hr.ver (by omega) sv3 _ s3 hm.ver (by rw [List.length_append, List.length_append, List.length_append]; omega)).mono ?_
  rintro e w4 ⟨rfl, sv4, s4⟩
  clear s3
  have HL : Hid ((bs ++ encStr r.leader.data.toList ++ encB r.del ++ encStr r.val ++ r.ver.enc).length ≤ 60000000) := by
    show _ ≤ _
    simp only [List.length_append]; omega
  have HE : Hid ((bs ++ (encStr r.leader.data.toList ++ (encB r.del ++ (encStr r.val ++ (r.ver.enc ++ (encB r.txn.isSome ++ encTxn r.txn)))))) = bs ++ encStr r.leader.data.toList ++ encB r.del ++ encStr r.val ++ r.ver.enc ++ encB r.txn.isSome ++ encTxn r.txn) := by
    show _ = _
    simp only [List.append_assoc]
  generalize hBB : bs ++ encStr r.leader.data.toList ++ encB r.del ++ encStr r.val ++ r.ver.enc = BB at *
  clear hBB L2 L3 L4 L5 hsz
  have m4 := hm.ext s4.ext
  have c11 := m4.c11
  have hb4 : b < w4.heap.size := World.block_lt_of_cell? w4 _ c11
  have htx := hq.txn
  have hto := hr.txn
  have hBL := HL.out
  generalize hT : r.txn = T at *
  cases T with
  | none =>
    have htp : tp = none := htx
    subst htp
    have s4a := s4.alloc (.cells #[.bool false] 4)
    go_wp2_with fail
    refine (present_any eb w4.heap.size 0 false sv4 BB _ s4a.enc ?y1 (by omega)).mono ?_
    case y1 => simp [go_sem]
    rintro e w5 ⟨rfl, sv5, e5, v5⟩
    have s5 := s4a.moved v5 e5
    have hk := s4.bool_kept v5
    clear e5 v5
    go_wp2
    go_end0
    refine ⟨rfl, sv5, ?_⟩
    rw [hT, HE.out]
    simpa [encTxn] using s5
  | some t =>
    obtain ⟨tb, o, ka, kn, kc, wa, wn, wc, rfl, htm⟩ := htx
    have s4a := s4.alloc (.cells #[.bool true] 4)
    go_wp2_with fail
    refine (present_any eb w4.heap.size 0 true sv4 BB _ s4a.enc ?x1 (by omega)).mono ?_
    case x1 => simp [go_sem]
    rintro e w5 ⟨rfl, sv5, e5, v5⟩
    have s5 := s4a.moved v5 e5
    have hk := s4.bool_kept v5
    have c11' := (hm.ext s5.ext).c11
    have L6 := encB_len true
    clear e5 v5
    go_wp2_with fail
    refine (txn_any w0 _ eb tb o t (hto t rfl) ka kn kc wa wn wc sv5 _ s5 htm (by rw [List.length_append]; omega)).mono ?_
    rintro e w6 ⟨rfl, sv6, s6⟩
    go_wp2
    go_end0
    refine ⟨rfl, sv6, ?_⟩
    rw [hT, HE.out]
    exact s6

set_option maxHeartbeats 4000000 in
set_option maxRecDepth 100000 in
/-- Entry.walk. -/
theorem entry_any (w0 w : World) (eb b : Nat) (r : Rec) (hr : r.Ok) (va : Option Addr) (vn vc : Nat) (tp : Option Addr) (sv : Value) (bs : List UInt8) (hs : SR w0 w eb sv bs) (hm : RecAt w0 b r va vn vc tp) (hq : RecMem w0 r va vn vc tp) (hlim : bs.length ≤ 30000000) :
    Calls Try.prog 56 #[.pointer (some ⟨b, 2, none⟩), .iface 79 (.pointer (some ⟨eb, 0, none⟩))] w fun e w' => e = .returned (.tuple #[]) ∧ ∃ sv', SR w0 w' eb sv' (bs ++ (Lib.uvarint r.slot ++ (encBallot r.br r.bn.data.toList ++ (encStr r.leader.data.toList ++ (encB r.del ++ (encStr r.val ++ (r.ver.enc ++ (encB r.txn.isSome ++ encTxn r.txn)))))))) := by
  have n1 := nil_uint ⟨eb, 0, none⟩
  have n2 := met_uint ⟨eb, 0, none⟩
  conv at n1 in (nameAt _ _) => whnf
  conv at n2 in (nameAt _ _) => whnf
  have hsz := hr.sizes
  have L0 := Lib.uvarint_length64 hr.slot
  have L1 := encBallot_len r.br hr.br r.bn (by omega)
  have m0 := hm.ext hs.ext
  go_enter Try.func56, Try.ntmps56
  go_wp2
  go_region_with (go_at_call 52; refine (uint_any eb b 2 r.slot hr.slot sv bs _ hs.drew.enc m0.c2 (by omega)).mono ?_; rintro e w1 ⟨rfl, sv1, e1, v1⟩)
  have s1 := hs.drew.moved v1 e1
  have m1 := hm.ext s1.ext
  clear e1 v1 m0
  go_wp2_with fail
  refine (ballot_any eb b 3 r.br hr.br r.bn (by omega) sv1 _ _ s1.enc m1.c3 m1.c4 (s1.ne hm.c0).1 (s1.ne hm.c0).2 (by rw [List.length_append]; omega)).mono ?_
  rintro e w2 ⟨rfl, sv2, e2, v2⟩
  have s2 := s1.moved v2 e2
  clear e2 v2 m1
  go_wp2_with fail
  refine (command_any w0 _ eb b r hr va vn vc tp sv2 _ s2 hm hq (by rw [List.length_append, List.length_append]; omega)).mono ?_
  rintro e w3 ⟨rfl, sv3, s3⟩
  go_wp2
  go_end0
  refine ⟨rfl, sv3, ?_⟩
  simpa only [List.append_assoc] using s3

set_option maxHeartbeats 4000000 in
set_option maxRecDepth 100000 in
/-- Record.walk. -/
theorem record_any (w0 w : World) (eb b : Nat) (r : Rec) (hr : r.Ok) (va : Option Addr) (vn vc : Nat) (tp : Option Addr) (sv : Value) (bs : List UInt8) (hs : SR w0 w eb sv bs) (hm : RecAt w0 b r va vn vc tp) (hq : RecMem w0 r va vn vc tp) (hlim : bs.length ≤ 20000000) :
    Calls Try.prog 53 #[.pointer (some ⟨b, 0, none⟩), .iface 79 (.pointer (some ⟨eb, 0, none⟩))] w fun e w' => e = .returned (.tuple #[]) ∧ ∃ sv', SR w0 w' eb sv' (bs ++ r.enc) := by
  have hsz := hr.sizes
  have L1 := encBallot_len r.pr hr.pr r.pn (by omega)
  have m1 := hm.ext hs.ext
  go_enter Try.func53, Try.ntmps53
  go_wp2_with fail
  refine (ballot_any eb b 0 r.pr hr.pr r.pn (by omega) sv _ _ hs.enc m1.c0 m1.c1 (hs.ne hm.c0).1 (hs.ne hm.c0).2 (by omega)).mono ?_
  rintro e w2 ⟨rfl, sv2, e2, v2⟩
  have s2 := hs.moved v2 e2
  clear e2 v2 m1
  go_wp2_with fail
  refine (entry_any w0 _ eb b r hr va vn vc tp sv2 _ s2 hm hq (by rw [List.length_append]; omega)).mono ?_
  rintro e w3 ⟨rfl, sv3, s3⟩
  go_wp2
  go_end0
  refine ⟨rfl, sv3, ?_⟩
  unfold Rec.enc
  simpa only [List.append_assoc] using s3

end Go.Proofs.Qxb6613770a
