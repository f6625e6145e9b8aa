import Derived.Test.Qxb6613770aLF2
namespace Go.Proofs.Qxb6613770a
set_option linter.unusedVariables false
set_option linter.unusedSimpArgs false
open Go.RowKit

/-- What the first statement of zzLocatedLen loads. -/
def SW (bb : Nat) (l : Loc) (av : Value) (w' : World) : Prop :=
  w'.cell? ⟨bb, 0, none⟩ = some (.int .u64 l.slot) ∧ w'.cell? ⟨bb, 1, none⟩ = some (.int .u64 l.br) ∧ w'.cell? ⟨bb, 2, none⟩ = some (.string l.bn) ∧ w'.cell? ⟨bb, 3, none⟩ = some (.string l.leader) ∧ w'.cell? ⟨bb, 4, none⟩ = some (.int .u64 l.pr) ∧ w'.cell? ⟨bb, 5, none⟩ = some (.string l.pn) ∧ w'.cell? ⟨bb, 8, none⟩ = some av
theorem SW_kept {bb : Nat} {l : Loc} {av : Value} {w w' : World} (hk : Kept (fun _ => False) w w') (h : SW bb l av w) : SW bb l av w' := by
  obtain ⟨a0, a1, a2, a3, a4, a5, a8⟩ := h
  have f : ¬ False := fun h => h
  exact ⟨hk.cell' a0 f, hk.cell' a1 f, hk.cell' a2 f, hk.cell' a3 f, hk.cell' a4 f, hk.cell' a5 f, hk.cell' a8 f⟩
theorem SW_drew {bb : Nat} {l : Loc} {av : Value} {w : World} (h : SW bb l av w) : SW bb l av w.drew := h

def lenHead (l : Loc) : Nat := (Lib.uvarint l.slot).length + (encBallot l.br l.bn.data.toList).length + strLen l.leader.size + (encBallot l.pr l.pn.data.toList).length + 2 + (Lib.uvarint l.ans.length).length
theorem encB_len1 (b : Bool) : (encB b).length = 1 := by
  unfold encB; cases b <;> rw [Lib.uvarint_small (by decide)] <;> rfl
theorem lenHead_eq (l : Loc) : l.head.length = lenHead l := by
  unfold Loc.head lenHead
  simp only [List.length_append, strLen_eq, encB_len1]

theorem wrap_id (x : Int) (h0 : -9223372036854775808 ≤ x) (h1 : x ≤ 9223372036854775807) : IntKind.i64.wrap x = x := by
  rw [IntKind.wrap_i64]; omega

theorem wraps5 (a b c d e : Nat) (ha : a ≤ 10) (hb : b ≤ 1048596) (hc : c ≤ 1048586) (hd : d ≤ 1048596) (he : e ≤ 10) :
    IntKind.i64.wrap (IntKind.i64.wrap (IntKind.i64.wrap (IntKind.i64.wrap (IntKind.i64.wrap ((a : Int) + (b : Int)) + (c : Int)) + (d : Int)) + 2) + (e : Int)) = ((a + b + c + d + 2 + e : Nat) : Int) := by
  rw [wrap_id ((a : Int) + (b : Int)) (by omega) (by omega), wrap_id ((a : Int) + (b : Int) + (c : Int)) (by omega) (by omega), wrap_id ((a : Int) + (b : Int) + (c : Int) + (d : Int)) (by omega) (by omega), wrap_id ((a : Int) + (b : Int) + (c : Int) + (d : Int) + 2) (by omega) (by omega), wrap_id _ (by omega) (by omega)]
  omega

set_option maxHeartbeats 8000000 in
set_option maxRecDepth 100000 in
/-- zzLocatedLen. -/
theorem locLen_any (l : Loc) (hl : l.Ok) (aa : Option Addr) (n c : Nat) (hn : l.ans.length = n) (w : World) (hi0 : IntsAt w aa l.ans) :
    Calls Try.prog 19 #[.agg #[.int .u64 l.slot, .int .u64 l.br, .string l.bn, .string l.leader, .int .u64 l.pr, .string l.pn, .bool l.leased, .bool l.cutoff, .slice aa n c]] w fun e w' => e = .returned (.int .i64 (l.enc.length : Int)) ∧ Kept (fun _ => False) w w' := by
  have HN : Hid (l.ans.length = n) := hn
  have hsz := hl.sizes
  have hnn : (n : Int) ≤ 1048576 := by omega
  have hul := Lib.uvarint_length64 hl.slot
  have hun := Lib.uvarint_length64 (x := n) (by omega)
  have hb1 := encBallot_len l.br hl.br l.bn (by omega)
  have hb2 := encBallot_len l.pr hl.pr l.pn (by omega)
  have hsl : strLen l.leader.size ≤ 1048586 := by
    have := Lib.uvarint_length64 (x := l.leader.size) (by omega)
    unfold strLen; omega
  have i1 : ((Lib.uvarint l.slot).length : Int) ≤ 10 := by omega
  have i2 : ((encBallot l.br l.bn.data.toList).length : Int) ≤ 1048596 := by omega
  have i3 : (strLen l.leader.size : Int) ≤ 1048586 := by omega
  have i4 : ((encBallot l.pr l.pn.data.toList).length : Int) ≤ 1048596 := by omega
  have i5 : ((Lib.uvarint n).length : Int) ≤ 10 := by omega
  have m0 := locBox w l (.slice aa n c) 27
  have k0 : Kept (fun _ => False) w (w.alloc (.cells #[.int .u64 l.slot, .int .u64 l.br, .string l.bn, .string l.leader, .int .u64 l.pr, .string l.pn, .bool l.leased, .bool l.cutoff, .slice aa n c] 27)) := (Kept.refl _ w).alloc _
  clear hn
  go_enter Try.func19, Try.ntmps19
  go_wp2
  generalize hW : w.alloc (.cells #[.int .u64 l.slot, .int .u64 l.br, .string l.bn, .string l.leader, .int .u64 l.pr, .string l.pn, .bool l.leased, .bool l.cutoff, .slice aa n c] 27) = W at *
  obtain ⟨bb, hbb⟩ : ∃ bb, w.heap.size = bb := ⟨_, rfl⟩
  rw [hbb] at m0 ⊢
  clear hW hbb
  have hV : SW bb l (.slice aa n c) W := ⟨m0.c0, m0.c1, m0.c2, m0.c3, m0.c4, m0.c5, m0.c8⟩
  have hD : SW bb l (.slice aa n c) W.drew := SW_drew hV
  go_region_held3 (fun w' => w'.cell? ⟨bb, 0, none⟩ = some (.int .u64 l.slot) ∧ w'.cell? ⟨bb, 1, none⟩ = some (.int .u64 l.br) ∧ w'.cell? ⟨bb, 2, none⟩ = some (.string l.bn) ∧ w'.cell? ⟨bb, 3, none⟩ = some (.string l.leader) ∧ w'.cell? ⟨bb, 4, none⟩ = some (.int .u64 l.pr) ∧ w'.cell? ⟨bb, 5, none⟩ = some (.string l.pn) ∧ w'.cell? ⟨bb, 8, none⟩ = some (.slice aa n c)) ((show SW bb l (.slice aa n c) _; first | with_reducible exact hD | with_reducible exact SW_kept hk2 (SW_kept hk1 hD) | with_reducible exact SW_kept hk1 hD))
    (first | (go_at_call_of 39 l.slot; refine (ulen_q l.slot hl.slot _).mono ?_; rintro e w' ⟨rfl, rfl⟩) | (go_at_call_of 43 l.bn; refine (ballotLen_any l.br hl.br l.bn (by omega) _).mono ?_; rintro e w1 ⟨rfl, hk1⟩) | (go_at_call 44; refine (strLen_any l.leader.size (by omega) _).mono ?_; rintro e w' ⟨rfl, rfl⟩) | (go_at_call_of 43 l.pn; refine (ballotLen_any l.pr hl.pr l.pn (by omega) _).mono ?_; rintro e w2 ⟨rfl, hk2⟩) | (go_at_call 39; rw [u64_wrap_id (n : Int) (by omega) (by omega)]; refine (ulen_q n (by omega) _).mono ?_; rintro e w' ⟨rfl, rfl⟩))
  go_wp2
  have hm2 : LocAt w' bb l (.slice aa n c) := (m0.kept ((Kept.refl (fun _ => False) W).drew) (fun h => h)).kept (hk1.trans hk2 (fun _ _ h => h)) (fun h => h)
  have hkw : Kept (fun _ => False) w w' := (k0.drew).trans (hk1.trans hk2 (fun _ _ h => h)) (fun _ _ h => h)
  have c8 := hm2.c8
  have HW := wraps5 (Lib.uvarint l.slot).length (encBallot l.br l.bn.data.toList).length (strLen l.leader.size) (encBallot l.pr l.pn.data.toList).length (Lib.uvarint n).length (by omega) (by omega) (by omega) (by omega) (by omega)
  have HL : Hid (l.head.length = (Lib.uvarint l.slot).length + (encBallot l.br l.bn.data.toList).length + strLen l.leader.size + (encBallot l.pr l.pn.data.toList).length + 2 + (Lib.uvarint n).length) := by
    show _ = _
    rw [lenHead_eq]; unfold lenHead; rw [HN.out]
  have HWh : Hid (IntKind.i64.wrap (IntKind.i64.wrap (IntKind.i64.wrap (IntKind.i64.wrap (IntKind.i64.wrap (((Lib.uvarint l.slot).length : Int) + ((encBallot l.br l.bn.data.toList).length : Int)) + (strLen l.leader.size : Int)) + ((encBallot l.pr l.pn.data.toList).length : Int)) + 2) + ((Lib.uvarint n).length : Int)) = (l.head.length : Int)) := by
    show _ = _
    rw [HW, HL.out]
  have hhl : l.head.length ≤ 4000000 := by rw [HL.out]; omega
  clear HW hD hV
  go_loop [3, 4] (fun v3 v4 => ∃ k : Nat, v4 = .int .i64 k ∧ k ≤ n ∧ v3 = .int .i64 ((l.head.length + ((l.ans.take k).flatMap encDur).length : Nat) : Int)) (fun _ v4 => n - (intOf v4).toNat)
  case atStart => exact ⟨0, rfl, Nat.zero_le _, by rw [HWh.out]; simp⟩
  case round =>
    obtain ⟨k, rfl, hk, rfl⟩ := hrel
    have LF := flat_len l.ans hl.ans k
    by_cases hlt : k < n
    · have hka : k < l.ans.length := by rw [HN.out]; exact hlt
      rcases hi0 with h0 | ⟨b, off, rfl, g⟩
      · rw [h0] at hka; simp at hka
      have hck := hkw.cell' (g k hka) (fun h => h)
      have hz := hl.ans l.ans[k] (List.getElem_mem hka)
      have HF : Hid (((l.ans.take (k + 1)).flatMap encDur).length = ((l.ans.take k).flatMap encDur).length + (encDur l.ans[k]).length) := by show _ = _; rw [flat_next l.ans k hka, List.length_append]
      have hdl : (encDur l.ans[k]).length ≤ 10 := by
        unfold encDur
        exact Lib.uvarint_length64 (by split <;> omega)
      have hlt' : (k : Int) < (n : Int) := by omega
      clear g
      generalize ((l.ans.take k).flatMap encDur).length = F at *
      generalize l.ans[k] = z at *
      generalize l.head.length = hh at *
      generalize hdg : (encDur z).length = dl at *
      have HDG : Hid ((encDur z).length = dl) := hdg
      clear hdg
      have j1 : (hh : Int) + (F : Int) ≤ 40000000 := by omega
      have j2 : (dl : Int) ≤ 10 := by omega
      go_wp2_with fail
      refine (durLen_any z hz.1 hz.2 _).mono ?_
      rintro e w3 ⟨rfl, hw3⟩
      subst hw3
      rw [HDG.out]
      go_wp2
      go_round
      case rel => exact ⟨k + 1, by go_num, by omega, by rw [HF.out]; congr 1; omega⟩
      case measure => simp [intOf]; omega
    · have HX : Hid (l.enc.length = l.head.length + ((l.ans.take k).flatMap encDur).length) := by
        have e1 : l.ans.take k = l.ans := List.take_of_length_le (by rw [HN.out]; omega)
        show _ = _
        rw [e1]
        unfold Loc.enc
        rw [List.length_append]
      generalize ((l.ans.take k).flatMap encDur).length = F at *
      go_wp2
      go_ret
      exact ⟨ret_int (by rw [HX.out]; omega), hkw⟩

set_option maxHeartbeats 4000000 in
set_option maxRecDepth 100000 in
/-- zzBytes of two Located. -/
theorem bytesLL_any (v0 v1 v4 v6 v7 u0 u1 u4 u6 u7 : Value) (s1 s2 s3 t1 t2 t3 : ByteArray) (aa ab : Option Addr) (n c m c' : Nat) (h1 : s1.size ≤ maxLen) (h2 : s2.size ≤ maxLen) (h3 : s3.size ≤ maxLen) (hn : n ≤ maxLen) (g1 : t1.size ≤ maxLen) (g2 : t2.size ≤ maxLen) (g3 : t3.size ≤ maxLen) (hm : m ≤ maxLen) (w : World)
    (o0 : v0.oneCell' = true) (o1 : v1.oneCell' = true) (o4 : v4.oneCell' = true) (o6 : v6.oneCell' = true) (o7 : v7.oneCell' = true) (p0 : u0.oneCell' = true) (p1 : u1.oneCell' = true) (p4 : u4.oneCell' = true) (p6 : u6.oneCell' = true) (p7 : u7.oneCell' = true) :
    Calls Try.prog 18 #[.agg #[v0, v1, .string s1, .string s2, v4, .string s3, v6, v7, .slice aa n c], .agg #[u0, u1, .string t1, .string t2, u4, .string t3, u6, u7, .slice ab m c']] w fun e w' => e = .returned (.bool (decide (s1.size + s2.size + s3.size + n + (t1.size + t2.size + t3.size + m) ≤ 1048576))) ∧ Kept (fun _ => False) w w' := by
  unfold maxLen at h1 h2 h3 hn g1 g2 g3 hm
  go_enter Try.func18, Try.ntmps18
  go_wp2
  all_goals (go_ret; exact ⟨ret_bool (by symm; first | exact decide_eq_true (by omega) | exact decide_eq_false (by omega)), ((Kept.refl _ w).alloc _).alloc _⟩)

end Go.Proofs.Qxb6613770a
