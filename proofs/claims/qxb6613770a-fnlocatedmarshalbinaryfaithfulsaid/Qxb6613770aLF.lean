import Derived.Test.Qxb6613770aLF3
namespace Go.Proofs.Qxb6613770a
set_option linter.unusedVariables false
set_option linter.unusedSimpArgs false
open Go.RowKit

/-- What the tests of the law have to know of memory. -/
structure FF (w wx : World) (b1 b2 g1 g2 : Nat) (a b : Loc) (va vb : Value) : Prop where
  below : Below w.heap.size w wx
  ma : LocAt wx b1 a va
  mb : LocAt wx b2 b vb
  ra : BytesAt wx (some ⟨g1, 0, none⟩) a.enc
  rb : BytesAt wx (some ⟨g2, 0, none⟩) b.enc
theorem FF.kept {w wx wy : World} {b1 b2 g1 g2 : Nat} {a b : Loc} {va vb : Value} (h : FF w wx b1 b2 g1 g2 a b va vb) (hk : Kept (fun _ => False) wx wy) : FF w wy b1 b2 g1 g2 a b va vb :=
  ⟨h.below.trans (hk.below h.below.size (fun _ h => h.elim)), h.ma.kept hk (fun h => h), h.mb.kept hk (fun h => h), h.ra.kept hk (fun _ _ h => h), h.rb.kept hk (fun _ _ h => h)⟩

theorem enc_pos (l : Loc) : 0 < l.enc.length := by
  unfold Loc.enc Loc.head
  simp only [List.length_append]
  have := Lib.uvarint_pos l.slot
  omega

theorem enc_max (l : Loc) (hl : l.Ok) : l.enc.length ≤ 20000000 := by
  have hsz := hl.sizes
  have h1 := flat_len l.ans hl.ans l.ans.length
  rw [List.take_of_length_le (Nat.le_refl _)] at h1
  have h2 := lenHead_eq l
  have := Lib.uvarint_length64 hl.slot
  have := Lib.uvarint_length64 (x := l.ans.length) (by omega)
  have := encBallot_len l.br hl.br l.bn (by omega)
  have := encBallot_len l.pr hl.pr l.pn (by omega)
  have := Lib.uvarint_length64 (x := l.leader.size) (by omega)
  unfold lenHead strLen at h2
  unfold Loc.enc
  rw [List.length_append]
  omega

set_option maxHeartbeats 8000000 in
set_option maxRecDepth 100000 in
theorem lf_walk (a b : Loc) (hs1 : a.slot < 18446744073709551616) (hr1 : a.br < 18446744073709551616) (hp1 : a.pr < 18446744073709551616) (x1 : a.bn.size ≤ maxLen) (x2 : a.leader.size ≤ maxLen) (x3 : a.pn.size ≤ maxLen) (hz1 : ∀ z ∈ a.ans, -9223372036854775808 ≤ z ∧ z ≤ 9223372036854775807)
    (hs2 : b.slot < 18446744073709551616) (hr2 : b.br < 18446744073709551616) (hp2 : b.pr < 18446744073709551616) (y1 : b.bn.size ≤ maxLen) (y2 : b.leader.size ≤ maxLen) (y3 : b.pn.size ≤ maxLen) (hz2 : ∀ z ∈ b.ans, -9223372036854775808 ≤ z ∧ z ≤ 9223372036854775807)
    (aa ab : Option Addr) (n c m c' : Nat) (hn : a.ans.length = n) (hnm : n ≤ maxLen) (hm : b.ans.length = m) (hmm : m ≤ maxLen) (w : World) (hia : IntsAt w aa a.ans) (hib : IntsAt w ab b.ans) (hnila : aa = none → n = 0 ∧ c = 0) (hnilb : ab = none → m = 0 ∧ c' = 0) :
    Calls Try.prog 4 #[.agg #[.int .u64 a.slot, .int .u64 a.br, .string a.bn, .string a.leader, .int .u64 a.pr, .string a.pn, .bool a.leased, .bool a.cutoff, .slice aa n c], .agg #[.int .u64 b.slot, .int .u64 b.br, .string b.bn, .string b.leader, .int .u64 b.pr, .string b.pn, .bool b.leased, .bool b.cutoff, .slice ab m c']] w fun e w' => e = .returned (.bool true) ∧ Below w.heap.size w w' := by
  have HN : Hid (a.ans.length = n) := hn
  have HM : Hid (b.ans.length = m) := hm
  have HNa : Hid (aa = none → n = 0 ∧ c = 0) := hnila
  have HNb : Hid (ab = none → m = 0 ∧ c' = 0) := hnilb
  clear hn hm hnila hnilb
  have ma0 := (locBox w a (.slice aa n c) 27).kept ((Kept.refl (fun _ => False) _).alloc (.cells #[.int .u64 b.slot, .int .u64 b.br, .string b.bn, .string b.leader, .int .u64 b.pr, .string b.pn, .bool b.leased, .bool b.cutoff, .slice ab m c'] 27)) (fun h => h)
  have mb0 := locBox (w.alloc (.cells #[.int .u64 a.slot, .int .u64 a.br, .string a.bn, .string a.leader, .int .u64 a.pr, .string a.pn, .bool a.leased, .bool a.cutoff, .slice aa n c] 27)) b (.slice ab m c') 27
  have e2 : (w.alloc (.cells #[.int .u64 a.slot, .int .u64 a.br, .string a.bn, .string a.leader, .int .u64 a.pr, .string a.pn, .bool a.leased, .bool a.cutoff, .slice aa n c] 27)).heap.size = w.heap.size + 1 := by simp
  rw [e2] at mb0
  have kk0 : Kept (fun _ => False) w ((w.alloc (.cells #[.int .u64 a.slot, .int .u64 a.br, .string a.bn, .string a.leader, .int .u64 a.pr, .string a.pn, .bool a.leased, .bool a.cutoff, .slice aa n c] 27)).alloc (.cells #[.int .u64 b.slot, .int .u64 b.br, .string b.bn, .string b.leader, .int .u64 b.pr, .string b.pn, .bool b.leased, .bool b.cutoff, .slice ab m c'] 27)) := ((Kept.refl _ w).alloc _).alloc _
  go_enter Try.func4, Try.ntmps4
  go_wp2_with fail
  refine (bytesLL_any _ _ _ _ _ _ _ _ _ _ a.bn a.leader a.pn b.bn b.leader b.pn aa ab n c m c' x1 x2 x3 hnm y1 y2 y3 hmm _ rfl rfl rfl rfl rfl rfl rfl rfl rfl rfl).mono ?_
  rintro e w1 ⟨rfl, k1⟩
  have ma1 := ma0.kept k1 (fun h => h)
  have mb1 := mb0.kept k1 (fun h => h)
  have kk1 := kk0.trans k1 (fun _ _ h => h)
  clear ma0 mb0 kk0 k1 e2
  obtain ⟨b1, hb1⟩ : ∃ b1, w.heap.size = b1 := ⟨_, rfl⟩
  have hb1' : w.heap.size ≤ b1 := Nat.le_of_eq hb1
  rw [hb1] at ma1 mb1
  by_cases hsz : a.bn.size + a.leader.size + a.pn.size + n + (b.bn.size + b.leader.size + b.pn.size + m) ≤ 1048576
  · have hd : decide (a.bn.size + a.leader.size + a.pn.size + n + (b.bn.size + b.leader.size + b.pn.size + m) ≤ 1048576) = true := decide_eq_true hsz
    have hla : a.Ok := ⟨hs1, hr1, hp1, by rw [HN.out]; omega, hz1⟩
    have hlb : b.Ok := ⟨hs2, hr2, hp2, by rw [HM.out]; omega, hz2⟩
    obtain ⟨p0, p1, p2, p3, p4, p5, p6, p7, p8⟩ := ma1
    simp only [hb1]
    clear hb1
    go_wp2_with fail
    refine (sizeL_any _ _ _ _ _ a.bn a.leader a.pn aa n c (by omega) (by omega) (by omega) (by omega) _ rfl rfl rfl rfl rfl).mono ?_
    rintro e w2 ⟨r2, rfl, hr20, hr21, k2⟩
    have ma2 := (LocAt.mk p0 p1 p2 p3 p4 p5 p6 p7 p8).kept k2 (fun h => h)
    have mb2 := mb1.kept k2 (fun h => h)
    have kk2 := kk1.trans k2 (fun _ _ h => h)
    clear p0 p1 p2 p3 p4 p5 p6 p7 p8 mb1 kk1 k2
    obtain ⟨p0, p1, p2, p3, p4, p5, p6, p7, p8⟩ := mb2
    by_cases hr2b : 1048576 < r2
    · go_wp2
      go_ret
      exact ⟨rfl, kk2.below (Nat.le_refl _) (fun _ h => h.elim)⟩
    · go_wp2_with fail
      refine (sizeL_any _ _ _ _ _ b.bn b.leader b.pn ab m c' (by omega) (by omega) (by omega) (by omega) _ rfl rfl rfl rfl rfl).mono ?_
      rintro e w3 ⟨r3, rfl, hr30, hr31, k3⟩
      have mb3 := (LocAt.mk p0 p1 p2 p3 p4 p5 p6 p7 p8).kept k3 (fun h => h)
      have ma3 := ma2.kept k3 (fun h => h)
      have kk3 := kk2.trans k3 (fun _ _ h => h)
      clear p0 p1 p2 p3 p4 p5 p6 p7 p8 ma2 kk2 k3
      obtain ⟨p0, p1, p2, p3, p4, p5, p6, p7, p8⟩ := ma3
      by_cases hr3b : 1048576 < r3
      · go_wp2
        go_ret
        exact ⟨rfl, kk3.below (Nat.le_refl _) (fun _ h => h.elim)⟩
      · go_wp2_with fail
        refine (toLocated_any a aa n c HN.out (by omega) _ (hia.below (kk3.below (Nat.le_refl _) (fun _ h => h.elim))) HNa.out).mono ?_
        rintro e w4 ⟨a4, c4, rfl, q41, q42, k4⟩
        have ma4 := (LocAt.mk p0 p1 p2 p3 p4 p5 p6 p7 p8).kept k4 (fun h => h)
        have mb4 := mb3.kept k4 (fun h => h)
        have kk4 := kk3.trans k4 (fun _ _ h => h)
        have hz3 : b1 + 1 < w3.heap.size := mb3.lt
        have hz34 : w3.heap.size ≤ w4.heap.size := k4.size
        have ml4 := locBox w4 a (.slice a4 n c4) 33
        clear p0 p1 p2 p3 p4 p5 p6 p7 p8 mb3 k4
        -- w5: behind the box of la
        have ma5 := ma4.kept ((Kept.refl (fun _ => False) w4).alloc (.cells #[.int .u64 a.slot, .int .u64 a.br, .string a.bn, .string a.leader, .int .u64 a.pr, .string a.pn, .bool a.leased, .bool a.cutoff, .slice a4 n c4] 33)) (fun h => h)
        have mb5 := mb4.kept ((Kept.refl (fun _ => False) w4).alloc (.cells #[.int .u64 a.slot, .int .u64 a.br, .string a.bn, .string a.leader, .int .u64 a.pr, .string a.pn, .bool a.leased, .bool a.cutoff, .slice a4 n c4] 33)) (fun h => h)
        have kk5 := kk4.alloc (.cells #[.int .u64 a.slot, .int .u64 a.br, .string a.bn, .string a.leader, .int .u64 a.pr, .string a.pn, .bool a.leased, .bool a.cutoff, .slice a4 n c4] 33)
        have own5 := q42.alloc (.cells #[.int .u64 a.slot, .int .u64 a.br, .string a.bn, .string a.leader, .int .u64 a.pr, .string a.pn, .bool a.leased, .bool a.cutoff, .slice a4 n c4] 33)
        have hlt4 : ∀ k, (Value.slice a4 n c4).ownBlock = some k → k < w4.heap.size := fun k hk => (q42.lt k hk).2
        clear ma4 mb4 kk4 q42
        obtain ⟨p0, p1, p2, p3, p4, p5, p6, p7, p8⟩ := mb5
        go_wp2_with fail
        refine (toLocated_any b ab m c' HM.out (by omega) _ (hib.below (kk5.below (Nat.le_refl _) (fun _ h => h.elim))) HNb.out).mono ?_
        rintro e w6 ⟨a6, c6, rfl, q61, q62, k6⟩
        have ma6 := ma5.kept k6 (fun h => h)
        have mb6 := (LocAt.mk p0 p1 p2 p3 p4 p5 p6 p7 p8).kept k6 (fun h => h)
        have kk6 := kk5.trans k6 (fun _ _ h => h)
        have ml6 := ml4.kept k6 (fun h => h)
        have own6 := k6.owns own5 (fun _ _ h => h)
        have hz6 : w4.heap.size < w6.heap.size := ml6.lt
        have q41' : ∀ k, (Value.slice a4 n c4).ownBlock = some k → b1 + 1 < k := fun k hk => by have := q41 k hk; omega
        have q61' : ∀ k, (Value.slice a6 m c6).ownBlock = some k → w4.heap.size < k := fun k hk => by have := q61 k hk; simp at this; omega
        have hlt6 : ∀ k, (Value.slice a6 m c6).ownBlock = some k → k < w6.heap.size := fun k hk => (q62.lt k hk).2
        clear p0 p1 p2 p3 p4 p5 p6 p7 p8 ma5 kk5 k6 ml4 own5 q41 q61
        -- behind the box of lb
        have A6 := (Kept.refl (fun _ => False) w6).alloc (.cells #[.int .u64 b.slot, .int .u64 b.br, .string b.bn, .string b.leader, .int .u64 b.pr, .string b.pn, .bool b.leased, .bool b.cutoff, .slice a6 m c6] 33)
        have mlb7 := locBox w6 b (.slice a6 m c6) 33
        have ma7 := ma6.kept A6 (fun h => h)
        have mb7 := mb6.kept A6 (fun h => h)
        have kk7 := kk6.trans A6 (fun _ _ h => h)
        have ml7 := ml6.kept A6 (fun h => h)
        have owa7 := A6.owns own6 (fun _ _ h => h)
        have owb7 := A6.owns q62 (fun _ _ h => h)
        clear ma6 mb6 kk6 ml6 own6 q62
        have hX : (w6.alloc (.cells #[.int .u64 b.slot, .int .u64 b.br, .string b.bn, .string b.leader, .int .u64 b.pr, .string b.pn, .bool b.leased, .bool b.cutoff, .slice a6 m c6] 33)).heap.size = w6.heap.size + 1 := by simp
        obtain ⟨p0, p1, p2, p3, p4, p5, p6, p7, p8⟩ := ml7
        go_wp2_with fail
        generalize hWW : w6.alloc (.cells #[.int .u64 b.slot, .int .u64 b.br, .string b.bn, .string b.leader, .int .u64 b.pr, .string b.pn, .bool b.leased, .bool b.cutoff, .slice a6 m c6] 33) = X6 at *
        clear hWW
        refine (marshal_any a hla n c4 a4 HN.out _ (by rw [HN.out]; exact owa7)).mono ?_
        rintro e w8 ⟨v8, rfl, E8⟩
        have kS : ∀ i, i = b1 ∨ i = b1 + 1 ∨ w4.heap.size < i → ¬ (Value.slice a4 n c4).ownBlock = some i := by
          intro i hi e
          have g1 := q41' i e
          have g2 := hlt4 i e
          omega
        have ma8 := ma7.kept E8.kept (kS b1 (.inl rfl))
        have mb8 := mb7.kept E8.kept (kS (b1 + 1) (.inr (.inl rfl)))
        have mlb8 := mlb7.kept E8.kept (kS w6.heap.size (.inr (.inr hz6)))
        have owb8 := E8.kept.owns owb7 (fun k hk e => kS k (.inr (.inr (q61' k hk))) e)
        have be8 : Below w.heap.size w w8 := (kk7.below (Nat.le_refl _) (fun _ h => h.elim)).trans (E8.kept.below kk7.size (fun k hk => by have := q41' k hk; omega))
        obtain ⟨g8, d8, hv8, hg8⟩ := owns_some E8.own (enc_pos a)
        subst hv8
        obtain ⟨hbo8, -, hc81, hc82⟩ := owns_bytes E8.own
        have hrow8 : w6.heap.size < g8 := by have := E8.row g8 rfl; omega
        clear E8 ma7 mb7 mlb7 kk7 owa7 owb7 p0 p1 p2 p3 p4 p5 p6 p7 p8 A6
        obtain ⟨p0, p1, p2, p3, p4, p5, p6, p7, p8⟩ := mlb8
        go_wp2_with fail
        refine (marshal_any b hlb m c6 a6 HM.out _ (by rw [HM.out]; exact owb8)).mono ?_
        rintro e w9 ⟨v9, rfl, E9⟩
        have kT : ∀ i, i ≤ w4.heap.size ∨ w6.heap.size ≤ i → ¬ (Value.slice a6 m c6).ownBlock = some i := by
          intro i hi e
          have g1 := q61' i e
          have g2 := hlt6 i e
          omega
        obtain ⟨g9, d9, hv9, hg9⟩ := owns_some E9.own (enc_pos b)
        subst hv9
        obtain ⟨hbo9, -, hc91, hc92⟩ := owns_bytes E9.own
        have F : FF w w9 b1 (b1 + 1) g8 g9 a b (.slice aa n c) (.slice ab m c') := by
          have hb4 : b1 + 1 ≤ w4.heap.size := by omega
          refine ⟨be8.trans (E9.kept.below be8.size (fun k hk => ?_)), ma8.kept E9.kept (kT _ (.inl (by omega))), mb8.kept E9.kept (kT _ (.inl (by omega))), hbo8.kept E9.kept (fun i ⟨o, e⟩ => ?_), hbo9⟩
          · have := q61' k hk; omega
          · simp at e; rw [← e.1]; exact kT _ (.inr (by omega))
        clear E9 be8 ma8 mb8 hbo8 hbo9 kS kT p0 p1 p2 p3 p4 p5 p6 p7 p8 owb8
        have mxa := enc_max a hla
        have mxb := enc_max b hlb
        have e8 : ((a.enc.length : Int) != (a.enc.length : Int)) = false := by simp
        have e9 : ((b.enc.length : Int) != (b.enc.length : Int)) = false := by simp
        obtain ⟨p0, p1, p2, p3, p4, p5, p6, p7, p8⟩ := F.ma
        go_wp2_with fail
        refine (locLen_any a hla aa n c HN.out _ (hia.below F.below)).mono ?_
        rintro e w10 ⟨rfl, k10⟩
        have F10 := F.kept k10
        clear F k10 p0 p1 p2 p3 p4 p5 p6 p7 p8
        obtain ⟨p0, p1, p2, p3, p4, p5, p6, p7, p8⟩ := F10.mb
        go_wp2_with fail
        refine (locLen_any b hlb ab m c' HM.out _ (hib.below F10.below)).mono ?_
        rintro e w11 ⟨rfl, k11⟩
        have F11 := F10.kept k11
        clear F10 k11 p0 p1 p2 p3 p4 p5 p6 p7 p8
        obtain ⟨p0, p1, p2, p3, p4, p5, p6, p7, p8⟩ := F11.ma
        obtain ⟨s0, s1, s2, s3, s4, s5, s6, s7, s8⟩ := F11.mb
        go_wp2_with fail
        refine (sameL_any a b aa ab n m c c' HN.out HM.out hnm _ (hia.below F11.below) (hib.below F11.below)).mono ?_
        rintro e w12 ⟨rfl, k12⟩
        have F12 := F11.kept k12
        clear F11 k12 p0 p1 p2 p3 p4 p5 p6 p7 p8 s0 s1 s2 s3 s4 s5 s6 s7 s8
        have hsame : (a.enc == b.enc) = sameLoc a b := rfl
        go_wp2_with fail
        refine (same_any (some ⟨g8, 0, none⟩) (some ⟨g9, 0, none⟩) _ _ d8 d9 a.enc b.enc _ F12.ra F12.rb rfl rfl (by unfold maxLen; omega) (by unfold maxLen; omega)).mono ?_
        rintro e w13 ⟨rfl, k13⟩
        have F13 := F12.kept k13.kept
        clear F12 k13
        rw [hsame]
        clear hsame
        cases hsl : sameLoc a b with
        | true =>
          go_wp2
          go_ret
          exact ⟨rfl, F13.below⟩
        | false =>
          go_wp2_with fail
          refine (proper_any (some ⟨g8, 0, none⟩) g9 _ _ d8 d9 a.enc b.enc _ F13.ra F13.rb rfl rfl (by unfold maxLen; omega) hc91 hc92).mono ?_
          rintro e w14 ⟨rfl, k14⟩
          have F14 := F13.kept k14.kept
          have np1 := Loc.not_proper a b
          clear F13 k14
          go_wp2_with fail
          refine (proper_any (some ⟨g9, 0, none⟩) g8 _ _ d9 d8 b.enc a.enc _ F14.rb F14.ra rfl rfl (by unfold maxLen; omega) hc81 hc82).mono ?_
          rintro e w15 ⟨rfl, k15⟩
          have F15 := F14.kept k15.kept
          have np2 := Loc.not_proper b a
          clear F14 k15
          go_wp2
          go_ret
          exact ⟨rfl, F15.below⟩
  · have hd : decide (a.bn.size + a.leader.size + a.pn.size + n + (b.bn.size + b.leader.size + b.pn.size + m) ≤ 1048576) = false := decide_eq_false hsz
    clear hb1
    go_wp2
    go_ret
    exact ⟨rfl, kk1.below (Nat.le_refl _) (fun _ h => h.elim)⟩

end Go.Proofs.Qxb6613770a
