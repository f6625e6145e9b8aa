import Derived.Test.Qxb6613770aULen
namespace Go.Proofs.Qxb6613770a
set_option linter.unusedVariables false
set_option linter.unusedSimpArgs false
open Go.RowKit

/-- What the rest of the law has to know of memory. -/
structure UJ (w wx : World) (a0 : Option Addr) (g1 g2 g3 : Nat) (bs js vs ws : List UInt8) : Prop where
  below : Below w.heap.size w wx
  buf : BytesAt wx a0 bs
  joined : BytesAt wx (some ⟨g1, 0, none⟩) js
  alone : BytesAt wx (some ⟨g2, 0, none⟩) vs
  other : BytesAt wx (some ⟨g3, 0, none⟩) ws

theorem UJ.same {w wx wy : World} {a0 : Option Addr} {g1 g2 g3 : Nat} {bs js vs ws : List UInt8} (h : UJ w wx a0 g1 g2 g3 bs js vs ws) (hs : Same wx wy) : UJ w wy a0 g1 g2 g3 bs js vs ws :=
  ⟨h.below.trans (hs.below _), h.buf.same hs, h.joined.same hs, h.alone.same hs, h.other.same hs⟩

/-- A new encoder over nil, one number written into it: nothing that was there has turned. -/
theorem fresh_kept {w w' : World} {x : Int} {sv' : Value} (hm : Moved w.heap.size (.slice none 0 0) ((w.alloc (.cells #[.slice none 0 0] 102)).alloc (.cells #[.int .u64 x] 22)) sv' w') : Kept (fun _ => False) w w' :=
  (((Kept.refl (fun _ => False) w).alloc _).alloc _).trans hm.kept (fun i hi h => by
    rcases h with h | h
    · omega
    · simp [Value.ownBlock] at h)

theorem enc_nil (w : World) : EncAt (w.alloc (.cells #[.slice none 0 0] 102)) w.heap.size (.slice none 0 0) [] := enc_new (World.ownsRow_nil w 0 5 1) rfl

theorem BytesAt.drop {w : World} {b o : Nat} {xs ys : List UInt8} (h : BytesAt w (some ⟨b, o, none⟩) (xs ++ ys)) : BytesAt w (some ⟨b, o + xs.length, none⟩) ys := by
  rcases h with h | ⟨b', off, e, g⟩
  · exact .inl (List.append_eq_nil_iff.1 h).2
  · simp at e
    obtain ⟨rfl, rfl⟩ := e
    refine .inr ⟨b, o + xs.length, rfl, fun j hj => ?_⟩
    have := g (xs.length + j) (by simp; omega)
    rw [List.getElem_append_right (by omega)] at this
    simpa [Nat.add_assoc] using this

set_option maxHeartbeats 4000000 in
set_option maxRecDepth 100000 in
theorem uj_walk (a0 : Option Addr) (n c : Nat) (bs : List UInt8) (x y : Nat) (w : World) (hb : BytesAt w a0 bs) (hn : bs.length = n) (hnil : a0 = none → n = 0 ∧ c = 0) (hm : n ≤ maxLen) (hx : x < 18446744073709551616) (hy : y < 18446744073709551616) :
    Calls Try.prog 8 #[.slice a0 n c, .int .u64 x, .int .u64 y] w fun e w' => e = .returned (.bool true) ∧ Below w.heap.size w w' := by
  unfold maxLen at hm
  by_cases hbig : 1048576 < n
  · have hbig' : (1048576 : Int) < (n : Int) := by omega
    clear hn hnil
    go_enter Try.func8, Try.ntmps8
    go_wp2
    go_ret
    exact ⟨rfl, Below.refl _ _⟩
  · have hsm : ¬ (1048576 : Int) < (n : Int) := by omega
    have HN : Hid (bs.length = n) := hn
    have HNil : Hid (a0 = none → n = 0 ∧ c = 0) := hnil
    clear hn hnil
    go_enter Try.func8, Try.ntmps8
    go_wp2_with (first | (go_at_call 34; refine (copy_any a0 n c bs _ hb HN.out HNil.out (by omega)).mono ?_; rintro e w1 ⟨v1, rfl, ho1, hk1, hl1⟩; obtain ⟨a1, k1, rfl⟩ := owns_slice ho1) | (go_at_call 38; go_in) | (go_at_call 33; go_in))
    have he := (enc_new ho1 HN.out).alloc (.cells #[.int .u64 (x : Int)] 22)
    refine (zuint_any w1.heap.size (w1.heap.size + 1) 0 x hx _ bs _ he (by simp [go_sem, World.cell?_alloc_past]) (by rw [HN.out]; omega)).mono ?_
    rintro e w2 ⟨rfl, sv2, he2, hm2⟩
    have hpos := Lib.uvarint_pos x
    have hlen := Lib.uvarint_length64 hx
    obtain ⟨g2, k2, hsv, hg2⟩ := owns_some he2.own (by simp; omega)
    subst hsv
    have hb2 : Below w.heap.size w w2 := by
      have h1 : Below w.heap.size w w1 := hk1.below (Nat.le_refl _) (fun _ h => h.elim)
      have hs1 := h1.size
      have h2 : Below w.heap.size w1 w2 := by
        have h3 := ((Below.refl w.heap.size w1).alloc hs1 (.cells #[Value.slice a1 n k1] 102)).alloc (by simp; omega) (.cells #[.int .u64 (x : Int)] 22)
        refine h3.trans (hm2.kept.below (by simp; omega) ?_)
        intro k hk
        rcases hk with hk | hk
        · omega
        · exact hl1 k hk
      exact h1.trans h2
    have hec := he2.cell
    obtain ⟨hbo, hbl, hc1, hc2⟩ := owns_bytes he2.own
    have HE : Hid ((bs ++ Lib.uvarint x).length = n + (Lib.uvarint x).length) := by show _ = _; rw [List.length_append, HN.out]
    rw [HE.out] at hec hc1
    clear hbl he2 hm2 he ho1 hl1 hk1
    -- the second encoder
    go_wp2_with (first | (go_at_call 36; go_in) | (go_at_call 33; go_in))
    refine (zuint_any w2.heap.size (w2.heap.size + 1) 0 x hx _ [] _ ((enc_nil w2).alloc _) (by simp [go_sem, World.cell?_alloc_past]) (by simp)).mono ?_
    rintro e w3 ⟨rfl, sv3, he3, hm3⟩
    obtain ⟨g3, k3, hsv, hg3⟩ := owns_some he3.own (by simp; omega)
    subst hsv
    have hk3 := fresh_kept hm3
    have hec3 := he3.cell
    obtain ⟨hbo3, hbl3, hc31, hc32⟩ := owns_bytes he3.own
    simp only [List.nil_append] at hec3 hbo3 hc31
    clear hbl3 he3 hm3
    -- the third encoder
    have hposy := Lib.uvarint_pos y
    have hleny := Lib.uvarint_length64 hy
    go_wp2_with (first | (go_at_call 36; go_in) | (go_at_call 33; go_in))
    refine (zuint_any w3.heap.size (w3.heap.size + 1) 0 y hy _ [] _ ((enc_nil w3).alloc _) (by simp [go_sem, World.cell?_alloc_past]) (by simp)).mono ?_
    rintro e w4 ⟨rfl, sv4, he4, hm4⟩
    obtain ⟨g4, k4, hsv, hg4⟩ := owns_some he4.own (by simp; omega)
    subst hsv
    have hk4 := fresh_kept hm4
    have hec4 := he4.cell
    obtain ⟨hbo4, hbl4, hc41, hc42⟩ := owns_bytes he4.own
    simp only [List.nil_append] at hec4 hbo4 hc41
    clear hbl4 he4 hm4
    have H : UJ w w4 a0 g2 g3 g4 bs (bs ++ Lib.uvarint x) (Lib.uvarint x) (Lib.uvarint y) := by
      have hb4 : Below w.heap.size w w4 := (hb2.trans (hk3.below hb2.size (fun _ h => h.elim))).trans (hk4.below (Nat.le_trans hb2.size hk3.size) (fun _ h => h.elim))
      exact ⟨hb4, hb.below hb4, (hbo.kept hk3 (fun _ _ h => h)).kept hk4 (fun _ _ h => h), hbo3.kept hk4 (fun _ _ h => h), hbo4⟩
    clear hbo hbo3 hbo4 hk3 hk4 hb2
    -- the tests
    unfold maxLen at hc2 hc32 hc42
    go_wp2_with (first | (go_at_call 36; go_in))
    refine (ulen_any x hx _).mono ?_
    rintro e w5 ⟨rfl, rfl⟩
    go_wp2_with fail
    refine (ulen_any y hy _).mono ?_
    rintro e w5 ⟨rfl, rfl⟩
    go_wp2_with fail
    refine (same_any (some ⟨g2, 0, none⟩) a0 n n k2 c bs bs w4 H.joined.take H.buf HN.out HN.out (by unfold maxLen; omega) (by unfold maxLen; omega)).mono ?_
    rintro e w5 ⟨rfl, hs5⟩
    have H5 := H.same hs5
    have hbb : (bs == bs) = true := by simp
    clear H hs5
    go_wp2_with fail
    have hjd : BytesAt w5 (some ⟨g2, n, none⟩) (Lib.uvarint x) := by
      have h := H5.joined.drop
      rw [HN.out, Nat.zero_add] at h
      exact h
    refine (same_any (some ⟨g2, n, none⟩) (some ⟨g3, 0, none⟩) _ _ (k2 - n) k3 (Lib.uvarint x) (Lib.uvarint x) w5 hjd H5.alone rfl rfl (by unfold maxLen; omega) (by unfold maxLen; omega)).mono ?_
    rintro e w6 ⟨rfl, hs6⟩
    have H6 := H5.same hs6
    have huu : (Lib.uvarint x == Lib.uvarint x) = true := by simp
    clear H5 hs6 hjd
    go_wp2_with fail
    refine (same_any (some ⟨g3, 0, none⟩) (some ⟨g4, 0, none⟩) _ _ k3 k4 (Lib.uvarint x) (Lib.uvarint y) w6 H6.alone H6.other rfl rfl (by unfold maxLen; omega) (by unfold maxLen; omega)).mono ?_
    rintro e w7 ⟨rfl, hs7⟩
    have H7 := H6.same hs7
    clear H6 hs7
    by_cases hxy : x = y
    · subst hxy
      have h1 : ((x : Int) == (x : Int)) = true := by simp
      have h2 : ((x : Int) != (x : Int)) = false := by simp
      have h3 : ¬ (x : Int) < (x : Int) := by omega
      go_wp2
      go_ret
      exact ⟨rfl, H7.below⟩
    · have h0 : (Lib.uvarint x == Lib.uvarint y) = false := by rw [uvarint_beq]; simp [hxy]
      have h1 : ((x : Int) == (y : Int)) = false := by simp; omega
      have h2 : ((x : Int) != (y : Int)) = true := by simp; omega
      go_wp2_with fail
      refine (proper_any (some ⟨g3, 0, none⟩) g4 _ _ k3 k4 (Lib.uvarint x) (Lib.uvarint y) w7 H7.alone H7.other rfl rfl (by unfold maxLen; omega) hc41 (by unfold maxLen; omega)).mono ?_
      rintro e w8 ⟨rfl, hs8⟩
      have H8 := H7.same hs8
      have p1 := uvarint_not_proper x y
      clear H7 hs8
      go_wp2_with fail
      refine (proper_any (some ⟨g4, 0, none⟩) g3 _ _ k4 k3 (Lib.uvarint y) (Lib.uvarint x) w8 H8.other H8.alone rfl rfl (by unfold maxLen; omega) hc31 (by unfold maxLen; omega)).mono ?_
      rintro e w9 ⟨rfl, hs9⟩
      have H9 := H8.same hs9
      have p2 := uvarint_not_proper y x
      clear H8 hs9
      by_cases hlt : x < y
      · have h3 : (x : Int) < (y : Int) := by omega
        have h4 := uvarint_len_mono (Nat.le_of_lt hlt)
        have h5 : ¬ ((Lib.uvarint y).length : Int) < ((Lib.uvarint x).length : Int) := by omega
        go_wp2
        go_ret
        exact ⟨rfl, H9.below⟩
      · have h3 : ¬ (x : Int) < (y : Int) := by omega
        go_wp2
        go_ret
        exact ⟨rfl, H9.below⟩

end Go.Proofs.Qxb6613770a
