import Derived.Test.Qxb6613770aCopy
namespace Go.Proofs.Qxb6613770a
set_option linter.unusedVariables false
set_option linter.unusedSimpArgs false
open Go.RowKit

set_option maxHeartbeats 4000000 in
set_option maxRecDepth 100000 in
theorem ua_walk (a0 : Option Addr) (n c : Nat) (bs : List UInt8) (x : Nat) (w : World) (hb : BytesAt w a0 bs) (hn : bs.length = n) (hnil : a0 = none → n = 0 ∧ c = 0) (hm : n ≤ maxLen) (hx : x < 18446744073709551616) :
    Calls Try.prog 7 #[.slice a0 n c, .int .u64 x] w fun e w' => e = .returned (.bool true) ∧ Below w.heap.size w w' := by
  unfold maxLen at hm
  by_cases hbig : 1048576 < n
  · have hbig' : (1048576 : Int) < (n : Int) := by omega
    clear hn hnil
    go_enter Try.func7, Try.ntmps7
    go_wp2
    go_ret
    exact ⟨rfl, Below.refl _ _⟩
  · have hsm : ¬ (1048576 : Int) < (n : Int) := by omega
    have HN : Hid (bs.length = n) := hn
    have HNil : Hid (a0 = none → n = 0 ∧ c = 0) := hnil
    clear hn hnil
    go_enter Try.func7, Try.ntmps7
    go_wp2_with (first | (go_at_call 34; refine (copy_any a0 n c bs _ hb HN.out HNil.out (by omega)).mono ?_; rintro e w1 ⟨v1, rfl, ho1, hk1, hl1⟩; obtain ⟨a1, k1, rfl⟩ := owns_slice ho1) | (go_at_call 32; go_in) | (go_at_call 33; go_in))
    have he := (enc_new ho1 HN.out).alloc (.cells #[.int .u64 (x : Int)] 22)
    refine (zuint_any w1.heap.size (w1.heap.size + 1) 0 x hx _ bs _ he (by simp [go_sem, World.cell?_alloc_past]) (by rw [HN.out]; omega)).mono ?_
    rintro e w2 ⟨rfl, sv2, he2, hm2⟩
    have hpos := Lib.uvarint_pos x
    have hlen := Lib.uvarint_length64 hx
    obtain ⟨g2, k2, hsv, hg2⟩ := owns_some he2.own (by simp; omega)
    subst hsv
    -- below the call's own blocks nothing has turned
    have hb2 : Below w.heap.size w w2 := by
      have h1 : Below w.heap.size w w1 := hk1.below (Nat.le_refl _) (fun _ h => h.elim)
      have hs1 := h1.size
      have h2 : Below w.heap.size w1 w2 := by
        have h3 := ((Below.refl w.heap.size w1).alloc hs1 (.cells #[Value.slice a1 n k1] 102)).alloc (by simp; omega) (.cells #[.int .u64 (x : Int)] 22)
        refine h3.trans (hm2.kept.below (by simp; omega) ?_)
        intro k hk
        rcases hk with hk | hk
        · omega
        · exact hl1 k hk
      exact h1.trans h2
    have hxc : w2.cell? ⟨w1.heap.size + 1, 0, none⟩ = some (.int .u64 (x : Int)) := by
      refine hm2.kept.cell' (by simp [go_sem, World.cell?_alloc_past]) ?_
      intro hk
      rcases hk with hk | hk
      · simp at hk
      · have := (ho1.lt _ hk).2
        simp at this; omega
    have hec := he2.cell
    obtain ⟨hbo, hbl, hc1, hc2⟩ := owns_bytes he2.own
    have hba := hb.below hb2
    have eL : (bs ++ Lib.uvarint x).length = n + (Lib.uvarint x).length := by rw [List.length_append, HN.out]
    have HE : Hid ((bs ++ Lib.uvarint x).length = n + (Lib.uvarint x).length) := eL
    rw [eL] at hec
    have hc1' := hc1
    rw [eL] at hc1'
    generalize hm : (Lib.uvarint x).length = m at *
    have HM := hm
    clear hm hbl eL
    have HM' : Hid ((Lib.uvarint x).length = m) := HM
    clear HM
    unfold maxLen at hc2
    go_wp2_with (first | (go_at_call 36; go_in))
    refine (same_any (some ⟨g2, 0, none⟩) a0 n n k2 c bs bs w2 hbo.take hba HN.out HN.out (by unfold maxLen; omega) (by unfold maxLen; omega)).mono ?_
    rintro e w3 ⟨rfl, hs3⟩
    have hbb : (bs == bs) = true := by simp
    have hb3 : Below w.heap.size w w3 := hb2.trans (hs3.below _)
    have hbo3 : BytesAt w3 (some ⟨g2, 0, none⟩) (bs ++ Lib.uvarint x) := hbo.same hs3
    have hg3 : g2 < w3.heap.size := by rw [hs3.heap]; exact hg2
    go_wp2_with fail
    refine (uv_any w3.heap.size g2 0 (n + m) k2 n x (bs ++ Lib.uvarint x) [] _ (heap_alloc_new w3 _) ?r1 (by omega) HE.out (by unfold maxLen; omega) hx ?r2).mono ?_
    case r1 => exact hbo3.kept ((Kept.refl (fun _ => False) w3).alloc _) (fun _ _ h => h)
    case r2 => rw [← HN.out, List.drop_left, List.append_nil]
    rintro e w4 ⟨rfl, hr4, hk4⟩
    obtain ⟨q0, q1, q2, _⟩ := hr4.cells
    have q1' : w4.cell? ⟨w3.heap.size, 1, none⟩ = some (.int .i64 ((n : Int) + (m : Int))) := by rw [q1, HM'.out]; simp
    clear q1
    have hs3' := hb3.size
    have hb4 : Below w.heap.size w w4 := (hb3.alloc hs3' _).trans (hk4.below (by simp; omega) (by intro k hk; omega))
    clear hr4
    go_wp2
    go_ret
    exact ⟨rfl, hb4⟩

end Go.Proofs.Qxb6613770a
