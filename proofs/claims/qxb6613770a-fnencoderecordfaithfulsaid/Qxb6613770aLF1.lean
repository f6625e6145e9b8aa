import Derived.Test.Qxb6613770aLL
import Derived.Test.Qxb6613770aLPl
namespace Go.Proofs.Qxb6613770a
set_option linter.unusedVariables false
set_option linter.unusedSimpArgs false
open Go.RowKit

theorem toList_inj {a b : ByteArray} (h : a.toList = b.toList) : a = b := by
  rw [ByteArray.toList_eq, ByteArray.toList_eq] at h
  exact data_inj h

set_option maxHeartbeats 4000000 in
set_option maxRecDepth 100000 in
/-- zzSameLocated, where the heads differ. -/
theorem sameL_diff (a b : Loc) (hd : ¬ HeadEq a b) (aa ab : Option Addr) (n m c c' : Nat) (w : World) :
    Calls Try.prog 20 #[.agg #[.int .u64 a.slot, .int .u64 a.br, .string a.bn, .string a.leader, .int .u64 a.pr, .string a.pn, .bool a.leased, .bool a.cutoff, .slice aa n c], .agg #[.int .u64 b.slot, .int .u64 b.br, .string b.bn, .string b.leader, .int .u64 b.pr, .string b.pn, .bool b.leased, .bool b.cutoff, .slice ab m c']] w fun e w' => e = .returned (.bool (sameLoc a b)) ∧ Kept (fun _ => False) w w' := by
  have HR : Hid (sameLoc a b = false) := sameLoc_false (fun h => hd h.1)
  have HD : Hid (¬ HeadEq a b) := hd
  clear hd
  go_enter Try.func20, Try.ntmps20
  go_wp2
  all_goals first
    | (exfalso; exact HD.out ⟨by omega, by omega, toList_inj (by assumption), toList_inj (by assumption), by omega, toList_inj (by assumption), by assumption, by simpa using (by assumption : (!a.cutoff == b.cutoff) = false)⟩)
    | (go_ret; exact ⟨ret_bool HR.out.symm, ((Kept.refl _ w).alloc _).alloc _⟩)

theorem norm_iff (x y : Int) : normDur x = normDur y ↔ (x = y ∨ (x < 0 ∧ y < 0)) := by
  unfold normDur
  by_cases hx : x < 0 <;> by_cases hy : y < 0 <;> simp [hx, hy] <;> omega

theorem map_take_next {xs ys : List Int} {k : Nat} (hx : k < xs.length) (hy : k < ys.length) (h : (xs.take k).map normDur = (ys.take k).map normDur) (he : normDur xs[k] = normDur ys[k]) : (xs.take (k + 1)).map normDur = (ys.take (k + 1)).map normDur := by
  rw [List.take_succ_eq_append_getElem hx, List.take_succ_eq_append_getElem hy, List.map_append, List.map_append, h]
  simp [he]

theorem map_ne_at {xs ys : List Int} {k : Nat} (hx : k < xs.length) (hy : k < ys.length) (he : normDur xs[k] ≠ normDur ys[k]) : xs.map normDur ≠ ys.map normDur := by
  intro e
  have h1 : (xs.map normDur)[k]? = some (normDur xs[k]) := by rw [List.getElem?_map, List.getElem?_eq_getElem hx]; rfl
  have h2 : (ys.map normDur)[k]? = some (normDur ys[k]) := by rw [List.getElem?_map, List.getElem?_eq_getElem hy]; rfl
  rw [e, h2] at h1
  exact he (Option.some.inj h1).symm

set_option maxHeartbeats 4000000 in
set_option maxRecDepth 100000 in
/-- zzSameLocated, where the heads agree. -/
theorem sameL_head (s r p : Nat) (bn ld pn : ByteArray) (l1 l2 : Bool) (xs ys : List Int) (aa ab : Option Addr) (n m c c' : Nat) (hn : xs.length = n) (hm : ys.length = m) (hnm : n ≤ maxLen) (w : World) (hx : IntsAt w aa xs) (hy : IntsAt w ab ys) :
    Calls Try.prog 20 #[.agg #[.int .u64 s, .int .u64 r, .string bn, .string ld, .int .u64 p, .string pn, .bool l1, .bool l2, .slice aa n c], .agg #[.int .u64 s, .int .u64 r, .string bn, .string ld, .int .u64 p, .string pn, .bool l1, .bool l2, .slice ab m c']] w fun e w' => e = .returned (.bool (decide (xs.map normDur = ys.map normDur))) ∧ Kept (fun _ => False) w w' := by
  unfold maxLen at hnm
  by_cases hl : n = m
  · subst hl
    have g1 : ((n : Int) != (n : Int)) = false := by simp
    have g2 : (!(l2 == l2)) = false := by simp
    have HN : Hid (xs.length = n) := hn
    have HM : Hid (ys.length = n) := hm
    have HX : Hid (IntsAt w aa xs) := hx
    have HY : Hid (IntsAt w ab ys) := hy
    clear hn hm hx hy
    go_enter Try.func20, Try.ntmps20
    go_wp2
    go_loop [5, 6, 7] (fun v5 _ _ => ∃ k : Nat, v5 = .int .i64 k ∧ k ≤ n ∧ (xs.take k).map normDur = (ys.take k).map normDur) (fun v5 _ _ => n - (intOf v5).toNat)
    case atStart => exact ⟨0, rfl, Nat.zero_le _, by simp⟩
    case round =>
      obtain ⟨k, rfl, hk, htk⟩ := hrel
      have HT : Hid ((xs.take k).map normDur = (ys.take k).map normDur) := htk
      clear htk
      by_cases hlt : k < n
      · have hkx : k < xs.length := by rw [HN.out]; exact hlt
        have hky : k < ys.length := by rw [HM.out]; exact hlt
        rcases HX.out with h0 | ⟨b, off, rfl, g⟩
        · rw [h0] at hkx; simp at hkx
        rcases HY.out with h0 | ⟨b', off', rfl, g'⟩
        · rw [h0] at hky; simp at hky
        have hcx := g k hkx
        have hcy := g' k hky
        have hbx : b < w.heap.size := World.block_lt_of_cell? w _ hcx
        have hby : b' < w.heap.size := World.block_lt_of_cell? w _ hcy
        have hlt' : (k : Int) < (n : Int) := by omega
        clear g g'
        by_cases hne : normDur xs[k] = normDur ys[k]
        · have HS : Hid (_ = _) := map_take_next hkx hky HT.out hne
          rw [norm_iff] at hne
          generalize xs[k] = x at *
          generalize ys[k] = y at *
          by_cases hxy : x = y
          · subst hxy
            have e1 : (x == x) = true := by simp
            clear hne
            go_wp2
            go_round
            case rel => exact ⟨k + 1, by go_num, by omega, HS.out⟩
            case measure => simp [intOf]; omega
          · have e1 : (x == y) = false := by simp [hxy]
            obtain ⟨e2, e3⟩ : x < 0 ∧ y < 0 := by
              rcases hne with h | h
              · exact absurd h hxy
              · exact h
            clear hne
            go_wp2
            go_round
            case rel => exact ⟨k + 1, by go_num, by omega, HS.out⟩
            case measure => simp [intOf]; omega
        · have HR : Hid (decide (xs.map normDur = ys.map normDur) = false) := decide_eq_false (map_ne_at hkx hky hne)
          rw [norm_iff] at hne
          generalize xs[k] = x at *
          generalize ys[k] = y at *
          have e1 : (x == y) = false := by simp; intro h; exact hne (.inl h)
          by_cases hx0 : x < 0
          · have hy0 : ¬ y < 0 := fun h => hne (.inr ⟨hx0, h⟩)
            clear hne
            go_wp2
            go_ret
            exact ⟨ret_bool HR.out.symm, ((Kept.refl _ w).alloc _).alloc _⟩
          · clear hne
            go_wp2
            go_ret
            exact ⟨ret_bool HR.out.symm, ((Kept.refl _ w).alloc _).alloc _⟩
      · have HR : Hid (decide (xs.map normDur = ys.map normDur) = true) := by
          have := HT.out
          rw [List.take_of_length_le (by rw [HN.out]; omega), List.take_of_length_le (by rw [HM.out]; omega)] at this
          exact decide_eq_true this
        go_wp2
        go_ret
        exact ⟨ret_bool HR.out.symm, ((Kept.refl _ w).alloc _).alloc _⟩
  · have g1 : ((n : Int) != (m : Int)) = true := by simp; omega
    have g2 : (!(l2 == l2)) = false := by simp
    have hr : decide (xs.map normDur = ys.map normDur) = false := decide_eq_false (fun e => hl (by have := congrArg List.length e; simpa [hn, hm] using this))
    rw [hr]
    clear hn hm hr
    go_enter Try.func20, Try.ntmps20
    go_wp2
    go_ret
    exact ⟨rfl, ((Kept.refl _ w).alloc _).alloc _⟩

/-- zzSameLocated. -/
theorem sameL_any (a b : Loc) (aa ab : Option Addr) (n m c c' : Nat) (hn : a.ans.length = n) (hm : b.ans.length = m) (hnm : n ≤ maxLen) (w : World) (hx : IntsAt w aa a.ans) (hy : IntsAt w ab b.ans) :
    Calls Try.prog 20 #[.agg #[.int .u64 a.slot, .int .u64 a.br, .string a.bn, .string a.leader, .int .u64 a.pr, .string a.pn, .bool a.leased, .bool a.cutoff, .slice aa n c], .agg #[.int .u64 b.slot, .int .u64 b.br, .string b.bn, .string b.leader, .int .u64 b.pr, .string b.pn, .bool b.leased, .bool b.cutoff, .slice ab m c']] w fun e w' => e = .returned (.bool (sameLoc a b)) ∧ Kept (fun _ => False) w w' := by
  rcases headEq_em a b with h | h
  · have e : sameLoc a b = decide (a.ans.map normDur = b.ans.map normDur) := by
      by_cases h2 : a.ans.map normDur = b.ans.map normDur
      · rw [sameLoc_true h h2, decide_eq_true h2]
      · rw [sameLoc_false (fun q => h2 q.2), decide_eq_false h2]
    rw [e, h.slot, h.br, h.bn, h.leader, h.pr, h.pn, h.leased, h.cutoff]
    exact sameL_head b.slot b.br b.pr b.bn b.leader b.pn b.leased b.cutoff a.ans b.ans aa ab n m c c' hn hm hnm w hx hy
  · exact sameL_diff a b h aa ab n m c c' w

end Go.Proofs.Qxb6613770a
