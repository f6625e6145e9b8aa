import Derived.Test.Qxb6609555aWalk
import Derived.Deep.DeepCutAuto
namespace Go.Proofs.Qxb6609555a
set_option linter.unusedVariables false
set_option linter.unusedSimpArgs false
open Go.RowKit

theorem info3 : (Try.prog.info? 3).map (fun i => (i.zero, i.size, i.bytes)) = some (some (.int .i64 0), 1, 8) := by kernel_rfl
theorem sz3 : (Try.prog.info? 3).map (·.size) = some 1 := by kernel_rfl

def ints (zs : List Int) : List Value := zs.map (Value.int .i64)
theorem ints_len (zs : List Int) : (ints zs).length = zs.length := by simp [ints]
theorem ints_one (zs : List Int) : ∀ v ∈ ints zs, v.oneCell' = true := by
  intro v hv
  simp only [ints, List.mem_map] at hv
  obtain ⟨b, _, rfl⟩ := hv
  rfl

theorem owns_block {w : World} {g n cap : Nat} {e : TypeId} {xs : List Value} (h : w.ownsRow 0 e 1 (.slice (some ⟨g, 0, none⟩) n cap) n xs) : ∃ cur : List Value, w.heap[g]? = some (.cells cur.toArray e (0, 0)) ∧ cur.length = cap := by
  rcases h.2 with ⟨h', _⟩ | ⟨g', cap', cur, h', _, hg, _, _, hcs, _⟩
  · simp at h'
  · simp only [Value.slice.injEq, Option.some.injEq, Addr.mk.injEq, and_true, true_and] at h'
    obtain ⟨rfl, rfl⟩ := h'
    exact ⟨cur.toList, by simpa using hg, by simpa using hcs⟩

theorem owns_of_block {w : World} {g n : Nat} {e : TypeId} {xs : List Value} (hg : w.heap[g]? = some (.cells xs.toArray e (0, 0))) (hn : xs.length = n) (hm : n ≤ maxLen) : w.ownsRow 0 e 1 (.slice (some ⟨g, 0, none⟩) n n) n xs :=
  ⟨by simpa using hn, .inr ⟨g, n, xs.toArray, rfl, Nat.zero_le _, hg, Nat.le_refl _, hm, by simpa using hn, by simp [← hn]⟩⟩

theorem splice_all {α : Type} (L cs : List α) (h : L.length = cs.length) : splice L 0 cs = cs := by
  simp [splice, ← h]

theorem src_ints {w : World} {x : Addr} {zs : List Int} (hb : IntsAt w (some x) zs) (hp : 0 < (ints zs).length) : ∀ j v, (ints zs)[j]? = some v → w.cell? (x.add j) = some v := by
  intro j v hv
  rcases hb with hb | ⟨b, off, e, g⟩
  · subst hb; simp [ints] at hp
  · simp at e
    subst e
    have hj : j < zs.length := by
      have := (List.getElem?_eq_some_iff.1 hv).1
      simpa [ints] using this
    rw [Addr.add_lit, g j hj]
    simp [ints, hj] at hv
    rw [← hv]

/-- What an owned row of numbers shows. -/
theorem owns_ints {w : World} {g n cap : Nat} {zs : List Int} (h : w.ownsRow 0 3 1 (.slice (some ⟨g, 0, none⟩) n cap) n (ints zs)) : IntsAt w (some ⟨g, 0, none⟩) zs := by
  have hl : zs.length = n := by have := h.1; simpa [ints] using this
  refine .inr ⟨g, 0, rfl, fun j hj => ?_⟩
  rw [Nat.zero_add, h.cellAt j (by omega)]
  simp [ints, hj]

theorem row_set (zs : List Int) (k n : Nat) (hk : k < n) (hz : zs.length = n) : (ints (zs.take k ++ List.replicate (n + 1 - k) 0)).set k (.int .i64 (zs[k]'(by omega))) = ints (zs.take (k + 1) ++ List.replicate (n + 1 - (k + 1)) 0) := by
  have hl : (zs.take k).length = k := by simp; omega
  have hk' : k < zs.length := by omega
  unfold ints
  rw [← List.map_set, List.set_append_right _ _ (by omega), hl, Nat.sub_self, List.take_succ_eq_append_getElem hk', show n + 1 - k = (n + 1 - (k + 1)) + 1 by omega, List.replicate_succ, List.set_cons_zero, List.append_assoc, List.cons_append, List.nil_append]

theorem row_last (zs : List Int) (n : Nat) (x : Int) (hz : zs.length = n) : (ints (zs.take n ++ List.replicate (n + 1 - n) 0)).set n (.int .i64 x) = ints (zs ++ [x]) := by
  unfold ints
  rw [List.take_of_length_le (by omega), show n + 1 - n = 1 by omega, ← List.map_set, List.set_append_right _ _ (by omega), hz, Nat.sub_self]
  rfl

/-- Struck out. -/
def without (zs : List Int) (x : Int) : List Int := zs.filter (fun z => z != x)
theorem without_skip {zs : List Int} {x : Int} {k : Nat} (hk : k < zs.length) (h : zs[k] = x) : without (zs.take (k + 1)) x = without (zs.take k) x := by
  unfold without
  rw [List.take_succ_eq_append_getElem hk, List.filter_append]; simp [h]
theorem without_keep {zs : List Int} {x : Int} {k : Nat} (hk : k < zs.length) (h : zs[k] ≠ x) : without (zs.take (k + 1)) x = without (zs.take k) x ++ [zs[k]] := by
  unfold without
  rw [List.take_succ_eq_append_getElem hk, List.filter_append]; simp [h]
theorem without_len (zs : List Int) (x : Int) : (without zs x).length ≤ zs.length := List.length_filter_le _ _
theorem has_without (zs : List Int) (x : Int) : has (without zs x) x = false := by
  unfold has without
  rw [Bool.eq_false_iff]; intro h
  rw [List.contains_iff_mem, List.mem_filter] at h
  simp at h
theorem has_with (zs : List Int) (x : Int) : has (zs ++ [x]) x = true := by
  unfold has; rw [List.contains_iff_mem]; simp
theorem has_len (zs : List Int) (x : Int) : has zs x = !decide ((without zs x).length = zs.length) := by
  unfold has without
  rw [Bool.eq_iff_iff, List.contains_iff_mem]
  simp only [Bool.not_eq_true', decide_eq_false_iff_not]
  rw [List.length_filter_eq_length_iff]
  constructor
  · intro hm h
    have := h x hm
    simp at this
  · intro h
    by_cases hm : x ∈ zs
    · exact hm
    · exact absurd (fun a ha => by simp; intro e; exact hm (e ▸ ha)) h

/-- What the last calls have to know of memory. -/
structure LF (w wx : World) (a1 a2 a3 : Option Addr) (z1 z2 z3 : List Int) : Prop where
  below : Below w.heap.size w wx
  one : IntsAt wx a1 z1
  two : IntsAt wx a2 z2
  three : IntsAt wx a3 z3
theorem LF.kept {w wx wy : World} {a1 a2 a3 : Option Addr} {z1 z2 z3 : List Int} (h : LF w wx a1 a2 a3 z1 z2 z3) (hk : Kept (fun _ => False) wx wy) : LF w wy a1 a2 a3 z1 z2 z3 :=
  ⟨h.below.trans (hk.below h.below.size (fun _ h => h.elim)), h.one.kept hk (fun _ _ h => h), h.two.kept hk (fun _ _ h => h), h.three.kept hk (fun _ _ h => h)⟩
theorem LF.alloc {w wx : World} {a1 a2 a3 : Option Addr} {z1 z2 z3 : List Int} (h : LF w wx a1 a2 a3 z1 z2 z3) (o : Obj) : LF w (wx.alloc o) a1 a2 a3 z1 z2 z3 := h.kept ((Kept.refl _ wx).alloc o)

set_option maxHeartbeats 4000000 in
set_option maxRecDepth 100000 in
theorem lags_walk (a0 : Option Addr) (n c : Nat) (zs : List Int) (x : Int) (w : World) (h : IntsAt w a0 zs) (hn : zs.length = n) (hnil : a0 = none → n = 0 ∧ c = 0) (hm : n ≤ maxLen) :
    Calls Try.prog 3 #[.slice a0 n c, .int .i64 x] w fun e w' => e = .returned (.bool true) ∧ Below w.heap.size w w' := by
  have q22 : ∀ (w : World) (a : Option Addr) (n c n' c' : Nat), (binOp .neq 22 (.slice a n c) (.slice none n' c')).run Try.prog w = .ok (.bool !a.isNone) w := fun w a n c n' c' => run_neq_slice_nil_any w _ _ a n c n' c' Try.underlying22
  obtain ⟨i0, hi, hz0, hz1, hz2⟩ := info_parts info3
  unfold maxLen at hm
  have HN : Hid (zs.length = n) := hn
  have HNil : Hid (a0 = none → n = 0 ∧ c = 0) := hnil
  have HI : Hid (IntsAt w a0 zs) := h
  clear hn hnil h
  by_cases hbig : 65536 < n
  · have hbig' : (65536 : Int) < (n : Int) := by omega
    go_enter Try.func3, Try.ntmps3
    go_wp2
    all_goals (go_ret; exact ⟨rfl, Below.refl _ _⟩)
  · have hsm : ¬ (65536 : Int) < (n : Int) := by omega
    have hsm2 : ¬ (1048576 : Int) < (n : Int) := by omega
    go_enter Try.func3, Try.ntmps3
    go_upto_if 22 with (go_at_call 7; go_in)
    go_cut [0] (fun v0 wx => ∃ a' c', v0 = .slice a' n c' ∧ IntsAt wx a' zs ∧ Kept (fun _ => False) w wx)
    case first =>
      cases a0 with
      | none =>
        go_wp2
        go_meet
        case rel => exact ⟨none, c, rfl, HI.out, Kept.refl _ _⟩
      | some x0 =>
        go_wp2_with (at_make; refine wpList_make_full _ rfl _ _ 22 rfl 0 3 i0 (.int .i64 0) 1 Try.underlying22 hi hz0 hz1 _ _ _ _ n rfl rfl rfl rfl ?b1 ?b2 ?b3 ?_)
        case b1 => omega
        case b2 => unfold maxLen; omega
        intro w1 hown hgrow
        obtain ⟨cur, hg, hcl⟩ := owns_block hown
        have HCL : Hid (cur.length = n) := hcl
        have HG : Hid (w1.heap[w.heap.size]? = some (.cells cur.toArray 3 (0, 0))) := hg
        have hk1 : Kept (fun _ => False) w w1 := (Kept.refl _ w).grown hgrow (by intro k hk; cases hk)
        have hb1 : IntsAt w1 (some x0) zs := HI.out.kept hk1 (fun _ _ h => h)
        have hbl : Below w.heap.size w1 w1 := Below.refl _ _
        clear hg hcl hown
        go_wp2_with (refine wpList_copy_splice rfl (.tmp 26) (.tmp 27) 22 22 rfl 3 Try.underlying22 sz3 _ _ _ _ _ _ rfl rfl w.heap.size 0 cur 3 HG.out (ints zs) ?d1 ?d2 ?d3 (ints_one zs) w.heap.size w1 hbl (Nat.le_refl _) ?_)
        case d1 => rw [ints_len, HN.out]; simp
        case d2 => intro hp; exact src_ints hb1 hp
        case d3 => rw [ints_len, HN.out, HCL.out]; simp
        intro w2 HG2 hB2
        go_wp2
        go_meet
        case rel =>
          have hg2 := HG2.out
          rw [splice_all _ _ (by rw [ints_len, HN.out, HCL.out])] at hg2
          refine ⟨_, _, rfl, owns_ints (cap := n) (owns_of_block hg2 (by rw [ints_len, HN.out]) (by unfold maxLen; omega)), ?_⟩
          exact hk1.trans (Kept.ofBelow (S := fun k => w.heap.size ≤ k) hB2 (fun k h _ => h)) (fun i hi h => by omega)
    case rest =>
      obtain ⟨a', c', rfl, hia, hka⟩ := hcut
      go_wp2_with (at_make; refine wpList_make_full _ rfl _ _ 22 rfl 0 3 i0 (.int .i64 0) 1 Try.underlying22 hi hz0 hz1 _ _ _ _ (n + 1) rfl rfl ?e1 ?e2 ?f1 ?f2 ?f3 ?_)
      case f1 => omega
      case f2 => unfold maxLen; omega
      intro w3 hown3 hgrow3
      have hk3 : Kept (fun _ => False) wc w3 := (Kept.refl _ wc).grown hgrow3 (by intro k hk; cases hk)
      have HO3 : Hid (w3.ownsRow 0 3 1 (.slice (some ⟨wc.heap.size, 0, none⟩) (n + 1) (n + 1)) (n + 1) (ints (zs.take 0 ++ List.replicate (n + 1 - 0) 0))) := by
        have e : ints (zs.take 0 ++ List.replicate (n + 1 - 0) 0) = (madeCells #[Value.int .i64 0] (n + 1)).toList := by
          simp only [ints, toList_madeCells_one, List.take_zero, List.nil_append, Nat.sub_zero, List.map_replicate]
        show World.ownsRow _ _ _ _ _ _ _
        rw [e]
        exact hown3
      clear hown3 hgrow3
      have HIa : Hid (IntsAt wc a' zs) := hia
      clear hia
      go_wp2
      go_loopw [7] (fun v7 wr => ∃ k : Nat, v7 = .int .i64 k ∧ k ≤ n ∧ wr.ownsRow 0 3 1 (.slice (some ⟨wc.heap.size, 0, none⟩) (n + 1) (n + 1)) (n + 1) (ints (zs.take k ++ List.replicate (n + 1 - k) 0)) ∧ Kept (fun _ => False) wc wr) (fun v7 _ => n - (intOf v7).toNat)
      case atStart => exact ⟨0, rfl, Nat.zero_le _, HO3.out, hk3⟩
      case round =>
        obtain ⟨k, rfl, hkn, ho, hkr⟩ := hrel
        by_cases hlt : k < n
        · have hkz : k < zs.length := by rw [HN.out]; exact hlt
          rcases HIa.out with hi0 | ⟨b, off, rfl, g⟩
          · rw [hi0] at hkz; simp at hkz
          have hck := hkr.cell' (g k hkz) (fun h => h)
          have hfz := ho.frozenAt k
          obtain ⟨u, hu⟩ : ∃ u, wr.cell? ⟨wc.heap.size, k, none⟩ = some u := by
            rw [ho.cellAt k (by omega)]
            exact ⟨_, List.getElem?_eq_getElem (by rw [ints_len]; simp; omega)⟩
          have hlt' : (k : Int) < (n : Int) := by omega
          have HR : Hid (_ = _) := row_set zs k n hlt HN.out
          have hst := (ho.stored k (.int .i64 zs[k])).1
          clear g
          go_wp2
          go_roundw
          case rel => exact ⟨k + 1, by go_num, by omega, by rw [← HR.out]; exact hst, hkr.setCell (p := ⟨wc.heap.size, k, none⟩) (fun h => by have : wc.heap.size < wc.heap.size := h; omega) _⟩
          case measure => simp [intOf]; omega
        · have hkn' : k = n := by omega
          subst hkn'
          have hfz := ho.frozenAt k
          obtain ⟨u, hu⟩ : ∃ u, wr.cell? ⟨wc.heap.size, k, none⟩ = some u := by
            rw [ho.cellAt k (by omega)]
            exact ⟨_, List.getElem?_eq_getElem (by have := HN.out; rw [ints_len]; simp; omega)⟩
          have hst := (ho.stored k (.int .i64 x)).1
          rw [row_last zs k x HN.out] at hst
          have hkw : Kept (fun _ => False) wc (wr.setCell ⟨wc.heap.size, k, none⟩ (.int .i64 x)) := hkr.setCell (p := ⟨wc.heap.size, k, none⟩) (fun h => by have : wc.heap.size < wc.heap.size := h; omega) _
          go_wp2_with (at_make; refine wpList_make_own _ rfl _ _ 22 rfl 0 3 i0 (.int .i64 0) 1 Try.underlying22 hi hz0 hz1 _ _ _ k rfl rfl ?e3 ?h1 ?h2 ?h3 ?_)
          case e3 => rfl
          case h1 => rw [hz2]; omega
          case h2 => unfold maxLen; omega
          case h3 => omega
          intro w5 hown5 hgrow5
          have hsz5 : (wr.setCell ⟨wc.heap.size, k, none⟩ (.int .i64 x)).heap.size = wr.heap.size := by simp
          have hk5 : Kept (fun _ => False) (wr.setCell ⟨wc.heap.size, k, none⟩ (.int .i64 x)) w5 := (Kept.refl _ _).grown hgrow5 (by intro k hk; cases hk)
          generalize hW5 : wr.setCell ⟨wc.heap.size, k, none⟩ (.int .i64 x) = W5 at *
          have HO5 : Hid (w5.ownsRow 0 3 1 (.slice (some ⟨wr.heap.size, 0, none⟩) 0 k) 0 (ints (without (zs.take 0) x))) := hown5
          clear hW5 hgrow5 hown5
          have hgo : W5.heap.size ≤ wr.heap.size := Nat.le_of_eq hsz5
          generalize hgg : wr.heap.size = go at *
          clear hgg hsz5
          go_wp2
          go_loopw [9, 8] (fun v9 v8 w6 => ∃ j m : Nat, v9 = .int .i64 j ∧ j ≤ k ∧ v8 = .slice (some ⟨go, 0, none⟩) m k ∧ m ≤ j ∧ w6.ownsRow 0 3 1 (.slice (some ⟨go, 0, none⟩) m k) m (ints (without (zs.take j) x)) ∧ Kept (fun _ => False) W5 w6) (fun v9 _ _ => k - (intOf v9).toNat)
          case atStart => exact ⟨0, 0, rfl, Nat.zero_le _, rfl, Nat.zero_le _, HO5.out, hk5⟩
          case round =>
            obtain ⟨j, m, rfl, hjk, rfl, hmj, ho6, hk6⟩ := hrel
            by_cases hlt : j < k
            · have hjz : j < zs.length := by rw [HN.out]; exact hlt
              rcases HIa.out with hi0 | ⟨b, off, rfl, g⟩
              · rw [hi0] at hjz; simp at hjz
              have hck := (hkw.trans hk6 (fun _ _ h => h)).cell' (g j hjz) (fun h => h)
              have hlt' : (j : Int) < (k : Int) := by omega
              clear g
              by_cases he : zs[j] = x
              · have hb : (zs[j] != x) = false := by simp [he]
                have HW : Hid (_ = _) := without_skip hjz he
                clear he
                go_wp2
                go_roundw
                case rel => exact ⟨j + 1, m, by go_num, by omega, rfl, by omega, by rw [HW.out]; exact ho6, hk6⟩
                case measure => simp [intOf]; omega
              · have hb : (zs[j] != x) = true := by simp [he]
                have HW : Hid (_ = _) := without_keep hjz he
                clear he
                go_wp2_with (at_builtin; refine wpList_append_fits _ rfl _ _ 22 rfl 0 3 i0 1 Try.underlying22 hi hz1 go m k _ rfl (ho6.alloc _) ⟨wr.heap.size, 0, none⟩ 1 1 [Value.int .i64 zs[j]] rfl rfl ?g1 ?g2 ?g3 ?_)
                case g1 =>
                  intro i u hu
                  match i, hu with
                  | 0, hu => simp at hu; subst hu; simp [Addr.add]
                case g2 => intro u hu; simp at hu; subst hu; rfl
                case g3 => omega
                intro w7 ho7 hg7
                go_wp2
                go_roundw
                case rel =>
                  refine ⟨j + 1, m + 1, by go_num, by omega, rfl, by omega, ?_, (hk6.alloc _).grown hg7 (fun i hi h => ?_)⟩
                  · rw [HW.out]; simpa [ints] using ho7
                  · simp at hi; omega
                case measure => simp [intOf]; omega
            · have hjk' : j = k := by omega
              subst hjk'
              have hw0 : zs.take j = zs := List.take_of_length_le (by rw [HN.out]; exact Nat.le_refl _)
              rw [hw0] at ho6
              have hml : (without zs x).length = m := by have := ho6.1; rw [ints_len] at this; omega
              have F : LF w wr (some ⟨wc.heap.size, 0, none⟩) (some ⟨go, 0, none⟩) a' (zs ++ [x]) (without zs x) zs := by
                have hk7 : Kept (fun _ => False) wc wr := hkw.trans hk6 (fun _ _ h => h)
                have hk8 : Kept (fun _ => False) w wr := hka.trans hk7 (fun _ _ h => h)
                exact ⟨hk8.below (Nat.le_refl _) (fun _ h => h.elim), (owns_ints hst).kept hk6 (fun _ _ h => h), owns_ints ho6, HIa.out.kept hk7 (fun _ _ h => h)⟩
              have HM : Hid ((without zs x).length = m) := hml
              have h12 := has_with zs x
              have h13 := has_without zs x
              have h14 := has_len zs x
              rw [HN.out, hml] at h14
              clear hml hw0 ho6 hk6 hst hkw hka hk5 HO5 HO3
              go_wp2_with (first | (go_at_call 8; go_in) | (go_at_call 10; go_in))
              refine (zlags_any (wr.heap.size + 1) wr.heap.size (some ⟨wc.heap.size, 0, none⟩) (j + 1) (j + 1) (zs ++ [x]) x _ ((F.alloc _).alloc _).one ?l1 ?l2 ?l3 ?l4).mono ?_
              case l1 => rw [List.length_append, HN.out]; rfl
              case l2 => unfold maxLen; omega
              case l3 => simp [go_sem]
              case l4 => simp [go_sem]
              rintro e w7 ⟨rfl, s7⟩
              have F7 := ((F.alloc _).alloc _).kept s7.kept
              have c7 : w7.cell? ⟨wr.heap.size, 2, none⟩ = some (.int .i64 x) := by rw [s7.cell]; simp [go_sem]
              have z7 : wr.heap.size < w7.heap.size := World.block_lt_of_cell? w7 _ c7
              clear F s7
              go_wp2_with (first | (go_at_call 10; go_in))
              refine (zlags_any w7.heap.size wr.heap.size (some ⟨go, 0, none⟩) m j (without zs x) x _ (F7.alloc _).two ?o1 ?o2 ?o3 ?o4).mono ?_
              case o1 => exact HM.out
              case o2 => unfold maxLen; omega
              case o3 => simp [go_sem]
              case o4 => rw [World.cell?_of_block (Below.heap_alloc w7 _ _ z7)]; exact c7
              rintro e w8 ⟨rfl, s8⟩
              have F8 := (F7.alloc _).kept s8.kept
              have c8 : w8.cell? ⟨wr.heap.size, 2, none⟩ = some (.int .i64 x) := by rw [s8.cell, World.cell?_of_block (Below.heap_alloc w7 _ _ z7)]; exact c7
              have z8 : wr.heap.size < w8.heap.size := World.block_lt_of_cell? w8 _ c8
              clear F7 s8 c7 z7
              go_wp2_with (first | (go_at_call 10; go_in))
              refine (zlags_any w8.heap.size wr.heap.size a' j c' zs x _ (F8.alloc _).three ?p1 ?p2 ?p3 ?p4).mono ?_
              case p1 => exact HN.out
              case p2 => unfold maxLen; omega
              case p3 => simp [go_sem]
              case p4 => rw [World.cell?_of_block (Below.heap_alloc w8 _ _ z8)]; exact c8
              rintro e w9 ⟨rfl, s9⟩
              have F9 := (F8.alloc _).kept s9.kept
              clear F8 s9 c8 z8
              by_cases hmj' : m = j
              · have g1 : has zs x = false := by rw [h14]; simp [hmj']
                have g2 : ((m : Int) != (j : Int)) = false := by simp [hmj']
                clear h14 hmj'
                go_wp2
                go_ret
                exact ⟨rfl, F9.below⟩
              · have g1 : has zs x = true := by rw [h14]; simp [hmj']
                have g2 : ((m : Int) != (j : Int)) = true := by simp; omega
                clear h14
                go_wp2
                go_ret
                exact ⟨rfl, F9.below⟩

end Go.Proofs.Qxb6609555a
