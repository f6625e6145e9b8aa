import Derived.Test.Qxb6612812aLim
import Derived.Deep.DeepCutAuto
namespace Go.Proofs.Qxb6612812a
set_option linter.unusedVariables false
set_option linter.unusedSimpArgs false
open Go.RowKit

/-- A slice's integers as they lie in memory. -/
def IntsAt (w : World) (a : Option Addr) (zs : List Int) : Prop :=
  zs = [] ∨ ∃ b off, a = some ⟨b, off, none⟩ ∧ ∀ i (hi : i < zs.length), w.cell? ⟨b, off + i, none⟩ = some (.int .i64 zs[i])

theorem IntsAt.kept {w w' : World} {a : Option Addr} {zs : List Int} (h : IntsAt w a zs) (hk : Kept (fun _ => False) w w') : IntsAt w' a zs := by
  rcases h with h | ⟨b, off, rfl, g⟩
  · exact .inl h
  · exact .inr ⟨b, off, rfl, fun i hi => hk.cell' (g i hi) (fun h => h)⟩

/-- The sum of the first k. -/
def upto (zs : List Int) (k : Nat) : Int := (zs.take k).sum
theorem upto_zero (zs : List Int) : upto zs 0 = 0 := by simp [upto]
theorem upto_succ {zs : List Int} {k : Nat} (hk : k < zs.length) : upto zs (k + 1) = upto zs k + zs[k] := by
  unfold upto
  rw [List.take_succ_eq_append_getElem hk, List.sum_append]; simp
theorem upto_mono {zs : List Int} (h : ∀ j (hj : j < zs.length), 0 ≤ zs[j]) (k m : Nat) (hkm : k ≤ m) (hm : m ≤ zs.length) : upto zs k ≤ upto zs m := by
  induction m with
  | zero => have : k = 0 := by omega
            subst this; exact Int.le_refl _
  | succ m ih =>
    rcases Nat.lt_or_ge m k with h1 | h1
    · have : k = m + 1 := by omega
      subst this; exact Int.le_refl _
    · have := ih h1 (by omega)
      have h2 := h m (by omega)
      rw [upto_succ (by omega)]; omega
theorem upto_nonneg {zs : List Int} (h : ∀ j (hj : j < zs.length), 0 ≤ zs[j]) (m : Nat) (hm : m ≤ zs.length) : 0 ≤ upto zs m := by
  have := upto_mono h 0 m (Nat.zero_le _) hm
  rwa [upto_zero] at this

set_option maxHeartbeats 2000000 in
set_option maxRecDepth 100000 in
/-- b1SatAdd of two that are not below zero. -/
theorem satadd_any (a b : Int) (ha : 0 ≤ a) (hb : 0 ≤ b) (ha2 : a ≤ 9223372036854775807) (hb2 : b ≤ 9223372036854775807) (w : World) :
    Calls Try.prog 10 #[.int .i64 a, .int .i64 b] w fun e w' => e = .returned (.int .i64 (min (a + b) 9223372036854775807)) ∧ w' = w := by
  have hnb : ¬ b < 0 := by omega
  by_cases h : 9223372036854775807 - b < a
  · have hp : 0 < b := by omega
    have hm : min (a + b) 9223372036854775807 = 9223372036854775807 := by omega
    rw [hm]
    go_enter Try.func10, Try.ntmps10
    go_wp2
    go_ret
    exact ⟨rfl, rfl⟩
  · have hm : min (a + b) 9223372036854775807 = a + b := by omega
    have hs : a + b ≤ 9223372036854775807 := by omega
    rw [hm]
    by_cases hp : 0 < b
    · go_enter Try.func10, Try.ntmps10
      go_wp2
      go_ret
      exact ⟨rfl, rfl⟩
    · go_enter Try.func10, Try.ntmps10
      go_wp2
      go_ret
      exact ⟨rfl, rfl⟩

set_option maxHeartbeats 4000000 in
set_option maxRecDepth 100000 in
theorem limit_walk (bytes d : Int) (a : Option Addr) (n c : Nat) (zs : List Int) (w : World) (hb1 : bytes ≤ 9223372036854775807) (hd0 : -9223372036854775808 ≤ d) (hd1 : d ≤ 9223372036854775807) (h : IntsAt w a zs) (hn : zs.length = n) (hw : ∀ j (hj : j < zs.length), zs[j] ≤ 9223372036854775807) :
    Calls Try.prog 5 #[.int .i64 bytes, .int .i64 d, .slice a n c] w fun e w' => e = .returned (.bool true) ∧ Below w.heap.size w w' := by
  have HN : Hid (zs.length = n) := hn
  have HI : Hid (IntsAt w a zs) := h
  have HW : Hid (∀ j (hj : j < zs.length), zs[j] ≤ 9223372036854775807) := hw
  clear hn h hw
  by_cases hbig : 1048576 < n
  · have hbig' : (1048576 : Int) < (n : Int) := by omega
    go_enter Try.func5, Try.ntmps5
    go_wp2_with (go_at_call 14; go_in)
    all_goals (go_ret; exact ⟨rfl, Below.refl _ _⟩)
  have hs1 : ¬ (1048576 : Int) < (n : Int) := by omega
  by_cases hbig2 : 65536 < n
  · have hbig' : (65536 : Int) < (n : Int) := by omega
    go_enter Try.func5, Try.ntmps5
    go_wp2_with (go_at_call 14; go_in)
    all_goals (go_ret; exact ⟨rfl, Below.refl _ _⟩)
  have hs2 : ¬ (65536 : Int) < (n : Int) := by omega
  by_cases hb0 : bytes < 0
  · go_enter Try.func5, Try.ntmps5
    go_wp2_with (go_at_call 14; go_in)
    all_goals (go_ret; exact ⟨rfl, Below.refl _ _⟩)
  go_enter Try.func5, Try.ntmps5
  go_wp2_with (go_at_call 14; go_in)
  go_loopw [7] (fun v7 wr => ∃ k : Nat, v7 = .int .i64 k ∧ k ≤ n ∧ w = wr ∧ ∀ j (hj : j < zs.length), j < k → 0 ≤ zs[j]) (fun v7 _ => n - (intOf v7).toNat)
  case atStart => exact ⟨0, rfl, Nat.zero_le _, rfl, fun j hj h => by omega⟩
  case round =>
    obtain ⟨k, rfl, hkn, rfl, hall⟩ := hrel
    by_cases hlt : k < n
    · have hlt' : (k : Int) < (n : Int) := by omega
      have hkz : k < zs.length := by rw [HN.out]; exact hlt
      rcases HI.out with hi0 | ⟨b, off, rfl, g⟩
      · rw [hi0] at hkz; simp at hkz
      have hck := g k hkz
      clear g
      by_cases hneg : zs[k] < 0
      · go_wp2
        go_ret
        exact ⟨rfl, Below.refl _ _⟩
      · go_wp2
        go_roundw
        case rel => exact ⟨k + 1, by go_num, by omega, by first | rfl | trivial, fun j hj h => by
          rcases Nat.lt_or_ge j k with h1 | h1
          · exact hall j hj h1
          · have : j = k := by omega
            subst this; omega⟩
        case measure => simp [intOf]; omega
    · have hkn' : k = n := by omega
      subst hkn'
      have HP : Hid (∀ j (hj : j < zs.length), 0 ≤ zs[j]) := fun j hj => hall j hj (by have := HN.out; omega)
      clear hall
      go_wp2_with fail
      refine (newStage_any d hd0 hd1 _ w.heap.size bytes ?st).mono ?_
      case st => simp [go_sem]
      rintro e w1 ⟨sb, rfl, hsb, L1, k1⟩
      have k01 : Kept (fun _ => False) w w1 := ((Kept.refl _ w).alloc _).trans k1 (fun _ _ h => h)
      have hsb' : w.heap.size < sb := by simp at hsb; omega
      generalize hlb : w.heap.size = lb at *
      go_wp2
      go_loopw [10] (fun v10 w2 => ∃ i : Nat, v10 = .int .i64 i ∧ i ≤ k ∧ LS w2 lb sb bytes d (min bytes (upto zs i)) ∧ Kept (fun x => lb ≤ x) w w2) (fun v10 _ => k - (intOf v10).toNat)
      case atStart => exact ⟨0, rfl, Nat.zero_le _, by rw [upto_zero, show min bytes 0 = 0 by omega]; exact L1, k01.mono (fun _ _ h => h.elim)⟩
      case round =>
        obtain ⟨i, rfl, hik, L2, k2⟩ := hrel
        have hu0 := upto_nonneg HP.out i (by rw [HN.out]; exact hik)
        have hum := upto_mono HP.out i k hik (by rw [HN.out]; exact Nat.le_refl _)
        have hcase : (i < k ∧ upto zs i < bytes) ∨ (i < k ∧ bytes ≤ upto zs i) ∨ i = k := by omega
        rcases hcase with ⟨hlt, hkeep⟩ | ⟨hlt, hclose⟩ | hik'
        case inl =>
          have hlt' : (i : Int) < (k : Int) := by omega
          have hkz : i < zs.length := by rw [HN.out]; exact hlt
          have hus := upto_succ hkz
          have hz0 := HP.out i hkz
          have hz1 := HW.out i hkz
          have hmn : min bytes (upto zs i) = upto zs i := by omega
          rw [hmn] at L2
          rcases HI.out with hi0 | ⟨b, off, rfl, g⟩
          · rw [hi0] at hkz; simp at hkz
          have hbl : b < lb := by rw [← hlb]; exact World.block_lt_of_cell? w _ (g i hkz)
          have hck := g i hkz
          clear g hmn
          go_wp2_with fail
          refine (zends_keep lb sb bytes d _ hkeep _ L2).mono ?_
          rintro e w3 ⟨rfl, k3⟩
          have k03 : Kept (fun x => lb ≤ x) w w3 := k2.trans k3 (fun _ _ h => h.elim)
          have hck3 := k03.cell' hck (by simp; omega)
          have L3 := L2.kept k3 (fun h => h) (fun h => h)
          clear hck L2 k2 k3
          go_wp2_with fail
          refine (zlimit_any lb sb bytes d _ hu0 (by omega) hb1 _ L3).mono ?_
          rintro e w4 ⟨rfl, k4⟩
          have k04 : Kept (fun x => lb ≤ x) w w4 := k03.trans k4 (fun _ _ h => h.elim)
          have L4 := L3.kept k4 (fun h => h) (fun h => h)
          clear L3 k4 k03
          have hpos : (0 : Int) < bytes - upto zs i := by omega
          by_cases hcut : bytes - upto zs i < zs[i]
          · go_wp2_with fail
            refine (zpassed_any lb sb bytes d _ (bytes - upto zs i) hd0 hd1 hu0 (by omega) (by omega) _ L4).mono ?_
            rintro e w5 ⟨rfl, L5, k5⟩
            go_wp2
            go_roundw
            case rel => exact ⟨i + 1, by go_num, by omega, by rw [show min bytes (upto zs (i + 1)) = upto zs i + (bytes - upto zs i) by omega]; exact L5, k04.trans k5 (fun x _ h => by subst h; omega)⟩
            case measure => simp [intOf]; omega
          · go_wp2_with fail
            refine (zpassed_any lb sb bytes d _ zs[i] hd0 hd1 hu0 (by omega) (by omega) _ L4).mono ?_
            rintro e w5 ⟨rfl, L5, k5⟩
            go_wp2
            go_roundw
            case rel => exact ⟨i + 1, by go_num, by omega, by rw [show min bytes (upto zs (i + 1)) = upto zs i + zs[i] by omega]; exact L5, k04.trans k5 (fun x _ h => by subst h; omega)⟩
            case measure => simp [intOf]; omega
        case' inr.inl =>
          have hlt' : (i : Int) < (k : Int) := by omega
          have hmn : min bytes (upto zs i) = bytes := by omega
          rw [hmn] at L2
          go_wp2_with fail
          refine (zends_close lb sb bytes d _ hd0 hd1 (by omega) _ L2).mono ?_
          rintro e w3 ⟨rfl, k3⟩
          have L5 : LS w3 lb sb bytes d (min bytes (upto zs k)) := by
            rw [show min bytes (upto zs k) = bytes by omega]
            exact L2.kept k3 (fun h => h) (fun h => h)
          have K5 : Kept (fun x => lb ≤ x) w w3 := k2.trans k3 (fun _ _ h => h.elim)
          clear hmn L2 k2 k3 hlt hclose
        case' inr.inr =>
          have hki : k = i := hik'.symm
          clear hik'
          subst hki
          have L5 := L2
          have K5 := k2
          clear L2 k2
        all_goals
          have hz0 := upto_nonneg HP.out k (by rw [HN.out]; exact Nat.le_refl _)
          go_wp2
          go_loopw [16, 15] (fun v16 v15 w7 => ∃ j : Nat, v16 = .int .i64 j ∧ j ≤ k ∧ v15 = .int .i64 (min (upto zs j) 9223372036854775807) ∧ LS w7 lb sb bytes d (min bytes (upto zs k)) ∧ Kept (fun x => lb ≤ x) w w7) (fun v16 _ _ => k - (intOf v16).toNat)
          case atStart => exact ⟨0, rfl, Nat.zero_le _, by rw [upto_zero]; rfl, L5, K5⟩
          case round =>
            obtain ⟨j, rfl, hjk, rfl, L6, K6⟩ := hrel
            by_cases hlt : j < k
            · have hlt' : (j : Int) < (k : Int) := by omega
              have hkz : j < zs.length := by rw [HN.out]; exact hlt
              have hus := upto_succ hkz
              have hj0 := upto_nonneg HP.out j (by rw [HN.out]; exact hjk)
              have hp0 := HP.out j hkz
              have hp1 := HW.out j hkz
              rcases HI.out with hi0 | ⟨b, off, rfl, g⟩
              · rw [hi0] at hkz; simp at hkz
              have hbl : b < lb := by rw [← hlb]; exact World.block_lt_of_cell? w _ (g j hkz)
              have hck := K6.cell' (g j hkz) (by simp; omega)
              clear g
              have HU : Hid (min (min (upto zs j) 9223372036854775807 + zs[j]) 9223372036854775807 = min (upto zs (j + 1)) 9223372036854775807) := by
                show _ = _
                omega
              clear hus
              have hq0 : 0 ≤ min (upto zs j) 9223372036854775807 := by omega
              have hq1 : min (upto zs j) 9223372036854775807 ≤ 9223372036854775807 := by omega
              generalize min (upto zs j) 9223372036854775807 = q at *
              go_wp2_with fail
              refine (satadd_any q zs[j] hq0 hp0 hq1 hp1 _).mono ?_
              rintro e w8 ⟨rfl, rfl⟩
              rw [HU.out]
              go_wp2
              go_roundw
              case rel => exact ⟨j + 1, by go_num, by omega, rfl, L6, K6⟩
              case measure => simp [intOf]; omega
            · have hjk' : k = j := by omega
              subst hjk'
              generalize hT : upto zs k = T at *
              have hsz : w.heap.size ≤ lb := Nat.le_of_eq hlb
              rcases Int.lt_trichotomy bytes T with h1 | h1 | h1
              · rw [show min bytes T = bytes by omega] at L6
                have hA : bytes < min T 9223372036854775807 ∨ bytes = min T 9223372036854775807 := by omega
                generalize min T 9223372036854775807 = q at *
                rcases hA with hA | rfl
                · have L6n := L6.n
                  have hne : (bytes != bytes) = false := by simp
                  have hge : bytes ≤ q := by omega
                  go_wp2_with (go_at_call 18; go_in)
                  refine (zends_close lb sb bytes d _ hd0 hd1 (by omega) _ L6).mono ?_
                  rintro e w9 ⟨rfl, k9⟩
                  go_wp2
                  go_ret
                  exact ⟨ret_bool (by simp), (K6.trans k9 (fun _ _ h => h.elim)).below (Nat.le_refl _) (fun _ h => by omega)⟩
                · have L6n := L6.n
                  have hne : (bytes != bytes) = false := by simp
                  go_wp2_with (go_at_call 18; go_in)
                  refine (zends_close lb sb bytes d _ hd0 hd1 (by omega) _ L6).mono ?_
                  rintro e w9 ⟨rfl, k9⟩
                  go_wp2
                  go_ret
                  exact ⟨ret_bool (by simp), (K6.trans k9 (fun _ _ h => h.elim)).below (Nat.le_refl _) (fun _ h => by omega)⟩
              · rw [show min bytes T = bytes by omega] at L6
                rw [show min T 9223372036854775807 = bytes by omega]
                have L6n := L6.n
                have hne : (bytes != bytes) = false := by simp
                go_wp2_with (go_at_call 18; go_in)
                refine (zends_close lb sb bytes d _ hd0 hd1 (by omega) _ L6).mono ?_
                rintro e w9 ⟨rfl, k9⟩
                go_wp2
                go_ret
                exact ⟨ret_bool (by simp), (K6.trans k9 (fun _ _ h => h.elim)).below (Nat.le_refl _) (fun _ h => by omega)⟩
              · rw [show min bytes T = T by omega] at L6
                rw [show min T 9223372036854775807 = T by omega]
                have L6n := L6.n
                have hne : (T != T) = false := by simp
                have hnl : ¬ bytes < T := by omega
                have hng : ¬ bytes ≤ T := by omega
                have hml : ¬ (9223372036854775807 : Int) < bytes - T := by omega
                go_wp2_with (go_at_call 18; go_in)
                refine (zends_keep lb sb bytes d _ h1 _ L6).mono ?_
                rintro e w9 ⟨rfl, k9⟩
                go_wp2_with fail
                refine (zlimit_any lb sb bytes d _ hz0 (by omega) hb1 _ (L6.kept k9 (fun h => h) (fun h => h))).mono ?_
                rintro e w10 ⟨rfl, k10⟩
                go_wp2
                go_ret
                exact ⟨ret_bool (by simp), ((K6.trans k9 (fun _ _ h => h.elim)).trans k10 (fun _ _ h => h.elim)).below (Nat.le_refl _) (fun _ h => by omega)⟩

end Go.Proofs.Qxb6612812a
