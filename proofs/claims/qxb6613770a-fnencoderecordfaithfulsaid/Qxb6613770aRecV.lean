import Derived.Test.Qxb6613770aRecU
namespace Go.Proofs.Qxb6613770a
set_option linter.unusedVariables false
set_option linter.unusedSimpArgs false
open Go.RowKit

set_option maxHeartbeats 8000000 in
set_option maxRecDepth 100000 in
/-- zzToTxn. -/
theorem toTxn_any (T : Option Tx) (hT : ∀ t, T = some t → t.size ≤ 1048576) (tp : Option Addr) (w : World) (h : TxnAt w tp T) :
    Calls Try.prog 49 #[.pointer tp] w fun e w' => GaveTxn T w e w' := by
  have q74 : ∀ (w : World) (a : Option Addr) (n c n' c' : Nat), (binOp .neq 74 (.slice a n c) (.slice none n' c')).run Try.prog w = .ok (.bool !a.isNone) w := fun w a n c n' c' => run_neq_slice_nil_any w _ _ a n c n' c' Try.underlying74
  obtain ⟨i0, hi, hz0, hz1, hz2⟩ := info_parts info35
  cases T with
  | none =>
    obtain rfl : tp = none := h
    go_enter Try.func49, Try.ntmps49
    go_wp2
    go_ret
    exact ⟨none, rfl, fun _ _ => rfl, Kept.refl _ _⟩
  | some t =>
    obtain ⟨b, o, ka, kn, kc, va, vn, vc, rfl, hx⟩ := h
    have hsz := hT t rfl
    unfold Tx.size at hsz
    have hkl := hx.keys.len
    have hvl := hx.val.len
    have HKL : Hid (t.keys.length = kn) := hkl
    have HKE : Hid (∀ x ∈ t.keys, x.length ≤ 1048576) := fun x hx => by have := key_le t.keys x hx; omega
    have g3 : vn ≤ 1048576 := by omega
    have g4 : kn ≤ 1048576 := by omega
    have HVB : Hid (Bs w va vn vc t.val) := hx.val
    have HKS : Hid (Keys w ka kn kc t.keys) := hx.keys
    have hV : SX b o t va vn vc w := ⟨hx.id.c0, hx.id.c1, hx.id.c2, hx.cc, hx.cd, hx.cv, hx.ver.c0, hx.ver.c1, hx.ver.c2⟩
    have ck := hx.ck
    clear hsz hkl hvl hT hx
    cases ka with
    | none =>
      obtain ⟨hn0, hc0⟩ := HKS.out.nil rfl
      have m0 := hV
      obtain ⟨m0, m1, m2, m4, m5, m6, m7, m8, m9⟩ := m0
      subst hn0 hc0
      go_enter Try.func49, Try.ntmps49
      go_wp2
      go_region_held3 (fun w' => w'.cell? ⟨b, o, none⟩ = some (.int .u64 t.id.slot) ∧ w'.cell? ⟨b, o + 1, none⟩ = some (.int .u64 t.id.br) ∧ w'.cell? ⟨b, o + 2, none⟩ = some (.string t.id.bn) ∧ w'.cell? ⟨b, o + 4, none⟩ = some (.bool t.com) ∧ w'.cell? ⟨b, o + 5, none⟩ = some (.bool t.del) ∧ w'.cell? ⟨b, o + 6, none⟩ = some (.slice va vn vc) ∧ w'.cell? ⟨b, o + 7, none⟩ = some (.int .u64 t.ver.slot) ∧ w'.cell? ⟨b, o + 8, none⟩ = some (.int .u64 t.ver.br) ∧ w'.cell? ⟨b, o + 9, none⟩ = some (.string t.ver.bn))
        ((show SX b o t va vn vc _; repeat (first | with_reducible exact hV | with_reducible refine SX_drew ?_ | with_reducible refine SX_alloc ?_ | with_reducible refine SX_kept (by with_reducible assumption) ?_)))
        (first
          | (go_at_call_of 48 t.id.bn; refine (toVersion_any t.id _).mono ?_; rintro e w1 ⟨rfl, k1⟩)
          | (go_at_call_of 48 t.ver.bn; refine (toVersion_any t.ver _).mono ?_; rintro e w2 ⟨rfl, k2⟩)
          | (go_at_call 34; refine (copy_any va vn vc t.val _ (HVB.out.ext (by refine Kept.ext0 (?_ : Kept (fun _ => False) w _); (repeat (first | with_reducible assumption | with_reducible exact Kept.refl _ _ | with_reducible refine Kept.drew ?_ | with_reducible refine Kept.alloc ?_ _ | with_reducible refine Kept.trans ?_ (by with_reducible assumption) (fun _ _ h => h))))).at_ HVB.out.len HVB.out.nil (by omega)).mono ?_; rintro e w3 ⟨v3, rfl, o3, k3, n3⟩; obtain ⟨va', vc', rfl, -⟩ := bs_of_owns o3))
      all_goals
        go_wp2
        go_ret
        have kw : Kept (fun _ => False) w w1 := by (repeat (first | with_reducible assumption | with_reducible exact Kept.refl _ _ | with_reducible refine Kept.drew ?_ | with_reducible refine Kept.alloc ?_ _ | with_reducible refine Kept.trans ?_ (by with_reducible assumption) (fun _ _ h => h)))
        have kE : Kept (fun _ => False) w3 w2 := by (repeat (first | with_reducible assumption | with_reducible exact Kept.refl _ _ | with_reducible refine Kept.drew ?_ | with_reducible refine Kept.alloc ?_ _ | with_reducible refine Kept.trans ?_ (by with_reducible assumption) (fun _ _ h => h)))
        have kF : Kept (fun _ => False) w w2 := by (repeat (first | with_reducible assumption | with_reducible exact Kept.refl _ _ | with_reducible refine Kept.drew ?_ | with_reducible refine Kept.alloc ?_ _ | with_reducible refine Kept.trans ?_ (by with_reducible assumption) (fun _ _ h => h)))
        refine ⟨some ⟨w2.heap.size, 0, none⟩, by first | rfl | simp [go_sem], fun w'' hk => txAt_kept hk (by have := kF.size; omega) (ka := none) (kn := 0) (kc := 0) (va := va') (vn := vn) (vc := vc') (by simp [go_sem]) (by simp [go_sem]) (by simp [go_sem]) (by simp [go_sem]) (by simp [go_sem]) (by simp [go_sem]) (by simp [go_sem]) (by simp [go_sem]) (by simp [go_sem]) (by simp [go_sem]) ?_ (bs_owned (hk.owns ((kE.alloc _).owns o3 (fun _ _ h => h)) (fun i hi => by have := n3 i hi; have := kw.size; omega))), kF.alloc _⟩
        have ek : t.keys = [] := List.eq_nil_of_length_eq_zero HKL.out
        rw [ek]
        exact ⟨.inl rfl, rfl, fun _ => ⟨rfl, rfl⟩⟩
    | some x =>
      go_enter Try.func49, Try.ntmps49
      go_wp2_with (at_make; refine wpList_make_full _ rfl _ _ 74 rfl 0 35 i0 (.slice none 0 0) 1 Try.underlying74 hi hz0 hz1 _ _ _ _ kn rfl rfl rfl rfl ?b1 ?b2 ?b3 ?_)
      case b1 => rw [hz2]; omega
      case b2 => unfold maxLen; omega
      case b3 => omega
      intro wA hown hgrow
      have hkA : Kept (fun _ => False) w wA := (Kept.refl _ _).grown hgrow (by intro k hk; cases hk)
      have HC : Hid (Copied w.heap.size wA w.heap.size kn t.keys 0 (List.replicate kn (.slice none 0 0))) := by
        refine ⟨?_, fun j _ h => absurd h (Nat.not_lt_zero j), Nat.le_refl _⟩
        have e : List.replicate kn (Value.slice none 0 0) = (madeCells #[Value.slice none 0 0] kn).toList := by simp only [toList_madeCells_one]
        rw [e]
        exact hown
      have HC' : ∃ g, w.heap.size = g ∧ Hid (Copied w.heap.size wA g kn t.keys 0 (List.replicate kn (.slice none 0 0))) := ⟨_, rfl, HC⟩
      clear HC
      obtain ⟨g, hg, HC⟩ := HC'
      rw [hg]
      have hgle : w.heap.size ≤ g := Nat.le_of_eq hg
      clear hown hgrow hg
      go_wp2
      go_loopw [4] (fun v4 wr => ∃ (k : Nat) (vs : List Value), v4 = .int .i64 k ∧ k ≤ kn ∧ Copied w.heap.size wr g kn t.keys k vs ∧ vs.length = kn ∧ Kept (fun _ => False) w wr) (fun v4 _ => kn - (intOf v4).toNat)
      case atStart => exact ⟨0, _, rfl, Nat.zero_le _, HC.out, by simp, hkA⟩
      case round =>
        obtain ⟨k, vs, rfl, hkn, hco, hvs, hkr⟩ := hrel
        have ckr := hkr.cell' ck (fun h => h)
        by_cases hlt : k < kn
        · have hlt' : (k : Int) < (kn : Int) := by omega
          have hkz : k < t.keys.length := by rw [HKL.out]; exact hlt
          rcases HKS.out.at_ with h0 | ⟨kb, ko, hxe, G⟩
          · rw [h0] at hkz; simp at hkz
          simp only [Option.some.injEq] at hxe
          subst hxe
          obtain ⟨a', n', c', y1, y2⟩ := G k hkz
          have y4 := y2.len
          have y5 := HKE.out _ (List.getElem_mem hkz)
          rw [y4] at y5
          have y1r := hkr.cell' y1 (fun h => h)
          have HY : Hid (Bs wr a' n' c' t.keys[k]) := y2.ext hkr.ext0
          clear G y2 y4 y1
          go_wp2_with fail
          refine (copy_any a' n' c' t.keys[k] _ HY.out.at_ HY.out.len HY.out.nil (by omega)).mono ?_
          rintro e wB ⟨v3, rfl, o3, kB, hown3⟩
          have hne : v3.ownBlock ≠ some g := fun e => by
            have h1 := hown3 g e
            have h2 := hco.own
            have h3 := World.block_lt_of_cell? wr _ (h2.cellAt 0 (by omega) |>.trans (List.getElem?_eq_getElem (by omega)))
            have h4 : g < wr.heap.size := h3
            omega
          rw [← HY.out.len] at o3
          obtain ⟨a3, c3, rfl, b3⟩ := bs_of_owns o3
          have hcB := hco.kept kB (fun _ _ h => h)
          have hfz := hcB.own.frozenAt k
          obtain ⟨u, hu⟩ : ∃ u, wB.cell? ⟨g, k, none⟩ = some u := by
            rw [hcB.own.cellAt k (by omega)]
            exact ⟨_, List.getElem?_eq_getElem (by omega)⟩
          have hst := hcB.next hkz hvs hlt o3 hne (fun i hi => by have := hown3 i hi; have := hkr.size; omega)
          have HL : Hid (t.keys[k].length = n') := HY.out.len
          have hkB := (hkr.trans kB (fun _ _ h => h)).setCell (p := ⟨g, k, none⟩) (fun h => by have : g < w.heap.size := h; omega)
          go_wp2
          go_roundw
          case rel => exact ⟨k + 1, _, by go_num, by omega, hst, by simp [hvs], hkB _⟩
          case measure => simp [intOf]; omega
        · have hke : k = kn := by omega
          subst hke
          have HKC : Hid (Copied w.heap.size wr g k t.keys k vs) := hco
          have hVr : SX b o t va vn vc wr := SX_kept hkr hV
          have m0 := hVr
          obtain ⟨m0, m1, m2, m4, m5, m6, m7, m8, m9⟩ := m0
          clear hco
          go_wp2
          go_region_held3 (fun w' => w'.cell? ⟨b, o, none⟩ = some (.int .u64 t.id.slot) ∧ w'.cell? ⟨b, o + 1, none⟩ = some (.int .u64 t.id.br) ∧ w'.cell? ⟨b, o + 2, none⟩ = some (.string t.id.bn) ∧ w'.cell? ⟨b, o + 4, none⟩ = some (.bool t.com) ∧ w'.cell? ⟨b, o + 5, none⟩ = some (.bool t.del) ∧ w'.cell? ⟨b, o + 6, none⟩ = some (.slice va vn vc) ∧ w'.cell? ⟨b, o + 7, none⟩ = some (.int .u64 t.ver.slot) ∧ w'.cell? ⟨b, o + 8, none⟩ = some (.int .u64 t.ver.br) ∧ w'.cell? ⟨b, o + 9, none⟩ = some (.string t.ver.bn))
            ((show SX b o t va vn vc _; repeat (first | with_reducible exact hVr | with_reducible refine SX_drew ?_ | with_reducible refine SX_alloc ?_ | with_reducible refine SX_kept (by with_reducible assumption) ?_)))
            (first
              | (go_at_call_of 48 t.id.bn; refine (toVersion_any t.id _).mono ?_; rintro e w1 ⟨rfl, k1⟩)
              | (go_at_call_of 48 t.ver.bn; refine (toVersion_any t.ver _).mono ?_; rintro e w2 ⟨rfl, k2⟩)
              | (go_at_call 34; refine (copy_any va vn vc t.val _ (HVB.out.ext (by refine Kept.ext0 (?_ : Kept (fun _ => False) w _); (repeat (first | with_reducible assumption | with_reducible exact Kept.refl _ _ | with_reducible refine Kept.drew ?_ | with_reducible refine Kept.alloc ?_ _ | with_reducible refine Kept.trans ?_ (by with_reducible assumption) (fun _ _ h => h))))).at_ HVB.out.len HVB.out.nil (by omega)).mono ?_; rintro e w3 ⟨v3, rfl, o3, k3, n3⟩; obtain ⟨va', vc', rfl, -⟩ := bs_of_owns o3))
          all_goals
            go_wp2
            go_ret
            have kG : Kept (fun _ => False) wr w2 := by (repeat (first | with_reducible assumption | with_reducible exact Kept.refl _ _ | with_reducible refine Kept.drew ?_ | with_reducible refine Kept.alloc ?_ _ | with_reducible refine Kept.trans ?_ (by with_reducible assumption) (fun _ _ h => h)))
            have kw : Kept (fun _ => False) w w1 := hkr.drew.trans k1 (fun _ _ h => h)
            have kE : Kept (fun _ => False) w3 w2 := by with_reducible assumption
            have kF : Kept (fun _ => False) w w2 := hkr.trans kG (fun _ _ h => h)
            refine ⟨some ⟨w2.heap.size, 0, none⟩, by first | rfl | simp [go_sem], fun w'' hk => txAt_kept hk (by have := kF.size; omega) (ka := some ⟨g, 0, none⟩) (kn := k) (kc := k) (va := va') (vn := vn) (vc := vc') (by simp [go_sem]) (by simp [go_sem]) (by simp [go_sem]) (by simp [go_sem]) (by simp [go_sem]) (by simp [go_sem]) (by simp [go_sem]) (by simp [go_sem]) (by simp [go_sem]) (by simp [go_sem]) ?_ (bs_owned (hk.owns ((kE.alloc _).owns o3 (fun _ _ h => h)) (fun i hi => by have := n3 i hi; have := kw.size; omega))), kF.alloc _⟩
            exact ((HKC.out.kept (kG.alloc _) (fun _ _ h => h)).kept hk (fun i hi h => by have : i < w.heap.size := h; omega)).keys HKL.out

end Go.Proofs.Qxb6613770a
