import Derived.Test.Qxb6609555aRows
import Derived.Test.Qxb6609555aFrame
import Derived.WalkKit
import Derived.WalkSpells
import Derived.WalkLawsBesides
import Derived.Deep.RegionWith
import Derived.Deep.QuietTactic
import Derived.BigQuiet
import Derived.BigRegion
import Derived.ChangeAlike
import Derived.Laws.CopyOwn
import Derived.Lib.SliceRun
namespace Go.Proofs.Qxb6609555a
set_option linter.unusedVariables false
set_option linter.unusedSimpArgs false
open Go.RowKit

theorem ret_bool {a b : Bool} (h : a = b) : Ending.returned (.bool a) = .returned (.bool b) := by rw [h]

/-- A slice of int at address a shows zs. -/
def IntsAt (w : World) (a : Option Addr) (zs : List Int) : Prop :=
  zs = [] ∨ ∃ b off, a = some ⟨b, off, none⟩ ∧ ∀ j (hj : j < zs.length), w.cell? ⟨b, off + j, none⟩ = some (.int .i64 zs[j])

theorem IntsAt.kept {S : Nat → Prop} {w w' : World} {a : Option Addr} {zs : List Int} (h : IntsAt w a zs) (hk : Kept S w w') (hS : ∀ b, (∃ o, a = some ⟨b, o, none⟩) → ¬ S b) : IntsAt w' a zs := by
  rcases h with h | ⟨b, off, rfl, g⟩
  · exact .inl h
  · exact .inr ⟨b, off, rfl, fun j hj => hk.cell' (g j hj) (hS b ⟨off, rfl⟩)⟩

/-- Is x among them? -/
def has (zs : List Int) (x : Int) : Bool := zs.contains x
/-- An index, or -1. -/
def Found (r : Int) (zs : List Int) (x : Int) : Prop := decide (0 ≤ r) = has zs x
theorem has_next {zs : List Int} {x : Int} {k : Nat} (hk : k < zs.length) (h : has (zs.take k) x = false) (hx : x ≠ zs[k]) : has (zs.take (k + 1)) x = false := by
  unfold has at h ⊢
  rw [List.take_succ_eq_append_getElem hk, List.contains_append, h]
  simp [hx]
theorem has_at {zs : List Int} {x : Int} {k : Nat} (hk : k < zs.length) (hx : x = zs[k]) : has zs x = true := by
  unfold has
  rw [List.contains_iff_mem, hx]; exact List.getElem_mem hk

set_option maxHeartbeats 1000000 in
set_option maxRecDepth 100000 in
/-- slices.Index: at least 0 just where x is among them. -/
theorem index_any (a : Option Addr) (n c : Nat) (zs : List Int) (x : Int) (w : World) (h : IntsAt w a zs) (hn : zs.length = n) (hm : n ≤ maxLen) :
    Calls Try.prog 23 #[.slice a n c, .int .i64 x] w fun e w' => ∃ r : Int, e = .returned (.int .i64 r) ∧ Found r zs x ∧ w = w' := by
  unfold maxLen at hm
  have HN : Hid (zs.length = n) := hn
  have HI : Hid (IntsAt w a zs) := h
  clear hn h
  go_enter Try.func23, Try.ntmps23
  go_wp2
  go_loop [8, 5] (fun v8 _ => ∃ k : Nat, v8 = .int .i64 k ∧ k ≤ n ∧ has (zs.take k) x = false) (fun v8 _ => n - (intOf v8).toNat)
  case atStart => exact ⟨0, rfl, Nat.zero_le _, by simp [has]⟩
  case round =>
    obtain ⟨k, rfl, hk, hnot⟩ := hrel
    have HNot : Hid (has (zs.take k) x = false) := hnot
    clear hnot
    by_cases hlt : k < n
    · have hka : k < zs.length := by rw [HN.out]; exact hlt
      rcases HI.out with h0 | ⟨b, off, rfl, g⟩
      · rw [h0] at hka; simp at hka
      have hck := g k hka
      have hlt' : (k : Int) < (n : Int) := by omega
      clear g
      by_cases he : x = zs[k]
      · have hb : (x == zs[k]) = true := by simp [he]
        have HC : Hid (Found (k : Int) zs x) := by
          show decide _ = _
          rw [has_at hka he]; exact decide_eq_true (by omega)
        clear he
        go_wp2
        go_ret
        exact ⟨_, rfl, HC.out, rfl⟩
      · have hb : (x == zs[k]) = false := by simp [he]
        have HC : Hid (has (zs.take (k + 1)) x = false) := has_next hka HNot.out he
        go_wp2
        go_round
        case rel => exact ⟨k + 1, by go_num, by omega, HC.out⟩
        case measure => simp [intOf]; omega
    · have HC : Hid (Found (-1) zs x) := by
        have := HNot.out
        rw [List.take_of_length_le (by rw [HN.out]; omega)] at this
        show decide _ = _
        rw [this]; decide
      go_wp2
      go_ret
      exact ⟨_, rfl, HC.out, rfl⟩

set_option maxRecDepth 100000 in
theorem contains_any (a : Option Addr) (n c : Nat) (zs : List Int) (x : Int) (w : World) (h : IntsAt w a zs) (hn : zs.length = n) (hm : n ≤ maxLen) :
    Calls Try.prog 21 #[.slice a n c, .int .i64 x] w fun e w' => e = .returned (.bool (has zs x)) ∧ w = w' := by
  go_enter Try.func21, Try.ntmps21
  go_wp2_with fail
  refine (index_any a n c zs x _ h hn hm).mono ?_
  rintro e w' ⟨r, rfl, hr, rfl⟩
  clear hn
  go_wp2
  go_ret
  exact ⟨ret_bool hr, rfl⟩

set_option maxHeartbeats 1000000 in
set_option maxRecDepth 100000 in
theorem lags_any (hb sb : Nat) (a : Option Addr) (n c : Nat) (zs : List Int) (x : Int) (w : World) (h : IntsAt w a zs) (hn : zs.length = n) (hm : n ≤ maxLen) (hh : w.cell? ⟨hb, 7, none⟩ = some (.slice a n c)) (hs : w.cell? ⟨sb, 2, none⟩ = some (.int .i64 x)) :
    Calls Try.prog 18 #[.pointer (some ⟨hb, 0, none⟩), .pointer (some ⟨sb, 0, none⟩)] w fun e w' => e = .returned (.bool (has zs x)) ∧ Same w w' := by
  have HN : Hid (zs.length = n) := hn
  have hd : IntsAt w.drew a zs := h
  clear hn
  go_enter Try.func18, Try.ntmps18
  go_wp2
  go_region_with (go_at_call 21; refine (contains_any a n c zs x _ hd HN.out hm).mono ?_; rintro e w' ⟨rfl, rfl⟩)
  all_goals (go_wp2; go_ret; exact ⟨rfl, Same.ofDraws ⟨1, rfl⟩⟩)

set_option maxRecDepth 100000 in
theorem zlags_any (hb sb : Nat) (a : Option Addr) (n c : Nat) (zs : List Int) (x : Int) (w : World) (h : IntsAt w a zs) (hn : zs.length = n) (hm : n ≤ maxLen) (hh : w.cell? ⟨hb, 7, none⟩ = some (.slice a n c)) (hs : w.cell? ⟨sb, 2, none⟩ = some (.int .i64 x)) :
    Calls Try.prog 9 #[.pointer (some ⟨hb, 0, none⟩), .pointer (some ⟨sb, 0, none⟩)] w fun e w' => e = .returned (.bool (has zs x)) ∧ Same w w' := by
  go_enter Try.func9, Try.ntmps9
  go_wp2_with fail
  refine (lags_any hb sb a n c zs x _ h hn hm hh hs).mono ?_
  rintro e w' ⟨rfl, hq⟩
  clear hn
  go_wp2
  go_ret
  exact ⟨rfl, hq⟩

end Go.Proofs.Qxb6609555a
