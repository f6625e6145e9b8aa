import Derived.Test.Qxb6613770aUint
import Derived.Test.Qxb6613770aPlain
import Derived.Laws.ShiftsVarLaws
namespace Go.Proofs.Qxb6613770a
set_option linter.unusedVariables false
set_option linter.unusedSimpArgs false
open Go.RowKit

/-- A zzReader lies in block rb: over the slice sl, at place i. -/
def RdAt (w : World) (rb : Nat) (sl : Value) (i : Nat) (ok : Bool) : Prop := w.heap[rb]? = some (.cells #[sl, .int .i64 (i : Int), .bool ok] 41 (0, 0))

theorem RdAt.cells {w : World} {rb : Nat} {sl : Value} {i : Nat} {ok : Bool} (h : RdAt w rb sl i ok) :
    w.cell? ⟨rb, 0, none⟩ = some sl ∧ w.cell? ⟨rb, 1, none⟩ = some (.int .i64 (i : Int)) ∧ w.cell? ⟨rb, 2, none⟩ = some (.bool ok) ∧ (∀ o, w.frozen? ⟨rb, o, none⟩ = false) := by
  refine ⟨?_, ?_, ?_, fun o => frozen_of_row w rb o _ _ h⟩
  · rw [cell_of_row w rb 0 _ _ _ h]; rfl
  · rw [cell_of_row w rb 1 _ _ _ h]; rfl
  · rw [cell_of_row w rb 2 _ _ _ h]; rfl

theorem RdAt.lt {w : World} {rb : Nat} {sl : Value} {i : Nat} {ok : Bool} (h : RdAt w rb sl i ok) : rb < w.heap.size := (Array.getElem?_eq_some_iff.1 h).1

theorem RdAt.setI {w : World} {rb : Nat} {sl : Value} {i : Nat} {ok : Bool} (h : RdAt w rb sl i ok) (j : Nat) : RdAt (w.setCell ⟨rb, 1, none⟩ (.int .i64 (j : Int))) rb sl j ok := by
  unfold RdAt at h ⊢
  simp [World.setCell, Array.getElem?_modify, h]

theorem RdAt.setI' {w : World} {rb : Nat} {sl : Value} {i : Nat} {ok : Bool} (h : RdAt w rb sl i ok) (j : Nat) (z : Int) (hz : z = (j : Int)) : RdAt (w.setCell ⟨rb, 1, none⟩ (.int .i64 z)) rb sl j ok := by
  subst hz; exact h.setI j

theorem RdAt.drewN {w : World} {rb : Nat} {sl : Value} {i : Nat} {ok : Bool} (h : RdAt w rb sl i ok) (m : Nat) : RdAt (w.drewN m) rb sl i ok := h

theorem RdAt.kept {S : Nat → Prop} {w w' : World} {rb : Nat} {sl : Value} {i : Nat} {ok : Bool} (h : RdAt w rb sl i ok) (hk : Kept S w w') (h1 : ¬ S rb) : RdAt w' rb sl i ok := by
  unfold RdAt at h ⊢
  rw [hk.block rb (RdAt.lt h) h1]; exact h

theorem ret_int {k : IntKind} {a b : Int} (h : a = b) : Ending.returned (.int k a) = .returned (.int k b) := by rw [h]

/-- The byte at place i + k, in a later world. -/
theorem byte_at {w wr : World} {b off rb j : Nat} {bs rest : List UInt8} {u : UInt8} (hb : BytesAt w (some ⟨b, off, none⟩) bs) (hbr : b ≠ rb) (hkp : Kept (fun k => k = rb) w wr) (hd : bs.drop j = u :: rest) :
    j < bs.length ∧ wr.cell? ⟨b, off + j, none⟩ = some (.int .u8 (u.toNat : Int)) := by
  have hj : j < bs.length := by
    rcases Nat.lt_or_ge j bs.length with h | h
    · exact h
    · rw [List.drop_eq_nil_of_le h] at hd; cases hd
  refine ⟨hj, ?_⟩
  rcases hb with hb | ⟨b', off', e, g⟩
  · subst hb; simp at hj
  · simp at e
    obtain ⟨rfl, rfl⟩ := e
    have hu : bs[j] = u := by
      have := List.getElem_cons_drop hj
      rw [hd] at this
      exact (List.cons.inj this).1
    have := g j hj
    rw [hu] at this
    exact hkp.cell' this hbr

theorem drop_next {bs rest : List UInt8} {j : Nat} {u : UInt8} (hd : bs.drop j = u :: rest) : bs.drop (j + 1) = rest := by
  have : bs.drop (j + 1) = (bs.drop j).drop 1 := by rw [List.drop_drop]
  rw [this, hd]; rfl

set_option maxHeartbeats 4000000 in
set_option maxRecDepth 100000 in
/-- zzReader.uvarint, where a minimal varint lies at its place. -/
theorem uv_any (rb b off n c i x : Nat) (bs rest : List UInt8) (w : World) (hr : RdAt w rb (.slice (some ⟨b, off, none⟩) n c) i true)
    (hb : BytesAt w (some ⟨b, off, none⟩) bs) (hbr : b ≠ rb) (hn : bs.length = n) (hm : n ≤ maxLen) (hx : x < 18446744073709551616) (hd : bs.drop i = Lib.uvarint x ++ rest) :
    Calls Try.prog 37 #[.pointer (some ⟨rb, 0, none⟩)] w fun e w' => e = .returned (.int .u64 x) ∧ RdAt w' rb (.slice (some ⟨b, off, none⟩) n c) (i + (Lib.uvarint x).length) true ∧ Kept (fun k => k = rb) w w' := by
  unfold maxLen at hm
  have HN : Hid (bs.length = n) := hn
  have HD : Hid (bs.drop i = Lib.uvarint x ++ rest) := hd
  have hlen := Lib.uvarint_length64 hx
  clear hn hd
  go_enter Try.func37, Try.ntmps37
  go_wp2
  go_loopw [3, 4] (fun v kk wr => ∃ (k y : Nat), kk = .int .i64 k ∧ v = .int .u64 ((x % 128 ^ k : Nat) : Int) ∧ y = x / 128 ^ k ∧ bs.drop (i + k) = Lib.uvarint y ++ rest ∧ (Lib.uvarint x).length = k + (Lib.uvarint y).length ∧ (0 < k → 0 < y) ∧
      RdAt wr rb (.slice (some ⟨b, off, none⟩) n c) (i + k) true ∧ Kept (fun k => k = rb) w wr) (fun _ kk _ => 10 - (intOf kk).toNat)
  case atStart => exact ⟨0, x, rfl, by simp [Nat.mod_one], by simp, HD.out, by simp, by omega, hr, Kept.refl _ _⟩
  case round =>
    obtain ⟨k, y, rfl, rfl, hy, hdk, hlk, hpos, hr1, hkp⟩ := hrel
    obtain ⟨c0, c1, c2, fz⟩ := hr1.cells
    have hyp := Lib.uvarint_pos y
    have hk9 : k ≤ 9 := by omega
    have hy9 : k = 9 → y < 2 := by intro e; subst e; rw [hy]; exact div_nine hx
    have HY : Hid (y = x / 128 ^ k) := hy
    have HDK : Hid (bs.drop (i + k) = Lib.uvarint y ++ rest) := hdk
    have HLK : Hid ((Lib.uvarint x).length = k + (Lib.uvarint y).length) := hlk
    clear hy hdk hlk
    have ek : ((i + k : Nat) : Int) = (i : Int) + (k : Int) := by omega
    by_cases h128 : y < 128
    · have hu := HDK.out
      rw [Lib.uvarint_small h128] at hu
      obtain ⟨hlt, hcell⟩ := byte_at hb hbr hkp hu
      rw [Lib.toUInt8_toNat (by omega)] at hcell
      rw [HN.out] at hlt
      have HOR := or_step x k y (by omega) (by rw [HY.out]) hx
      have hml : x % 128 ^ (k + 1) = x := mod_last (by rw [← HY.out]; exact h128)
      rw [hml] at HOR
      have HL : Hid ((Lib.uvarint x).length = k + 1) := by have := HLK.out; rw [Lib.uvarint_small h128] at this; exact this
      have HORh : Hid (bits .or .u64 ((x : Int) % 128 ^ k) (IntKind.u64.wrap (IntKind.u64.wrap (bits .and .u8 (y : Int) 127) * 2 ^ (7 * k))) = (x : Int)) := HOR
      have hlt' : (i : Int) + (k : Int) < (n : Int) := by omega
      clear HOR hml hu ek
      have hb9 : ((k : Int) == 9) = true → ¬ (1 : Int) < (y : Int) := by
        intro e; have := hy9 (by simp at e; omega); omega
      have hb0 : (0 : Int) < (k : Int) → ((y : Int) == 0) = false := by
        intro e; have := hpos (by omega); simp; omega
      by_cases hk : k = 9
      · subst hk
        have hy2 := hy9 rfl
        have hy1 : ¬ (1 : Int) < (y : Int) := by omega
        have hy0 : ((y : Int) == 0) = false := by have := hpos (by omega); simp; omega
        have H9 : Hid (bits .or .u64 ((x : Int) % 9223372036854775808) (IntKind.u64.wrap (IntKind.u64.wrap (bits .and .u8 (y : Int) 127) * 9223372036854775808)) = (x : Int)) :=
          or_nine x y (by omega) (by rw [HY.out]) hx (by rw [← HY.out]; exact h128) (mod_last (by rw [← HY.out]; exact h128))
        clear hb9 hb0 HORh
        go_wp2
        go_quiet (fail)
        go_wp2
        go_quiet (fail)
        go_wp2
        go_ret
        refine ⟨ret_int H9.out, ?_, (hkp.drewN _).setCell (p := ⟨rb, 1, none⟩) (fun _ => rfl) _⟩
        rw [HL.out]
        exact (hr1.drewN _).setI' (i + (9 + 1)) _ (by omega)
      · have hk' : ((k : Int) == 9) = false := by simp; omega
        go_wp2
        go_quiet (fail)
        go_wp2
        go_quiet (fail)
        go_wp2
        all_goals
          go_ret
          refine ⟨ret_int HORh.out, ?_, (hkp.drewN _).setCell (p := ⟨rb, 1, none⟩) (fun _ => rfl) _⟩
          rw [HL.out]
          exact (hr1.drewN _).setI' (i + (k + 1)) _ (by omega)
    · have hbig : 128 ≤ y := by omega
      have hu := HDK.out
      rw [Lib.uvarint_big hbig, List.cons_append] at hu
      obtain ⟨hlt, hcell⟩ := byte_at hb hbr hkp hu
      rw [Lib.toUInt8_toNat (by omega)] at hcell
      rw [HN.out] at hlt
      have HOR := or_step x k (y % 128 + 128) (by omega) (by rw [HY.out]; omega) hx
      have HORh : Hid (bits .or .u64 ((x : Int) % 128 ^ k) (IntKind.u64.wrap (IntKind.u64.wrap (bits .and .u8 ((y % 128 + 128 : Nat) : Int) 127) * 2 ^ (7 * k))) = ((x % 128 ^ (k + 1) : Nat) : Int)) := HOR
      have HD2 : Hid (bs.drop (i + (k + 1)) = Lib.uvarint (y / 128) ++ rest) := drop_next hu
      have HL : Hid ((Lib.uvarint x).length = k + 1 + (Lib.uvarint (y / 128)).length) := by
        have := HLK.out; rw [Lib.uvarint_big hbig, List.length_cons] at this; show _ = _; omega
      have HY2 : Hid (y / 128 = x / 128 ^ (k + 1)) := by show _ = _; rw [div_next, ← HY.out]
      have hlt' : (i : Int) + (k : Int) < (n : Int) := by omega
      have hk8 : k < 9 := by
        rcases Nat.lt_or_ge k 9 with h | h
        · exact h
        · have := hy9 (by omega); omega
      have hb9 : ((k : Int) == 9) = false := by simp; omega
      clear HOR hu ek
      go_wp2
      go_quiet (fail)
      go_wp2
      go_quiet (fail)
      go_wp2
      go_roundw
      case rel =>
        refine ⟨k + 1, y / 128, by go_num, ?_, HY2.out, HD2.out, HL.out, by intro _; omega, ?_, ?_⟩
        · rw [← HORh.out]; congr 1
        · exact (hr1.drewN _).setI' (i + (k + 1)) _ (by omega)
        · exact (hkp.drewN _).setCell (p := ⟨rb, 1, none⟩) (fun _ => rfl) _
      case measure => simp [intOf]; omega

end Go.Proofs.Qxb6613770a
