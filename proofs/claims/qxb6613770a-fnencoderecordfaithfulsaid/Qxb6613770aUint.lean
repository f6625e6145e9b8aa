import Derived.Test.Qxb6613770aRows
import Derived.Test.Qxb6613770aFrame
import Derived.WalkKit
import Derived.WalkSpells
import Derived.WalkLawsBesides
import Derived.Lib.Walk
import Derived.Lib.Slices
import Derived.Deep.RegionWith
import Derived.Deep.QuietTactic
import Derived.BigQuiet
import Derived.BigRegion
import Derived.ChangeAlike
namespace Go.Proofs.Qxb6613770a
set_option linter.unusedVariables false
set_option linter.unusedSimpArgs false
open Go.RowKit

theorem info5 : (Try.prog.info? 5).map (fun i => (i.zero, i.size, i.bytes)) = some (some (.int .u8 0), 1, 1) := by kernel_rfl

set_option maxHeartbeats 2000000 in
set_option maxRecDepth 100000 in
/-- binary.AppendUvarint onto a slice that the call owns. -/
theorem au_any (x : Nat) (hx : x < 18446744073709551616) (sv : Value) (n : Nat) (xs : List Value) (w : World) (hown : w.ownsRow 0 5 1 sv n xs) (hlim : n + 10 ≤ 140737488355328) :
    Calls Try.prog 54 #[sv, .int .u64 x] w fun e w' => ∃ v', e = .returned v' ∧ w'.ownsRow 0 5 1 v' (n + (Lib.uvarint x).length) (xs ++ Lib.byteCells (Lib.uvarint x)) ∧ Push sv w v' w' := by
  obtain ⟨i0, hi, hz0, hz1, hz2⟩ := info_parts info5
  have hlen := Lib.uvarint_length64 hx
  go_enter Try.func54, Try.ntmps54
  go_wp2
  go_loopw [0, 1] (fun vb vx wr => ∃ (y : Nat) (pre : List UInt8), vx = .int .u64 y ∧ y ≤ x ∧ Lib.uvarint x = pre ++ Lib.uvarint y ∧ wr.ownsRow 0 5 1 vb (n + pre.length) (xs ++ Lib.byteCells pre) ∧ Push sv w vb wr)
    (fun _ vx _ => (intOf vx).toNat)
  case atStart => exact ⟨x, [], rfl, Nat.le_refl _, rfl, by simpa [Lib.byteCells] using hown, Push.refl _ _⟩
  case round =>
    obtain ⟨y, pre, rfl, hy, hsplit, hown1, hnx⟩ := hrel
    have hpl : pre.length + (Lib.uvarint y).length ≤ 10 := by
      have h2 := congrArg List.length hsplit
      rw [List.length_append] at h2
      omega
    have hyp := Lib.uvarint_pos y
    by_cases h128 : 128 ≤ y
    · have hor : bits .or .u8 ((y : Int) % 256) 128 = ((y % 128 + 128 : Nat) : Int) := by
        rw [Lib.u8_or128_any _ (by omega) (by omega)]
        omega
      go_wp2_with (at_builtin; refine wpList_append_bytes rfl _ _ 35 35 rfl 5 i0 Try.underlying35 hi hz0 hz1 hz2 _ _ _ rfl (hown1.alloc _) _ 1 [Value.int .u8 ((y % 128 + 128 : Nat) : Int)] rfl (Src.ofSlice _ Try.underlying35 ⟨wr.heap.size, 0, none⟩ 1 1 _ rfl ?c1 ?c2) ?c3 ?_)
      case c1 =>
        intro j u hj
        match j, hj with
        | 0, hj => simp at hj; subst hj; simp [Addr.add]
      case c2 => intro u hu; simp at hu; subst hu; rfl
      case c3 => omega
      intro v' w1 hown' hgrow
      have hnx1 : Push sv w v' w1 := (hnx.alloc _).trans hgrow
      go_wp2
      go_roundw
      case rel =>
        refine ⟨y / 128, pre ++ [(y % 128 + 128).toUInt8], by go_num, by omega, by rw [hsplit, Lib.uvarint_big h128]; simp, ?_, hnx1⟩
        have ec : ((y % 128 + 128 : Nat) : Int) = (y : Int) % 128 + 128 := by omega
        rw [Lib.byteCells_snoc pre (by omega), List.length_append, List.length_singleton, ← Nat.add_assoc, ec]
        exact hown'
      case measure => simp [intOf]; omega
    · have hsm : Lib.uvarint y = [y.toUInt8] := Lib.uvarint_small (by omega)
      go_wp2_with (at_builtin; refine wpList_append_bytes rfl _ _ 35 35 rfl 5 i0 Try.underlying35 hi hz0 hz1 hz2 _ _ _ rfl (hown1.alloc _) _ 1 [Value.int .u8 (y : Int)] rfl (Src.ofSlice _ Try.underlying35 ⟨wr.heap.size, 0, none⟩ 1 1 _ rfl ?c1 ?c2) ?c3 ?_)
      case c1 =>
        intro j u hj
        match j, hj with
        | 0, hj => simp at hj; subst hj; simp [Addr.add]
      case c2 => intro u hu; simp at hu; subst hu; rfl
      case c3 => omega
      intro v' w1 hown' hgrow
      have hnx1 : Push sv w v' w1 := (hnx.alloc _).trans hgrow
      go_wp2
      go_ret
      refine ⟨v', rfl, ?_, hnx1⟩
      rw [hsplit, hsm, Lib.byteCells_snoc pre (by omega), List.length_append, List.length_singleton, ← Nat.add_assoc]
      exact hown'

/-- An encoder lies in block eb; its buffer sv holds the bytes bs, in a row of its own. -/
structure EncAt (w : World) (eb : Nat) (sv : Value) (bs : List UInt8) : Prop where
  block : w.heap[eb]? = some (.cells #[sv] 102 (0, 0))
  own : w.ownsRow 0 5 1 sv bs.length (Lib.byteCells bs)
  apart : sv.ownBlock ≠ some eb

/-- From (sv, w) to (sv', w'): only the encoder's own block and its row have been written. -/
structure Moved (eb : Nat) (sv : Value) (w : World) (sv' : Value) (w' : World) : Prop where
  kept : Kept (fun k => k = eb ∨ sv.ownBlock = some k) w w'
  row : ∀ k, sv'.ownBlock = some k → sv.ownBlock = some k ∨ w.heap.size ≤ k

theorem Moved.refl (eb : Nat) (sv : Value) (w : World) : Moved eb sv w sv w := ⟨Kept.refl _ _, fun _ h => .inl h⟩
theorem Moved.trans {eb : Nat} {sv sv1 sv2 : Value} {w w1 w2 : World} (h : Moved eb sv w sv1 w1) (k : Moved eb sv1 w1 sv2 w2) : Moved eb sv w sv2 w2 := by
  refine ⟨h.kept.trans k.kept (fun i hi e => ?_), fun i e => ?_⟩
  · rcases e with e | e
    · exact .inl e
    · rcases h.row i e with h1 | h1
      · exact .inr h1
      · omega
  · rcases k.row i e with h1 | h1
    · exact h.row i h1
    · exact .inr (Nat.le_trans h.kept.size h1)
theorem Moved.drew {eb : Nat} {sv sv1 : Value} {w w1 : World} (h : Moved eb sv w sv1 w1) : Moved eb sv w sv1 w1.drew := ⟨h.kept.drew, h.row⟩
theorem Moved.drewN {eb : Nat} {sv sv1 : Value} {w w1 : World} (h : Moved eb sv w sv1 w1) (n : Nat) : Moved eb sv w sv1 (w1.drewN n) := ⟨h.kept.drewN n, h.row⟩
theorem Moved.alloc {eb : Nat} {sv sv1 : Value} {w w1 : World} (h : Moved eb sv w sv1 w1) (o : Obj) : Moved eb sv w sv1 (w1.alloc o) := ⟨h.kept.alloc o, h.row⟩
theorem Push.moved {eb : Nat} {sv sv1 : Value} {w w1 : World} (h : Push sv w sv1 w1) : Moved eb sv w sv1 w1 := ⟨h.kept.mono (fun _ _ e => .inr e), h.row⟩

theorem EncAt.cell {w : World} {eb : Nat} {sv : Value} {bs : List UInt8} (h : EncAt w eb sv bs) : w.cell? ⟨eb, 0, none⟩ = some sv := by
  rw [cell_of_row w eb 0 _ _ _ h.block]; rfl
theorem EncAt.frozen {w : World} {eb : Nat} {sv : Value} {bs : List UInt8} (h : EncAt w eb sv bs) : w.frozen? ⟨eb, 0, none⟩ = false := frozen_of_row w eb 0 _ _ h.block
theorem EncAt.lt {w : World} {eb : Nat} {sv : Value} {bs : List UInt8} (h : EncAt w eb sv bs) : eb < w.heap.size := (Array.getElem?_eq_some_iff.1 h.block).1

theorem EncAt.drew {w : World} {eb : Nat} {sv : Value} {bs : List UInt8} (h : EncAt w eb sv bs) : EncAt w.drew eb sv bs := ⟨h.block, h.own, h.apart⟩
theorem EncAt.drewN {w : World} {eb : Nat} {sv : Value} {bs : List UInt8} (h : EncAt w eb sv bs) (n : Nat) : EncAt (w.drewN n) eb sv bs := ⟨h.block, h.own, h.apart⟩
theorem EncAt.alloc {w : World} {eb : Nat} {sv : Value} {bs : List UInt8} (h : EncAt w eb sv bs) (o : Obj) : EncAt (w.alloc o) eb sv bs :=
  ⟨by rw [Below.heap_alloc w o eb h.lt]; exact h.block, h.own.alloc o, h.apart⟩
theorem EncAt.kept {S : Nat → Prop} {w w' : World} {eb : Nat} {sv : Value} {bs : List UInt8} (h : EncAt w eb sv bs) (hk : Kept S w w') (h1 : ¬ S eb) (h2 : ∀ k, sv.ownBlock = some k → ¬ S k) : EncAt w' eb sv bs :=
  ⟨by rw [hk.block eb h.lt h1]; exact h.block, hk.owns h.own h2, h.apart⟩

/-- The store of the new buffer into the encoder. -/
theorem enc_store {w w1 : World} {eb : Nat} {sv v' : Value} {bs more : List UInt8} (h : EncAt w eb sv bs) (hown : w1.ownsRow 0 5 1 v' (bs.length + more.length) (Lib.byteCells bs ++ Lib.byteCells more)) (hp : Push sv w v' w1) :
    EncAt (w1.setCell ⟨eb, 0, none⟩ v') eb v' (bs ++ more) ∧ Moved eb sv w v' (w1.setCell ⟨eb, 0, none⟩ v') := by
  have hb : w1.heap[eb]? = some (.cells #[sv] 102 (0, 0)) := by rw [hp.kept.block eb h.lt h.apart]; exact h.block
  have hap : v'.ownBlock ≠ some eb := by
    intro e
    rcases hp.row eb e with h1 | h1
    · exact h.apart h1
    · have := h.lt; omega
  refine ⟨⟨?_, ?_, hap⟩, ⟨?_, hp.row⟩⟩
  · simp [World.setCell, Array.getElem?_modify, hb]
  · have hk : Kept (fun k => k = eb) w1 (w1.setCell ⟨eb, 0, none⟩ v') := (Kept.refl (fun k => k = eb) _).setCell (p := ⟨eb, 0, none⟩) (fun _ => rfl) _
    have := hk.owns hown (fun k hk e => hap (by rw [hk, e]))
    rw [List.length_append, Lib.byteCells_append]
    exact this
  · exact (hp.kept.mono (fun _ _ e => .inr e)).setCell (fun _ => .inl rfl) _

/-- What the store behind an append wants to know. -/
theorem push_cells {w w1 : World} {eb : Nat} {sv v' : Value} {bs : List UInt8} (h : EncAt w eb sv bs) (hp : Push sv w v' w1) : w1.cell? ⟨eb, 0, none⟩ = some sv ∧ w1.frozen? ⟨eb, 0, none⟩ = false := by
  have hb : w1.heap[eb]? = some (.cells #[sv] 102 (0, 0)) := by rw [hp.kept.block eb h.lt h.apart]; exact h.block
  exact ⟨by rw [cell_of_row w1 eb 0 _ _ _ hb]; rfl, frozen_of_row w1 eb 0 _ _ hb⟩

/-- What is owned is a slice. -/
theorem owns_slice {w : World} {base : Nat} {e : TypeId} {size : Nat} {v : Value} {n : Nat} {xs : List Value} (h : w.ownsRow base e size v n xs) : ∃ a c, v = .slice a n c := by
  rcases h.2 with ⟨rfl, rfl⟩ | ⟨g, cap, cur, rfl, _⟩
  · exact ⟨_, _, rfl⟩
  · exact ⟨_, _, rfl⟩

set_option maxHeartbeats 2000000 in
set_option maxRecDepth 100000 in
/-- encoder.uint. -/
theorem uint_any (eb vb vo : Nat) (x : Nat) (hx : x < 18446744073709551616) (sv : Value) (bs : List UInt8) (w : World) (he : EncAt w eb sv bs) (hv : w.cell? ⟨vb, vo, none⟩ = some (.int .u64 x)) (hlim : bs.length + 10 ≤ 140737488355328) :
    Calls Try.prog 52 #[.pointer (some ⟨eb, 0, none⟩), .pointer (some ⟨vb, vo, none⟩)] w fun e w' => e = .returned (.tuple #[]) ∧ ∃ sv', EncAt w' eb sv' (bs ++ Lib.uvarint x) ∧ Moved eb sv w sv' w' := by
  have hc := he.cell
  go_enter Try.func52, Try.ntmps52
  go_wp2
  go_region_with (go_at_call 54; refine (au_any x hx sv bs.length (Lib.byteCells bs) _ ?_ hlim).mono ?_; exact he.own; rintro e w' ⟨v', rfl, h1, h2⟩; obtain ⟨c1, f1⟩ := push_cells he.drew h2; obtain ⟨a', k', rfl⟩ := owns_slice h1)
  all_goals (go_end0; obtain ⟨q1, q2⟩ := enc_store he.drew h1 h2; exact ⟨rfl, _, q1, ((Moved.refl eb sv w).drew).trans q2⟩)

set_option maxRecDepth 100000 in
/-- ZZencoderUint. -/
theorem zuint_any (eb vb vo : Nat) (x : Nat) (hx : x < 18446744073709551616) (sv : Value) (bs : List UInt8) (w : World) (he : EncAt w eb sv bs) (hv : w.cell? ⟨vb, vo, none⟩ = some (.int .u64 x)) (hlim : bs.length + 10 ≤ 140737488355328) :
    Calls Try.prog 35 #[.pointer (some ⟨eb, 0, none⟩), .pointer (some ⟨vb, vo, none⟩)] w fun e w' => e = .returned (.tuple #[]) ∧ ∃ sv', EncAt w' eb sv' (bs ++ Lib.uvarint x) ∧ Moved eb sv w sv' w' := by
  go_enter Try.func35, Try.ntmps35
  go_wp2_with (go_at_call 52; refine (uint_any eb vb vo x hx sv bs _ he hv hlim).mono ?_; rintro e w' ⟨rfl, hq⟩)
  go_end0
  exact ⟨rfl, hq⟩

/-- A slice at address a (nil where it is empty, maybe) shows the bytes bs. -/
def BytesAt (w : World) (a : Option Addr) (bs : List UInt8) : Prop :=
  bs = [] ∨ ∃ b off, a = some ⟨b, off, none⟩ ∧ ∀ j (hj : j < bs.length), w.cell? ⟨b, off + j, none⟩ = some (.int .u8 (bs[j]).toNat)

theorem BytesAt.drewN {w : World} {a : Option Addr} {bs : List UInt8} (h : BytesAt w a bs) (n : Nat) : BytesAt (w.drewN n) a bs := h
theorem BytesAt.drew {w : World} {a : Option Addr} {bs : List UInt8} (h : BytesAt w a bs) : BytesAt w.drew a bs := h

theorem ret_bool {a b : Bool} (h : a = b) : Ending.returned (.bool a) = .returned (.bool b) := by rw [h]

theorem u8_ne {x y : UInt8} (h : x ≠ y) : ((x.toNat : Int) != (y.toNat : Int)) = true := by
  rw [bne_iff_ne]; intro e; exact h (UInt8.toNat_inj.1 (by omega))

theorem take_eq_succ {xs ys : List UInt8} {k : Nat} (hx : k < xs.length) (hy : k < ys.length) (h : xs.take k = ys.take k) (he : xs[k] = ys[k]) : xs.take (k + 1) = ys.take (k + 1) := by
  rw [List.take_succ_eq_append_getElem hx, List.take_succ_eq_append_getElem hy, h, he]

set_option maxHeartbeats 2000000 in
set_option maxRecDepth 100000 in
/-- zzSameBytes. -/
theorem same_draws (a0 a1 : Option Addr) (n0 n1 c0 c1 : Nat) (xs ys : List UInt8) (w : World) (h0 : BytesAt w a0 xs) (h1 : BytesAt w a1 ys) (hx : xs.length = n0) (hy : ys.length = n1) (hl0 : n0 ≤ maxLen) (hl1 : n1 ≤ maxLen) :
    Calls Try.prog 21 #[.slice a0 n0 c0, .slice a1 n1 c1] w fun e w' => e = .returned (.bool (xs == ys)) ∧ ∃ nq, w' = w.drewN nq := by
  unfold maxLen at hl0 hl1
  by_cases hl : n0 = n1
  · subst hl
    have hb : ((n0 : Int) != (n0 : Int)) = false := by simp
    by_cases hz : n0 = 0
    · have e : (xs == ys) = true := by
        have e1 : xs = [] := List.eq_nil_of_length_eq_zero (by omega)
        have e2 : ys = [] := List.eq_nil_of_length_eq_zero (by omega)
        rw [e1, e2]; rfl
      rw [e]
      clear hx hy h0 h1
      subst hz
      go_enter Try.func21, Try.ntmps21
      go_wp2
      go_loopw [5] (fun i wr => i = .int .i64 0 ∧ wr = w) (fun _ _ => 0)
      case atStart => exact ⟨rfl, rfl⟩
      case round =>
        obtain ⟨rfl, rfl⟩ := hrel
        go_wp2
        go_ret
        exact ⟨rfl, 0, rfl⟩
    · rcases h0 with h0 | ⟨b0, o0, rfl, g0⟩
      · subst h0; exact absurd hx.symm hz
      rcases h1 with h1 | ⟨b1, o1, rfl, g1⟩
      · subst h1; exact absurd hy.symm hz
      have HX : Hid (xs.length = n0) := hx
      have HY : Hid (ys.length = n0) := hy
      have F : Hid ((∀ k (hk : k < xs.length), w.cell? ⟨b0, o0 + k, none⟩ = some (.int .u8 (xs[k]).toNat)) ∧ (∀ k (hk : k < ys.length), w.cell? ⟨b1, o1 + k, none⟩ = some (.int .u8 (ys[k]).toNat))) := ⟨g0, g1⟩
      clear g0 g1 hx hy
      go_enter Try.func21, Try.ntmps21
      go_wp2
      go_loopw [5] (fun i wr => ∃ k : Nat, k ≤ n0 ∧ i = .int .i64 k ∧ xs.take k = ys.take k ∧ ∃ nq, wr = w.drewN nq) (fun i _ => n0 - (intOf i).toNat)
      case atStart => exact ⟨0, Nat.zero_le _, rfl, by simp, 0, rfl⟩
      case round =>
        obtain ⟨k, hk, rfl, htk, nq, rfl⟩ := hrel
        have HT : Hid (xs.take k = ys.take k) := htk
        clear htk
        by_cases hlt : k < n0
        · have hxk : k < xs.length := by rw [HX.out]; exact hlt
          have hyk : k < ys.length := by rw [HY.out]; exact hlt
          have c0' := F.out.1 k hxk
          have c1' := F.out.2 k hyk
          have hlt' : (k : Int) < (n0 : Int) := by omega
          by_cases he : xs[k] = ys[k]
          · have HS : Hid (xs.take (k + 1) = ys.take (k + 1)) := take_eq_succ hxk hyk HT.out he
            rw [he] at c0'
            clear he
            go_wp2
            go_quiet (fail)
            go_wp2
            go_roundw
            case rel => exact ⟨k + 1, by omega, by go_num, HS.out, _, rfl⟩
            case measure => simp [intOf]; omega
          · have hne := u8_ne he
            have HR : Hid ((xs == ys) = false) := by
              show (xs == ys) = false
              rw [beq_eq_false_iff_ne]; intro e; subst e; exact he rfl
            go_wp2
            go_quiet (fail)
            go_wp2
            go_ret
            exact ⟨ret_bool HR.out.symm, _, World.drewN_drewN _ _ _⟩
        · have HR : Hid ((xs == ys) = true) := by
            show (xs == ys) = true
            have h := HT.out
            rw [List.take_of_length_le (by rw [HX.out]; omega), List.take_of_length_le (by rw [HY.out]; omega)] at h
            rw [h]; simp
          go_wp2
          go_ret
          exact ⟨ret_bool HR.out.symm, _, rfl⟩
  · have hb : ((n0 : Int) != (n1 : Int)) = true := by simp; omega
    have hne : (xs == ys) = false := by
      rw [beq_eq_false_iff_ne]; intro e; exact hl (by rw [← hx, ← hy, e])
    rw [hne]
    clear hx hy
    go_enter Try.func21, Try.ntmps21
    go_wp2
    go_ret
    exact ⟨rfl, 0, rfl⟩

theorem same_any (a0 a1 : Option Addr) (n0 n1 c0 c1 : Nat) (xs ys : List UInt8) (w : World) (h0 : BytesAt w a0 xs) (h1 : BytesAt w a1 ys) (hx : xs.length = n0) (hy : ys.length = n1) (hl0 : n0 ≤ maxLen) (hl1 : n1 ≤ maxLen) :
    Calls Try.prog 21 #[.slice a0 n0 c0, .slice a1 n1 c1] w fun e w' => e = .returned (.bool (xs == ys)) ∧ Same w w' :=
  (same_draws a0 a1 n0 n1 c0 c1 xs ys w h0 h1 hx hy hl0 hl1).mono fun e w' ⟨he, hw⟩ => ⟨he, Same.ofDraws hw⟩

theorem BytesAt.same {w w' : World} {a : Option Addr} {bs : List UInt8} (h : BytesAt w a bs) (hs : Same w w') : BytesAt w' a bs := by
  rcases h with h | ⟨b, off, rfl, g⟩
  · exact .inl h
  · exact .inr ⟨b, off, rfl, fun j hj => by rw [hs.cell]; exact g j hj⟩

end Go.Proofs.Qxb6613770a
