import Derived.Test.Qxb6613770aULen
import Derived.Deep.RegionHeld3
import Derived.Deep.RegionLaw
namespace Go.Proofs.Qxb6613770a
set_option linter.unusedVariables false
set_option linter.unusedSimpArgs false
open Go.RowKit

def encStr (s : List UInt8) : List UInt8 := Lib.uvarint s.length ++ s
def encB (b : Bool) : List UInt8 := Lib.uvarint (if b then 1 else 0)
def encBallot (r : Nat) (s : List UInt8) : List UInt8 := Lib.uvarint r ++ encStr s

theorem Moved.cell {eb : Nat} {sv sv' : Value} {w w' : World} (h : Moved eb sv w sv' w') {p : Addr} {v : Value} (hv : w.cell? p = some v) (h1 : p.block ≠ eb) (h2 : sv.ownBlock ≠ some p.block) : w'.cell? p = some v :=
  h.kept.cell' hv (fun e => by rcases e with e | e; exact h1 e; exact h2 e)

set_option maxHeartbeats 2000000 in
set_option maxRecDepth 100000 in
/-- encoder.bool. -/
theorem bool_any (eb vb vo : Nat) (b : Bool) (sv : Value) (bs : List UInt8) (w : World) (he : EncAt w eb sv bs) (hv : w.cell? ⟨vb, vo, none⟩ = some (.bool b)) (hlim : bs.length + 10 ≤ 140737488355328) :
    Calls Try.prog 81 #[.pointer (some ⟨eb, 0, none⟩), .pointer (some ⟨vb, vo, none⟩)] w fun e w' => e = .returned (.tuple #[]) ∧ ∃ sv', EncAt w' eb sv' (bs ++ encB b) ∧ Moved eb sv w sv' w' := by
  have hlt : vb < w.heap.size := World.block_lt_of_cell? w _ hv
  cases b with
  | false =>
    have hc := he.alloc (.cells #[.int .u64 0] 22)
    go_enter Try.func81, Try.ntmps81
    go_wp2_with fail
    refine (uint_any eb w.heap.size 0 0 (by decide) sv bs _ hc (by simp [go_sem]) hlim).mono ?_
    rintro e w' ⟨rfl, sv', h1, h2⟩
    go_wp2
    go_end0
    exact ⟨rfl, sv', h1, ((Moved.refl eb sv w).alloc _).trans h2⟩
  | true =>
    have hc := he.alloc (.cells #[.int .u64 1] 22)
    go_enter Try.func81, Try.ntmps81
    go_wp2_with fail
    refine (uint_any eb w.heap.size 0 1 (by decide) sv bs _ hc (by simp [go_sem]) hlim).mono ?_
    rintro e w' ⟨rfl, sv', h1, h2⟩
    go_wp2
    go_end0
    exact ⟨rfl, sv', h1, ((Moved.refl eb sv w).alloc _).trans h2⟩

set_option maxRecDepth 100000 in
/-- encoder.present. -/
theorem present_any (eb vb vo : Nat) (b : Bool) (sv : Value) (bs : List UInt8) (w : World) (he : EncAt w eb sv bs) (hv : w.cell? ⟨vb, vo, none⟩ = some (.bool b)) (hlim : bs.length + 10 ≤ 140737488355328) :
    Calls Try.prog 85 #[.pointer (some ⟨eb, 0, none⟩), .pointer (some ⟨vb, vo, none⟩)] w fun e w' => e = .returned (.tuple #[]) ∧ ∃ sv', EncAt w' eb sv' (bs ++ encB b) ∧ Moved eb sv w sv' w' := by
  go_enter Try.func85, Try.ntmps85
  go_wp2_with (go_at_call 81; refine (bool_any eb vb vo b sv bs _ he hv hlim).mono ?_; rintro e w' ⟨rfl, hq⟩)
  go_end0
  exact ⟨rfl, hq⟩

set_option maxHeartbeats 2000000 in
set_option maxRecDepth 100000 in
/-- encoder.count. -/
theorem count_any (eb vb vo : Nat) (n : Nat) (hn : n ≤ maxLen) (fv : Value) (sv : Value) (bs : List UInt8) (w : World) (he : EncAt w eb sv bs) (hv : w.cell? ⟨vb, vo, none⟩ = some (.int .i64 n)) (hlim : bs.length + 10 ≤ 140737488355328) :
    Calls Try.prog 82 #[.pointer (some ⟨eb, 0, none⟩), .pointer (some ⟨vb, vo, none⟩), fv] w fun e w' => e = .returned (.tuple #[]) ∧ ∃ sv', EncAt w' eb sv' (bs ++ Lib.uvarint n) ∧ Moved eb sv w sv' w' := by
  have hc := he.cell
  unfold maxLen at hn
  have hn' : (n : Int) ≤ 9223372036854775807 := by omega
  go_enter Try.func82, Try.ntmps82
  go_wp2
  go_region_with (go_at_call 54; rw [u64_wrap_id (n : Int) (by omega) (by omega)]; refine (au_any n (by omega) sv bs.length (Lib.byteCells bs) _ ?_ hlim).mono ?_; exact he.own; rintro e w' ⟨v', rfl, h1, h2⟩; obtain ⟨c1, f1⟩ := push_cells he.drew h2; obtain ⟨a', k', rfl⟩ := owns_slice h1)
  all_goals (go_end0; obtain ⟨q1, q2⟩ := enc_store he.drew h1 h2; exact ⟨rfl, _, q1, ((Moved.refl eb sv w).drew).trans q2⟩)

theorem strCells_eq (s : ByteArray) : Go.byteCells s = Lib.byteCells s.data.toList := rfl

theorem size_toList (s : ByteArray) : s.data.toList.length = s.size := by rw [Array.length_toList]; rfl

set_option maxHeartbeats 2000000 in
set_option maxRecDepth 100000 in
/-- encoder.node. -/
theorem node_any (eb vb vo : Nat) (s : ByteArray) (hs : s.size ≤ 140737488355328) (sv : Value) (bs : List UInt8) (w : World) (he : EncAt w eb sv bs) (hv : w.cell? ⟨vb, vo, none⟩ = some (.string s)) (hve : vb ≠ eb) (hvr : sv.ownBlock ≠ some vb) (hlim : bs.length + 10 + s.size ≤ 140737488355328) :
    Calls Try.prog 84 #[.pointer (some ⟨eb, 0, none⟩), .pointer (some ⟨vb, vo, none⟩)] w fun e w' => e = .returned (.tuple #[]) ∧ ∃ sv', EncAt w' eb sv' (bs ++ encStr s.data.toList) ∧ Moved eb sv w sv' w' := by
  obtain ⟨i0, hi, hz0, hz1, hz2⟩ := info_parts info5
  have hc := he.cell
  have hs' : (s.size : Int) ≤ 140737488355328 := by omega
  have hul : (Lib.uvarint s.size).length ≤ 10 := Lib.uvarint_length64 (by omega)
  go_enter Try.func84, Try.ntmps84
  go_wp2
  go_region_with (go_at_call 54; rw [u64_wrap_id (s.size : Int) (by omega) (by omega)]; refine (au_any s.size (by omega) sv bs.length (Lib.byteCells bs) _ ?_ (by omega)).mono ?_; exact he.own; rintro e w' ⟨v', rfl, h1, h2⟩; obtain ⟨c1, f1⟩ := push_cells he.drew h2; obtain ⟨a', k', rfl⟩ := owns_slice h1)
  all_goals
    obtain ⟨q1, q2⟩ := enc_store he.drew h1 h2
    have hm1 : Moved eb sv w _ _ := ((Moved.refl eb sv w).drew).trans q2
    have hv1 := hm1.cell hv hve hvr
    have hown1 := q1.own
    rw [List.length_append] at hown1
    generalize hW : w'.setCell ⟨eb, 0, none⟩ _ = W1 at *
    generalize hN : bs.length + (Lib.uvarint s.size).length = N1 at *
    have hcc := q1.cell
    have HN : Hid (bs.length + (Lib.uvarint s.size).length = N1) := hN
    have hN1 : N1 + s.size ≤ 140737488355328 := by omega
    clear hW hN h1 h2 c1 f1 q2 hc hv
    go_wp2
    go_region_law (refine step_append_bytes rfl (.tmp 21) (.tmp 24) 35 9 rfl 5 i0 Try.underlying35 hi hz0 hz1 hz2 (Value.slice a' N1 k') N1 _ (by simp [Act.eval, Act.put]) hown1 (.string s) s.size (Go.byteCells s) (by simp [Act.eval, Act.put]) (Src.ofString _ Try.underlying9 s) hN1 ?_; intro v2 w2 o2 p2; obtain ⟨c2, f2⟩ := push_cells q1.drew p2; obtain ⟨a2, k2, rfl⟩ := owns_slice o2)
    all_goals
      have o2' : w2.ownsRow 0 5 1 (Value.slice a2 (N1 + s.size) k2) ((bs ++ Lib.uvarint s.size).length + s.data.toList.length) (Lib.byteCells (bs ++ Lib.uvarint s.size) ++ Lib.byteCells s.data.toList) := by
        rw [size_toList, List.length_append, HN.out]; exact o2
      obtain ⟨r1, r2⟩ := enc_store q1.drew o2' p2
      go_end0
      refine ⟨rfl, _, ?_, hm1.trans (((Moved.refl eb _ W1).drew).trans r2)⟩
      unfold encStr
      rw [size_toList, ← List.append_assoc]
      exact r1

end Go.Proofs.Qxb6613770a
