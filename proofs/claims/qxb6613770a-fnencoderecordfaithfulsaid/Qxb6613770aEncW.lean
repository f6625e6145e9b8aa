import Derived.Test.Qxb6613770aEnc
namespace Go.Proofs.Qxb6613770a
set_option linter.unusedVariables false
set_option linter.unusedSimpArgs false
open Go.RowKit

/-! ### The names of the methods, read off the program's own text -/
def opNames (o : Oper) : List String :=
  match o.op with
  | .makeFunc (.method nm) _ _ => [nm]
  | .call c => (match c.callee with | .invoke _ nm => [nm] | _ => [])
  | _ => []
def codeNames : Code → List String
  | .region _ ops _ => ops.toList.flatMap opNames
  | .seq a b => codeNames a ++ codeNames b
  | .block _ c => codeNames c
  | .cond _ a b => codeNames a ++ codeNames b
  | .loop c => codeNames c
  | _ => []
def nameAt (f : Func) (i : Nat) : String := ((f.body.map codeNames).getD []).getD i ""

theorem nil_uint (a : Addr) (w : World) : (nilAhead 253 79 (.pointer (some a)) (nameAt Try.f55 0)).run Try.prog w = .ok (some false) w := by kernel_rfl
theorem nil_node (a : Addr) (w : World) : (nilAhead 253 79 (.pointer (some a)) (nameAt Try.f55 2)).run Try.prog w = .ok (some false) w := by kernel_rfl
theorem met_uint (a : Addr) (w : World) : (method 253 79 (.pointer (some a)) (nameAt Try.f55 0)).run Try.prog w = .ok (52, .pointer (some a)) w := by kernel_rfl
theorem met_node (a : Addr) (w : World) : (method 253 79 (.pointer (some a)) (nameAt Try.f55 2)).run Try.prog w = .ok (84, .pointer (some a)) w := by kernel_rfl

theorem Moved.away {eb vb : Nat} {sv sv' : Value} {w w' : World} (h : Moved eb sv w sv' w') (hvb : vb < w.heap.size) (hvr : sv.ownBlock ≠ some vb) : sv'.ownBlock ≠ some vb := by
  intro e
  rcases h.row vb e with h1 | h1
  · exact hvr h1
  · omega

theorem Moved.fromDrew {eb : Nat} {sv sv' : Value} {w w' : World} (h : Moved eb sv w.drew sv' w') : Moved eb sv w sv' w' := ((Moved.refl eb sv w).drew).trans h

set_option maxHeartbeats 2000000 in
set_option maxRecDepth 100000 in
/-- Ballot.walk. -/
theorem ballot_any (eb vb vo : Nat) (r : Nat) (hr : r < 18446744073709551616) (s : ByteArray) (hs : s.size ≤ 140737488355328) (sv : Value) (bs : List UInt8) (w : World) (he : EncAt w eb sv bs) (hv : w.cell? ⟨vb, vo, none⟩ = some (.int .u64 r)) (hv1 : w.cell? ⟨vb, vo + 1, none⟩ = some (.string s)) (hve : vb ≠ eb) (hvr : sv.ownBlock ≠ some vb) (hlim : bs.length + 20 + s.size ≤ 140737488355328) :
    Calls Try.prog 55 #[.pointer (some ⟨vb, vo, none⟩), .iface 79 (.pointer (some ⟨eb, 0, none⟩))] w fun e w' => e = .returned (.tuple #[]) ∧ ∃ sv', EncAt w' eb sv' (bs ++ encBallot r s.data.toList) ∧ Moved eb sv w sv' w' := by
  have n1 := nil_uint ⟨eb, 0, none⟩
  have n2 := met_uint ⟨eb, 0, none⟩
  have n3 := nil_node ⟨eb, 0, none⟩
  have n4 := met_node ⟨eb, 0, none⟩
  conv at n1 in (nameAt _ _) => whnf
  conv at n2 in (nameAt _ _) => whnf
  conv at n3 in (nameAt _ _) => whnf
  conv at n4 in (nameAt _ _) => whnf
  have hvb : vb < w.heap.size := World.block_lt_of_cell? w _ hv
  have hul := Lib.uvarint_length64 hr
  go_enter Try.func55, Try.ntmps55
  go_wp2
  go_region_with (go_at_call 52; refine (uint_any eb vb vo r hr sv bs _ he.drew hv (by omega)).mono ?_; rintro e w1 ⟨rfl, sv1, h1, h2⟩)
  have hv1' := h2.fromDrew.cell hv1 hve hvr
  have hvr1 := h2.fromDrew.away hvb hvr
  have hl1 : (bs ++ Lib.uvarint r).length + 10 + s.size ≤ 140737488355328 := by rw [List.length_append]; omega
  have hm1 := h2.fromDrew
  clear h2
  go_wp2
  go_region_with (go_at_call 84; refine (node_any eb vb (vo + 1) s hs sv1 (bs ++ Lib.uvarint r) _ h1.drew hv1' hve hvr1 hl1).mono ?_; rintro e w2 ⟨rfl, sv2, h3, h4⟩)
  go_end0
  refine ⟨rfl, sv2, ?_, hm1.trans h4.fromDrew⟩
  unfold encBallot
  rw [← List.append_assoc]
  exact h3

end Go.Proofs.Qxb6613770a
