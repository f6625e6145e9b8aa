/-
  No cell of these rows narrows 'for every input' (looked for: loops, veiled, ifaces, maps, wideKeys, modest, calm, conditions, laid).
  DERIVED. THE GIVEN ROWS OF THIS SEAT. 3 by the template 'for every input the law returns true; each argument reads behind the call as it read before'; 0 by the template 'total and deterministic' (their statements: Qxb6612812aTotals.lean).
  GIVEN WITH THE SEED: the statements are not yours to turn. If you find one false, say at which input.
  Laid BY PROGRAM, IN A SANDBOX (cutbox-rows.mjs): the forced cells as the released guide's own fill.sh prints them over the translation f5d8838c5761dd3a… (all of the seat's roots in one cut). By AI agents, Wed Nov 11 2026. No macro, syntax, notation, axiom, sorry.
-/
import Derived.Test.Qxb6612812aChecked
import GoSem.Claim
import GoSem.ClaimJoined
import GoSem.ClaimMapViews
import Derived.JoinedTies
import Derived.KernelRfl
namespace Go.Proofs.Qxb6612812a
/- THE CELL 'sum', in the pinned program and in every row, IS THE sha256 OF THE DUMP (.gsa) THAT Qxb6612812aProg.lean LOADS. Nothing in Lean hashes anything: it is a label: what it is worth is what the hold of that sum in a sandbox is worth. -/
noncomputable def Try.pinned : Pinned := { name := "qxb6612812a", sum := "f5d8838c5761dd3a350e7b8cbcd48b2ee8caf0e55a8f5b943e2f1242387b122b", checked := Try.checked }
namespace Rows
def none {H : Type} : Left H := { results := [], args := [] }

/-- 'zzlaws_root_b1.FnBandwidthSplitPieceLandsWithWhole': WHATEVER THE INPUT: true; the input reads as it did. -/
def fnBandwidthSplitPieceLandsWithWholeSpec : ChangeSpec := { name := "fnBandwidthSplitPieceLandsWithWhole", fn := fun _ => fun
  | [d1, d2, d3, d4, d5] => { results := [.lit (.bool true)], args := [d1, d2, d3, d4, d5] }
  | _ => none }
def fnBandwidthSplitPieceLandsWithWholeRow : OpenClaim := { program := "qxb6612812a", sum := "f5d8838c5761dd3a350e7b8cbcd48b2ee8caf0e55a8f5b943e2f1242387b122b", func := "example.com/chokewire/chokewire/zzlaws_root_b1.FnBandwidthSplitPieceLandsWithWhole", spec := "fnBandwidthSplitPieceLandsWithWhole", apart := false }
def FnBandwidthSplitPieceLandsWithWholeSaid : Prop := fnBandwidthSplitPieceLandsWithWholeRow.holds Try.pinned (OpenSpec.ofChange fnBandwidthSplitPieceLandsWithWholeSpec)

/-- ITS FALSE NEIGHBOUR: 'it returns false'. Refute it at one input. -/
def fnBandwidthSplitPieceLandsWithWholeWrong : ChangeSpec := { name := "fnBandwidthSplitPieceLandsWithWhole", fn := fun _ => fun
  | [d1, d2, d3, d4, d5] => { results := [.lit (.bool false)], args := [d1, d2, d3, d4, d5] }
  | _ => none }
def FnBandwidthSplitPieceLandsWithWholeWrongFalsely : Prop := fnBandwidthSplitPieceLandsWithWholeRow.holds Try.pinned (OpenSpec.ofChange fnBandwidthSplitPieceLandsWithWholeWrong)

/-- 'zzlaws_root_b1.FnBandwidthNextPieceWaitsForLinkNotForIdle': WHATEVER THE INPUT: true; the input reads as it did. -/
def fnBandwidthNextPieceWaitsForLinkNotForIdleSpec : ChangeSpec := { name := "fnBandwidthNextPieceWaitsForLinkNotForIdle", fn := fun _ => fun
  | [d1, d2, d3, d4, d5, d6] => { results := [.lit (.bool true)], args := [d1, d2, d3, d4, d5, d6] }
  | _ => none }
def fnBandwidthNextPieceWaitsForLinkNotForIdleRow : OpenClaim := { program := "qxb6612812a", sum := "f5d8838c5761dd3a350e7b8cbcd48b2ee8caf0e55a8f5b943e2f1242387b122b", func := "example.com/chokewire/chokewire/zzlaws_root_b1.FnBandwidthNextPieceWaitsForLinkNotForIdle", spec := "fnBandwidthNextPieceWaitsForLinkNotForIdle", apart := false }
def FnBandwidthNextPieceWaitsForLinkNotForIdleSaid : Prop := fnBandwidthNextPieceWaitsForLinkNotForIdleRow.holds Try.pinned (OpenSpec.ofChange fnBandwidthNextPieceWaitsForLinkNotForIdleSpec)

/-- ITS FALSE NEIGHBOUR: 'it returns false'. Refute it at one input. -/
def fnBandwidthNextPieceWaitsForLinkNotForIdleWrong : ChangeSpec := { name := "fnBandwidthNextPieceWaitsForLinkNotForIdle", fn := fun _ => fun
  | [d1, d2, d3, d4, d5, d6] => { results := [.lit (.bool false)], args := [d1, d2, d3, d4, d5, d6] }
  | _ => none }
def FnBandwidthNextPieceWaitsForLinkNotForIdleWrongFalsely : Prop := fnBandwidthNextPieceWaitsForLinkNotForIdleRow.holds Try.pinned (OpenSpec.ofChange fnBandwidthNextPieceWaitsForLinkNotForIdleWrong)

/-- 'zzlaws_root_b1.FnLimitDataDeliversExactlyBytesThenCloses': WHATEVER THE INPUT: true; the input reads as it did. -/
def fnLimitDataDeliversExactlyBytesThenClosesSpec : ChangeSpec := { name := "fnLimitDataDeliversExactlyBytesThenCloses", fn := fun _ => fun
  | [d1, d2, d3] => { results := [.lit (.bool true)], args := [d1, d2, d3] }
  | _ => none }
def fnLimitDataDeliversExactlyBytesThenClosesRow : OpenClaim := { program := "qxb6612812a", sum := "f5d8838c5761dd3a350e7b8cbcd48b2ee8caf0e55a8f5b943e2f1242387b122b", func := "example.com/chokewire/chokewire/zzlaws_root_b1.FnLimitDataDeliversExactlyBytesThenCloses", spec := "fnLimitDataDeliversExactlyBytesThenCloses", apart := false }
def FnLimitDataDeliversExactlyBytesThenClosesSaid : Prop := fnLimitDataDeliversExactlyBytesThenClosesRow.holds Try.pinned (OpenSpec.ofChange fnLimitDataDeliversExactlyBytesThenClosesSpec)

/-- ITS FALSE NEIGHBOUR: 'it returns false'. Refute it at one input. -/
def fnLimitDataDeliversExactlyBytesThenClosesWrong : ChangeSpec := { name := "fnLimitDataDeliversExactlyBytesThenCloses", fn := fun _ => fun
  | [d1, d2, d3] => { results := [.lit (.bool false)], args := [d1, d2, d3] }
  | _ => none }
def FnLimitDataDeliversExactlyBytesThenClosesWrongFalsely : Prop := fnLimitDataDeliversExactlyBytesThenClosesRow.holds Try.pinned (OpenSpec.ofChange fnLimitDataDeliversExactlyBytesThenClosesWrong)

end Rows
end Go.Proofs.Qxb6612812a
