/-
  No cell of these rows narrows 'for every input' (looked for: loops, veiled, ifaces, maps, wideKeys, modest, calm, conditions, laid).
  DERIVED. THE GIVEN ROWS OF THIS SEAT. 4 by the template 'for every input the law returns true; each argument reads behind the call as it read before'; 0 by the template 'total and deterministic' (their statements: Qxb6609555aTotals.lean).
  GIVEN WITH THE SEED: the statements are not yours to turn. If you find one false, say at which input.
  Laid BY PROGRAM, IN A SANDBOX (cutbox-rows.mjs): the forced cells as the released guide's own fill.sh prints them over the translation aca14855b115a8a3… (all of the seat's roots in one cut). By AI agents, Wed Nov 11 2026. No macro, syntax, notation, axiom, sorry.
-/
import Derived.Test.Qxb6609555aChecked
import GoSem.Claim
import GoSem.ClaimJoined
import GoSem.ClaimMapViews
import Derived.JoinedTies
import Derived.KernelRfl
namespace Go.Proofs.Qxb6609555a
/- THE CELL 'sum', in the pinned program and in every row, IS THE sha256 OF THE DUMP (.gsa) THAT Qxb6609555aProg.lean LOADS. Nothing in Lean hashes anything: it is a label: what it is worth is what the hold of that sum in a sandbox is worth. -/
noncomputable def Try.pinned : Pinned := { name := "qxb6609555a", sum := "aca14855b115a8a3d1488f5ed3a957696977954d9d5d4ad77ace38401f02fcb9", checked := Try.checked }
namespace Rows
def none {H : Type} : Left H := { results := [], args := [] }

/-- 'zzlaws_root_b1.FnLagsAddRemove': WHATEVER THE INPUT: true; the input reads as it did. -/
def fnLagsAddRemoveSpec : ChangeSpec := { name := "fnLagsAddRemove", fn := fun _ => fun
  | [d1, d2] => { results := [.lit (.bool true)], args := [d1, d2] }
  | _ => none }
def fnLagsAddRemoveRow : OpenClaim := { program := "qxb6609555a", sum := "aca14855b115a8a3d1488f5ed3a957696977954d9d5d4ad77ace38401f02fcb9", func := "example.com/trimtab/trimtab/zzlaws_root_b1.FnLagsAddRemove", spec := "fnLagsAddRemove", apart := false }
def FnLagsAddRemoveSaid : Prop := fnLagsAddRemoveRow.holds Try.pinned (OpenSpec.ofChange fnLagsAddRemoveSpec)

/-- ITS FALSE NEIGHBOUR: 'it returns false'. Refute it at one input. -/
def fnLagsAddRemoveWrong : ChangeSpec := { name := "fnLagsAddRemove", fn := fun _ => fun
  | [d1, d2] => { results := [.lit (.bool false)], args := [d1, d2] }
  | _ => none }
def FnLagsAddRemoveWrongFalsely : Prop := fnLagsAddRemoveRow.holds Try.pinned (OpenSpec.ofChange fnLagsAddRemoveWrong)

/-- 'zzlaws_root_b1.FnGainIsSumOfOtherScoresLessOwn': WHATEVER THE INPUT: true; the input reads as it did. -/
def fnGainIsSumOfOtherScoresLessOwnSpec : ChangeSpec := { name := "fnGainIsSumOfOtherScoresLessOwn", fn := fun _ => fun
  | [d1, d2, d3] => { results := [.lit (.bool true)], args := [d1, d2, d3] }
  | _ => none }
def fnGainIsSumOfOtherScoresLessOwnRow : OpenClaim := { program := "qxb6609555a", sum := "aca14855b115a8a3d1488f5ed3a957696977954d9d5d4ad77ace38401f02fcb9", func := "example.com/trimtab/trimtab/zzlaws_root_b1.FnGainIsSumOfOtherScoresLessOwn", spec := "fnGainIsSumOfOtherScoresLessOwn", apart := false }
def FnGainIsSumOfOtherScoresLessOwnSaid : Prop := fnGainIsSumOfOtherScoresLessOwnRow.holds Try.pinned (OpenSpec.ofChange fnGainIsSumOfOtherScoresLessOwnSpec)

/-- ITS FALSE NEIGHBOUR: 'it returns false'. Refute it at one input. -/
def fnGainIsSumOfOtherScoresLessOwnWrong : ChangeSpec := { name := "fnGainIsSumOfOtherScoresLessOwn", fn := fun _ => fun
  | [d1, d2, d3] => { results := [.lit (.bool false)], args := [d1, d2, d3] }
  | _ => none }
def FnGainIsSumOfOtherScoresLessOwnWrongFalsely : Prop := fnGainIsSumOfOtherScoresLessOwnRow.holds Try.pinned (OpenSpec.ofChange fnGainIsSumOfOtherScoresLessOwnWrong)

/-- 'zzlaws_root_b1.FnPlusMatchesLimbSum': WHATEVER THE INPUT: true; the input reads as it did. -/
def fnPlusMatchesLimbSumSpec : ChangeSpec := { name := "fnPlusMatchesLimbSum", fn := fun _ => fun
  | [d1, d2, d3, d4] => { results := [.lit (.bool true)], args := [d1, d2, d3, d4] }
  | _ => none }
def fnPlusMatchesLimbSumRow : OpenClaim := { program := "qxb6609555a", sum := "aca14855b115a8a3d1488f5ed3a957696977954d9d5d4ad77ace38401f02fcb9", func := "example.com/trimtab/trimtab/zzlaws_root_b1.FnPlusMatchesLimbSum", spec := "fnPlusMatchesLimbSum", inPlace := ["math/bits.Add64"], apart := false }
def FnPlusMatchesLimbSumSaid : Prop := fnPlusMatchesLimbSumRow.holds Try.pinned (OpenSpec.ofChange fnPlusMatchesLimbSumSpec)

/-- ITS FALSE NEIGHBOUR: 'it returns false'. Refute it at one input. -/
def fnPlusMatchesLimbSumWrong : ChangeSpec := { name := "fnPlusMatchesLimbSum", fn := fun _ => fun
  | [d1, d2, d3, d4] => { results := [.lit (.bool false)], args := [d1, d2, d3, d4] }
  | _ => none }
def FnPlusMatchesLimbSumWrongFalsely : Prop := fnPlusMatchesLimbSumRow.holds Try.pinned (OpenSpec.ofChange fnPlusMatchesLimbSumWrong)

/-- 'zzlaws_root_b1.FnPlusThenMinusIsIdentity': WHATEVER THE INPUT: true; the input reads as it did. -/
def fnPlusThenMinusIsIdentitySpec : ChangeSpec := { name := "fnPlusThenMinusIsIdentity", fn := fun _ => fun
  | [d1, d2, d3, d4] => { results := [.lit (.bool true)], args := [d1, d2, d3, d4] }
  | _ => none }
def fnPlusThenMinusIsIdentityRow : OpenClaim := { program := "qxb6609555a", sum := "aca14855b115a8a3d1488f5ed3a957696977954d9d5d4ad77ace38401f02fcb9", func := "example.com/trimtab/trimtab/zzlaws_root_b1.FnPlusThenMinusIsIdentity", spec := "fnPlusThenMinusIsIdentity", inPlace := ["math/bits.Add64"], apart := false }
def FnPlusThenMinusIsIdentitySaid : Prop := fnPlusThenMinusIsIdentityRow.holds Try.pinned (OpenSpec.ofChange fnPlusThenMinusIsIdentitySpec)

/-- ITS FALSE NEIGHBOUR: 'it returns false'. Refute it at one input. -/
def fnPlusThenMinusIsIdentityWrong : ChangeSpec := { name := "fnPlusThenMinusIsIdentity", fn := fun _ => fun
  | [d1, d2, d3, d4] => { results := [.lit (.bool false)], args := [d1, d2, d3, d4] }
  | _ => none }
def FnPlusThenMinusIsIdentityWrongFalsely : Prop := fnPlusThenMinusIsIdentityRow.holds Try.pinned (OpenSpec.ofChange fnPlusThenMinusIsIdentityWrong)

end Rows
end Go.Proofs.Qxb6609555a
