/-
  No cell of these rows narrows 'for every input' (looked for: loops, veiled, ifaces, maps, wideKeys, modest, calm, conditions, laid).
  DERIVED. THE GIVEN ROWS OF THIS SEAT. 6 by the template 'for every input the law returns true; each argument reads behind the call as it read before'; 0 by the template 'total and deterministic' (their statements: Qxb6613770aTotals.lean).
  GIVEN WITH THE SEED: the statements are not yours to turn. If you find one false, say at which input.
  Laid BY PROGRAM, IN A SANDBOX (cutbox-rows.mjs): the forced cells as the released guide's own fill.sh prints them over the translation 18777ca09b2c5229… (all of the seat's roots in one cut). By AI agents, Wed Nov 11 2026. No macro, syntax, notation, axiom, sorry.
-/
import Derived.Test.Qxb6613770aChecked
import GoSem.Claim
import GoSem.ClaimJoined
import GoSem.ClaimMapViews
import Derived.JoinedTies
import Derived.KernelRfl
namespace Go.Proofs.Qxb6613770a
/- THE CELL 'sum', in the pinned program and in every row, IS THE sha256 OF THE DUMP (.gsa) THAT Qxb6613770aProg.lean LOADS. Nothing in Lean hashes anything: it is a label: what it is worth is what the hold of that sum in a sandbox is worth. -/
noncomputable def Try.pinned : Pinned := { name := "qxb6613770a", sum := "18777ca09b2c5229b0d503aadc3d600c21201d53e80e68b57a1952ee25442448", checked := Try.checked }
namespace Rows
def none {H : Type} : Left H := { results := [], args := [] }

/-- 'zzlaws_internal_paxos_b1.FnLocatedMarshalBinaryLayout': WHATEVER THE INPUT: true; the input reads as it did. -/
def fnLocatedMarshalBinaryLayoutSpec : ChangeSpec := { name := "fnLocatedMarshalBinaryLayout", fn := fun _ => fun
  | [d] => { results := [.lit (.bool true)], args := [d] }
  | _ => none }
def fnLocatedMarshalBinaryLayoutRow : OpenClaim := { program := "qxb6613770a", sum := "18777ca09b2c5229b0d503aadc3d600c21201d53e80e68b57a1952ee25442448", func := "example.com/heliotrope/heliotrope/zzlaws_internal_paxos_b1.FnLocatedMarshalBinaryLayout", spec := "fnLocatedMarshalBinaryLayout", unfollowed := true, recurses := true, apart := false }
def FnLocatedMarshalBinaryLayoutSaid : Prop := fnLocatedMarshalBinaryLayoutRow.holds Try.pinned (OpenSpec.ofChange fnLocatedMarshalBinaryLayoutSpec)

/-- ITS FALSE NEIGHBOUR: 'it returns false'. Refute it at one input. -/
def fnLocatedMarshalBinaryLayoutWrong : ChangeSpec := { name := "fnLocatedMarshalBinaryLayout", fn := fun _ => fun
  | [d] => { results := [.lit (.bool false)], args := [d] }
  | _ => none }
def FnLocatedMarshalBinaryLayoutWrongFalsely : Prop := fnLocatedMarshalBinaryLayoutRow.holds Try.pinned (OpenSpec.ofChange fnLocatedMarshalBinaryLayoutWrong)

/-- 'zzlaws_internal_paxos_b1.FnLocatedMarshalBinaryFaithful': WHATEVER THE INPUT: true; the input reads as it did. -/
def fnLocatedMarshalBinaryFaithfulSpec : ChangeSpec := { name := "fnLocatedMarshalBinaryFaithful", fn := fun _ => fun
  | [d1, d2] => { results := [.lit (.bool true)], args := [d1, d2] }
  | _ => none }
def fnLocatedMarshalBinaryFaithfulRow : OpenClaim := { program := "qxb6613770a", sum := "18777ca09b2c5229b0d503aadc3d600c21201d53e80e68b57a1952ee25442448", func := "example.com/heliotrope/heliotrope/zzlaws_internal_paxos_b1.FnLocatedMarshalBinaryFaithful", spec := "fnLocatedMarshalBinaryFaithful", unfollowed := true, recurses := true, apart := false }
def FnLocatedMarshalBinaryFaithfulSaid : Prop := fnLocatedMarshalBinaryFaithfulRow.holds Try.pinned (OpenSpec.ofChange fnLocatedMarshalBinaryFaithfulSpec)

/-- ITS FALSE NEIGHBOUR: 'it returns false'. Refute it at one input. -/
def fnLocatedMarshalBinaryFaithfulWrong : ChangeSpec := { name := "fnLocatedMarshalBinaryFaithful", fn := fun _ => fun
  | [d1, d2] => { results := [.lit (.bool false)], args := [d1, d2] }
  | _ => none }
def FnLocatedMarshalBinaryFaithfulWrongFalsely : Prop := fnLocatedMarshalBinaryFaithfulRow.holds Try.pinned (OpenSpec.ofChange fnLocatedMarshalBinaryFaithfulWrong)

/-- 'zzlaws_internal_paxos_b1.FnEncodeRecordLayout': WHATEVER THE INPUT: true; the input reads as it did. -/
def fnEncodeRecordLayoutSpec : ChangeSpec := { name := "fnEncodeRecordLayout", fn := fun _ => fun
  | [d] => { results := [.lit (.bool true)], args := [d] }
  | _ => none }
def fnEncodeRecordLayoutRow : OpenClaim := { program := "qxb6613770a", sum := "18777ca09b2c5229b0d503aadc3d600c21201d53e80e68b57a1952ee25442448", func := "example.com/heliotrope/heliotrope/zzlaws_internal_paxos_b1.FnEncodeRecordLayout", spec := "fnEncodeRecordLayout", unfollowed := true, recurses := true, apart := false }
def FnEncodeRecordLayoutSaid : Prop := fnEncodeRecordLayoutRow.holds Try.pinned (OpenSpec.ofChange fnEncodeRecordLayoutSpec)

/-- ITS FALSE NEIGHBOUR: 'it returns false'. Refute it at one input. -/
def fnEncodeRecordLayoutWrong : ChangeSpec := { name := "fnEncodeRecordLayout", fn := fun _ => fun
  | [d] => { results := [.lit (.bool false)], args := [d] }
  | _ => none }
def FnEncodeRecordLayoutWrongFalsely : Prop := fnEncodeRecordLayoutRow.holds Try.pinned (OpenSpec.ofChange fnEncodeRecordLayoutWrong)

/-- 'zzlaws_internal_paxos_b1.FnEncodeRecordFaithful': WHATEVER THE INPUT: true; the input reads as it did. -/
def fnEncodeRecordFaithfulSpec : ChangeSpec := { name := "fnEncodeRecordFaithful", fn := fun _ => fun
  | [d1, d2] => { results := [.lit (.bool true)], args := [d1, d2] }
  | _ => none }
def fnEncodeRecordFaithfulRow : OpenClaim := { program := "qxb6613770a", sum := "18777ca09b2c5229b0d503aadc3d600c21201d53e80e68b57a1952ee25442448", func := "example.com/heliotrope/heliotrope/zzlaws_internal_paxos_b1.FnEncodeRecordFaithful", spec := "fnEncodeRecordFaithful", unfollowed := true, recurses := true, apart := false }
def FnEncodeRecordFaithfulSaid : Prop := fnEncodeRecordFaithfulRow.holds Try.pinned (OpenSpec.ofChange fnEncodeRecordFaithfulSpec)

/-- ITS FALSE NEIGHBOUR: 'it returns false'. Refute it at one input. -/
def fnEncodeRecordFaithfulWrong : ChangeSpec := { name := "fnEncodeRecordFaithful", fn := fun _ => fun
  | [d1, d2] => { results := [.lit (.bool false)], args := [d1, d2] }
  | _ => none }
def FnEncodeRecordFaithfulWrongFalsely : Prop := fnEncodeRecordFaithfulRow.holds Try.pinned (OpenSpec.ofChange fnEncodeRecordFaithfulWrong)

/-- 'zzlaws_internal_paxos_b1.FnEncoderUintAppendsVarint': WHATEVER THE INPUT: true; the input reads as it did. -/
def fnEncoderUintAppendsVarintSpec : ChangeSpec := { name := "fnEncoderUintAppendsVarint", fn := fun _ => fun
  | [d1, d2] => { results := [.lit (.bool true)], args := [d1, d2] }
  | _ => none }
def fnEncoderUintAppendsVarintRow : OpenClaim := { program := "qxb6613770a", sum := "18777ca09b2c5229b0d503aadc3d600c21201d53e80e68b57a1952ee25442448", func := "example.com/heliotrope/heliotrope/zzlaws_internal_paxos_b1.FnEncoderUintAppendsVarint", spec := "fnEncoderUintAppendsVarint", apart := false }
def FnEncoderUintAppendsVarintSaid : Prop := fnEncoderUintAppendsVarintRow.holds Try.pinned (OpenSpec.ofChange fnEncoderUintAppendsVarintSpec)

/-- ITS FALSE NEIGHBOUR: 'it returns false'. Refute it at one input. -/
def fnEncoderUintAppendsVarintWrong : ChangeSpec := { name := "fnEncoderUintAppendsVarint", fn := fun _ => fun
  | [d1, d2] => { results := [.lit (.bool false)], args := [d1, d2] }
  | _ => none }
def FnEncoderUintAppendsVarintWrongFalsely : Prop := fnEncoderUintAppendsVarintRow.holds Try.pinned (OpenSpec.ofChange fnEncoderUintAppendsVarintWrong)

/-- 'zzlaws_internal_paxos_b1.FnEncoderUintJoinsAndOrders': WHATEVER THE INPUT: true; the input reads as it did. -/
def fnEncoderUintJoinsAndOrdersSpec : ChangeSpec := { name := "fnEncoderUintJoinsAndOrders", fn := fun _ => fun
  | [d1, d2, d3] => { results := [.lit (.bool true)], args := [d1, d2, d3] }
  | _ => none }
def fnEncoderUintJoinsAndOrdersRow : OpenClaim := { program := "qxb6613770a", sum := "18777ca09b2c5229b0d503aadc3d600c21201d53e80e68b57a1952ee25442448", func := "example.com/heliotrope/heliotrope/zzlaws_internal_paxos_b1.FnEncoderUintJoinsAndOrders", spec := "fnEncoderUintJoinsAndOrders", apart := false }
def FnEncoderUintJoinsAndOrdersSaid : Prop := fnEncoderUintJoinsAndOrdersRow.holds Try.pinned (OpenSpec.ofChange fnEncoderUintJoinsAndOrdersSpec)

/-- ITS FALSE NEIGHBOUR: 'it returns false'. Refute it at one input. -/
def fnEncoderUintJoinsAndOrdersWrong : ChangeSpec := { name := "fnEncoderUintJoinsAndOrders", fn := fun _ => fun
  | [d1, d2, d3] => { results := [.lit (.bool false)], args := [d1, d2, d3] }
  | _ => none }
def FnEncoderUintJoinsAndOrdersWrongFalsely : Prop := fnEncoderUintJoinsAndOrdersRow.holds Try.pinned (OpenSpec.ofChange fnEncoderUintJoinsAndOrdersWrong)

end Rows
end Go.Proofs.Qxb6613770a
