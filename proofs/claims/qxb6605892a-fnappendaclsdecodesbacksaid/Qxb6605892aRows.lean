/-
  No cell of these rows narrows 'for every input' (looked for: loops, veiled, ifaces, maps, wideKeys, modest, calm, conditions, laid).
  DERIVED. THE GIVEN ROWS OF THIS SEAT. 7 by the template 'for every input the law returns true; each argument reads behind the call as it read before'; 0 by the template 'total and deterministic' (their statements: Qxb6605892aTotals.lean).
  GIVEN WITH THE SEED: the statements are not yours to turn. If you find one false, say at which input.
  Laid BY PROGRAM, IN A SANDBOX (cutbox-rows.mjs): the forced cells as the released guide's own fill.sh prints them over the translation 45a78ceb82a8af3c… (all of the seat's roots in one cut). By AI agents, Wed Nov 11 2026. No macro, syntax, notation, axiom, sorry.
-/
import Derived.Test.Qxb6605892aChecked
import GoSem.Claim
import GoSem.ClaimJoined
import GoSem.ClaimMapViews
import Derived.JoinedTies
import Derived.KernelRfl
namespace Go.Proofs.Qxb6605892a
/- THE CELL 'sum', in the pinned program and in every row, IS THE sha256 OF THE DUMP (.gsa) THAT Qxb6605892aProg.lean LOADS. Nothing in Lean hashes anything: it is a label: what it is worth is what the hold of that sum in a sandbox is worth. -/
noncomputable def Try.pinned : Pinned := { name := "qxb6605892a", sum := "45a78ceb82a8af3cceba2a3614291ff5a16f584a76bd107b17849a7f29cedff4", checked := Try.checked }
namespace Rows
def none {H : Type} : Left H := { results := [], args := [] }

/-- 'zzlaws_internal_wire_b1.FnFrameRoundTrip': WHATEVER THE INPUT: true; the input reads as it did. -/
def fnFrameRoundTripSpec : ChangeSpec := { name := "fnFrameRoundTrip", fn := fun _ => fun
  | [d1, d2] => { results := [.lit (.bool true)], args := [d1, d2] }
  | _ => none }
def fnFrameRoundTripRow : OpenClaim := { program := "qxb6605892a", sum := "45a78ceb82a8af3cceba2a3614291ff5a16f584a76bd107b17849a7f29cedff4", func := "example.com/tallyperch/tallyperch/zzlaws_internal_wire_b1.FnFrameRoundTrip", spec := "fnFrameRoundTrip", named := ["encoding/binary.BigEndian"], apart := false }
def FnFrameRoundTripSaid : Prop := fnFrameRoundTripRow.holds Try.pinned (OpenSpec.ofChange fnFrameRoundTripSpec)

/-- ITS FALSE NEIGHBOUR: 'it returns false'. Refute it at one input. -/
def fnFrameRoundTripWrong : ChangeSpec := { name := "fnFrameRoundTrip", fn := fun _ => fun
  | [d1, d2] => { results := [.lit (.bool false)], args := [d1, d2] }
  | _ => none }
def FnFrameRoundTripWrongFalsely : Prop := fnFrameRoundTripRow.holds Try.pinned (OpenSpec.ofChange fnFrameRoundTripWrong)

/-- 'zzlaws_internal_wire_b1.FnAppendRequestLayout': WHATEVER THE INPUT: true; the input reads as it did. -/
def fnAppendRequestLayoutSpec : ChangeSpec := { name := "fnAppendRequestLayout", fn := fun _ => fun
  | [d1, d2, d3, d4, d5, d6] => { results := [.lit (.bool true)], args := [d1, d2, d3, d4, d5, d6] }
  | _ => none }
def fnAppendRequestLayoutRow : OpenClaim := { program := "qxb6605892a", sum := "45a78ceb82a8af3cceba2a3614291ff5a16f584a76bd107b17849a7f29cedff4", func := "example.com/tallyperch/tallyperch/zzlaws_internal_wire_b1.FnAppendRequestLayout", spec := "fnAppendRequestLayout", unfollowed := true, recurses := true, named := ["encoding/binary.BigEndian"], apart := false }
def FnAppendRequestLayoutSaid : Prop := fnAppendRequestLayoutRow.holds Try.pinned (OpenSpec.ofChange fnAppendRequestLayoutSpec)

/-- ITS FALSE NEIGHBOUR: 'it returns false'. Refute it at one input. -/
def fnAppendRequestLayoutWrong : ChangeSpec := { name := "fnAppendRequestLayout", fn := fun _ => fun
  | [d1, d2, d3, d4, d5, d6] => { results := [.lit (.bool false)], args := [d1, d2, d3, d4, d5, d6] }
  | _ => none }
def FnAppendRequestLayoutWrongFalsely : Prop := fnAppendRequestLayoutRow.holds Try.pinned (OpenSpec.ofChange fnAppendRequestLayoutWrong)

/-- 'zzlaws_internal_wire_b1.FnAppendRequestFramesWalk': WHATEVER THE INPUT: true; the input reads as it did. -/
def fnAppendRequestFramesWalkSpec : ChangeSpec := { name := "fnAppendRequestFramesWalk", fn := fun _ => fun
  | [d1, d2, d3, d4, d5, d6, d7] => { results := [.lit (.bool true)], args := [d1, d2, d3, d4, d5, d6, d7] }
  | _ => none }
def fnAppendRequestFramesWalkRow : OpenClaim := { program := "qxb6605892a", sum := "45a78ceb82a8af3cceba2a3614291ff5a16f584a76bd107b17849a7f29cedff4", func := "example.com/tallyperch/tallyperch/zzlaws_internal_wire_b1.FnAppendRequestFramesWalk", spec := "fnAppendRequestFramesWalk", unfollowed := true, recurses := true, named := ["encoding/binary.BigEndian"], apart := false }
def FnAppendRequestFramesWalkSaid : Prop := fnAppendRequestFramesWalkRow.holds Try.pinned (OpenSpec.ofChange fnAppendRequestFramesWalkSpec)

/-- ITS FALSE NEIGHBOUR: 'it returns false'. Refute it at one input. -/
def fnAppendRequestFramesWalkWrong : ChangeSpec := { name := "fnAppendRequestFramesWalk", fn := fun _ => fun
  | [d1, d2, d3, d4, d5, d6, d7] => { results := [.lit (.bool false)], args := [d1, d2, d3, d4, d5, d6, d7] }
  | _ => none }
def FnAppendRequestFramesWalkWrongFalsely : Prop := fnAppendRequestFramesWalkRow.holds Try.pinned (OpenSpec.ofChange fnAppendRequestFramesWalkWrong)

/-- 'zzlaws_internal_wire_b1.FnAppendACLsDecodesBack': WHATEVER THE INPUT: true; the input reads as it did. -/
def fnAppendACLsDecodesBackSpec : ChangeSpec := { name := "fnAppendACLsDecodesBack", fn := fun _ => fun
  | [d1, d2] => { results := [.lit (.bool true)], args := [d1, d2] }
  | _ => none }
def fnAppendACLsDecodesBackRow : OpenClaim := { program := "qxb6605892a", sum := "45a78ceb82a8af3cceba2a3614291ff5a16f584a76bd107b17849a7f29cedff4", func := "example.com/tallyperch/tallyperch/zzlaws_internal_wire_b1.FnAppendACLsDecodesBack", spec := "fnAppendACLsDecodesBack", named := ["encoding/binary.BigEndian"], apart := false }
def FnAppendACLsDecodesBackSaid : Prop := fnAppendACLsDecodesBackRow.holds Try.pinned (OpenSpec.ofChange fnAppendACLsDecodesBackSpec)

/-- ITS FALSE NEIGHBOUR: 'it returns false'. Refute it at one input. -/
def fnAppendACLsDecodesBackWrong : ChangeSpec := { name := "fnAppendACLsDecodesBack", fn := fun _ => fun
  | [d1, d2] => { results := [.lit (.bool false)], args := [d1, d2] }
  | _ => none }
def FnAppendACLsDecodesBackWrongFalsely : Prop := fnAppendACLsDecodesBackRow.holds Try.pinned (OpenSpec.ofChange fnAppendACLsDecodesBackWrong)

/-- 'zzlaws_internal_wire_b1.FnAppendACLsSplitConcat': WHATEVER THE INPUT: true; the input reads as it did. -/
def fnAppendACLsSplitConcatSpec : ChangeSpec := { name := "fnAppendACLsSplitConcat", fn := fun _ => fun
  | [d1, d2] => { results := [.lit (.bool true)], args := [d1, d2] }
  | _ => none }
def fnAppendACLsSplitConcatRow : OpenClaim := { program := "qxb6605892a", sum := "45a78ceb82a8af3cceba2a3614291ff5a16f584a76bd107b17849a7f29cedff4", func := "example.com/tallyperch/tallyperch/zzlaws_internal_wire_b1.FnAppendACLsSplitConcat", spec := "fnAppendACLsSplitConcat", named := ["encoding/binary.BigEndian"], apart := false }
def FnAppendACLsSplitConcatSaid : Prop := fnAppendACLsSplitConcatRow.holds Try.pinned (OpenSpec.ofChange fnAppendACLsSplitConcatSpec)

/-- ITS FALSE NEIGHBOUR: 'it returns false'. Refute it at one input. -/
def fnAppendACLsSplitConcatWrong : ChangeSpec := { name := "fnAppendACLsSplitConcat", fn := fun _ => fun
  | [d1, d2] => { results := [.lit (.bool false)], args := [d1, d2] }
  | _ => none }
def FnAppendACLsSplitConcatWrongFalsely : Prop := fnAppendACLsSplitConcatRow.holds Try.pinned (OpenSpec.ofChange fnAppendACLsSplitConcatWrong)

/-- 'zzlaws_internal_wire_b1.FnPathVersionAppendDecodesBack': WHATEVER THE INPUT: true; the input reads as it did. -/
def fnPathVersionAppendDecodesBackSpec : ChangeSpec := { name := "fnPathVersionAppendDecodesBack", fn := fun _ => fun
  | [d1, d2, d3] => { results := [.lit (.bool true)], args := [d1, d2, d3] }
  | _ => none }
def fnPathVersionAppendDecodesBackRow : OpenClaim := { program := "qxb6605892a", sum := "45a78ceb82a8af3cceba2a3614291ff5a16f584a76bd107b17849a7f29cedff4", func := "example.com/tallyperch/tallyperch/zzlaws_internal_wire_b1.FnPathVersionAppendDecodesBack", spec := "fnPathVersionAppendDecodesBack", named := ["encoding/binary.BigEndian"], apart := false }
def FnPathVersionAppendDecodesBackSaid : Prop := fnPathVersionAppendDecodesBackRow.holds Try.pinned (OpenSpec.ofChange fnPathVersionAppendDecodesBackSpec)

/-- ITS FALSE NEIGHBOUR: 'it returns false'. Refute it at one input. -/
def fnPathVersionAppendDecodesBackWrong : ChangeSpec := { name := "fnPathVersionAppendDecodesBack", fn := fun _ => fun
  | [d1, d2, d3] => { results := [.lit (.bool false)], args := [d1, d2, d3] }
  | _ => none }
def FnPathVersionAppendDecodesBackWrongFalsely : Prop := fnPathVersionAppendDecodesBackRow.holds Try.pinned (OpenSpec.ofChange fnPathVersionAppendDecodesBackWrong)

/-- 'zzlaws_internal_wire_b1.FnPathVersionAppendIsFrameBody': WHATEVER THE INPUT: true; the input reads as it did. -/
def fnPathVersionAppendIsFrameBodySpec : ChangeSpec := { name := "fnPathVersionAppendIsFrameBody", fn := fun _ => fun
  | [d1, d2, d3, d4, d5] => { results := [.lit (.bool true)], args := [d1, d2, d3, d4, d5] }
  | _ => none }
def fnPathVersionAppendIsFrameBodyRow : OpenClaim := { program := "qxb6605892a", sum := "45a78ceb82a8af3cceba2a3614291ff5a16f584a76bd107b17849a7f29cedff4", func := "example.com/tallyperch/tallyperch/zzlaws_internal_wire_b1.FnPathVersionAppendIsFrameBody", spec := "fnPathVersionAppendIsFrameBody", unfollowed := true, recurses := true, named := ["encoding/binary.BigEndian"], apart := false }
def FnPathVersionAppendIsFrameBodySaid : Prop := fnPathVersionAppendIsFrameBodyRow.holds Try.pinned (OpenSpec.ofChange fnPathVersionAppendIsFrameBodySpec)

/-- ITS FALSE NEIGHBOUR: 'it returns false'. Refute it at one input. -/
def fnPathVersionAppendIsFrameBodyWrong : ChangeSpec := { name := "fnPathVersionAppendIsFrameBody", fn := fun _ => fun
  | [d1, d2, d3, d4, d5] => { results := [.lit (.bool false)], args := [d1, d2, d3, d4, d5] }
  | _ => none }
def FnPathVersionAppendIsFrameBodyWrongFalsely : Prop := fnPathVersionAppendIsFrameBodyRow.holds Try.pinned (OpenSpec.ofChange fnPathVersionAppendIsFrameBodyWrong)

end Rows
end Go.Proofs.Qxb6605892a
