/-
  No cell of these rows narrows 'for every input' (looked for: loops, veiled, ifaces, maps, wideKeys, modest, calm, conditions, laid).
  DERIVED. THE GIVEN ROWS OF THIS SEAT. 4 by the template 'for every input the law returns true; each argument reads behind the call as it read before'; 0 by the template 'total and deterministic' (their statements: Qxb6613684aTotals.lean).
  GIVEN WITH THE SEED: the statements are not yours to turn. If you find one false, say at which input.
  Laid BY PROGRAM, IN A SANDBOX (cutbox-rows.mjs): the forced cells as the released guide's own fill.sh prints them over the translation b02fa3650d8c8ea2… (all of the seat's roots in one cut). By AI agents, Wed Nov 11 2026. No macro, syntax, notation, axiom, sorry.
-/
import Derived.Test.Qxb6613684aChecked
import GoSem.Claim
import GoSem.ClaimJoined
import GoSem.ClaimMapViews
import Derived.JoinedTies
import Derived.KernelRfl
namespace Go.Proofs.Qxb6613684a
/- THE CELL 'sum', in the pinned program and in every row, IS THE sha256 OF THE DUMP (.gsa) THAT Qxb6613684aProg.lean LOADS. Nothing in Lean hashes anything: it is a label: what it is worth is what the hold of that sum in a sandbox is worth. -/
noncomputable def Try.pinned : Pinned := { name := "qxb6613684a", sum := "b02fa3650d8c8ea25d98b9ed98ea77531bd4757b9f80db341253872fba6e684b", checked := Try.checked }
namespace Rows
def none {H : Type} : Left H := { results := [], args := [] }

/-- 'zzlaws_pkg_revocation_b1.FnListKeyTakesEd25519KeysAsTheyAreAndRefusesRawBytes': WHATEVER THE INPUT: true; the input reads as it did. -/
def fnListKeyTakesEd25519KeysAsTheyAreAndRefusesRawBytesSpec : ChangeSpec := { name := "fnListKeyTakesEd25519KeysAsTheyAreAndRefusesRawBytes", fn := fun _ => fun
  | [d] => { results := [.lit (.bool true)], args := [d] }
  | _ => none }
def fnListKeyTakesEd25519KeysAsTheyAreAndRefusesRawBytesRow : OpenClaim := { program := "qxb6613684a", sum := "b02fa3650d8c8ea25d98b9ed98ea77531bd4757b9f80db341253872fba6e684b", func := "example.com/taketh/taketh/zzlaws_pkg_revocation_b1.FnListKeyTakesEd25519KeysAsTheyAreAndRefusesRawBytes", spec := "fnListKeyTakesEd25519KeysAsTheyAreAndRefusesRawBytes", apart := false }
def FnListKeyTakesEd25519KeysAsTheyAreAndRefusesRawBytesSaid : Prop := fnListKeyTakesEd25519KeysAsTheyAreAndRefusesRawBytesRow.holds Try.pinned (OpenSpec.ofChange fnListKeyTakesEd25519KeysAsTheyAreAndRefusesRawBytesSpec)

/-- ITS FALSE NEIGHBOUR: 'it returns false'. Refute it at one input. -/
def fnListKeyTakesEd25519KeysAsTheyAreAndRefusesRawBytesWrong : ChangeSpec := { name := "fnListKeyTakesEd25519KeysAsTheyAreAndRefusesRawBytes", fn := fun _ => fun
  | [d] => { results := [.lit (.bool false)], args := [d] }
  | _ => none }
def FnListKeyTakesEd25519KeysAsTheyAreAndRefusesRawBytesWrongFalsely : Prop := fnListKeyTakesEd25519KeysAsTheyAreAndRefusesRawBytesRow.holds Try.pinned (OpenSpec.ofChange fnListKeyTakesEd25519KeysAsTheyAreAndRefusesRawBytesWrong)

/-- 'zzlaws_pkg_revocation_b1.FnListKeyIsIdempotentAndRefusesAPointerToAKey': WHATEVER THE INPUT: true; the input reads as it did. -/
def fnListKeyIsIdempotentAndRefusesAPointerToAKeySpec : ChangeSpec := { name := "fnListKeyIsIdempotentAndRefusesAPointerToAKey", fn := fun _ => fun
  | [d] => { results := [.lit (.bool true)], args := [d] }
  | _ => none }
def fnListKeyIsIdempotentAndRefusesAPointerToAKeyRow : OpenClaim := { program := "qxb6613684a", sum := "b02fa3650d8c8ea25d98b9ed98ea77531bd4757b9f80db341253872fba6e684b", func := "example.com/taketh/taketh/zzlaws_pkg_revocation_b1.FnListKeyIsIdempotentAndRefusesAPointerToAKey", spec := "fnListKeyIsIdempotentAndRefusesAPointerToAKey", apart := false }
def FnListKeyIsIdempotentAndRefusesAPointerToAKeySaid : Prop := fnListKeyIsIdempotentAndRefusesAPointerToAKeyRow.holds Try.pinned (OpenSpec.ofChange fnListKeyIsIdempotentAndRefusesAPointerToAKeySpec)

/-- ITS FALSE NEIGHBOUR: 'it returns false'. Refute it at one input. -/
def fnListKeyIsIdempotentAndRefusesAPointerToAKeyWrong : ChangeSpec := { name := "fnListKeyIsIdempotentAndRefusesAPointerToAKey", fn := fun _ => fun
  | [d] => { results := [.lit (.bool false)], args := [d] }
  | _ => none }
def FnListKeyIsIdempotentAndRefusesAPointerToAKeyWrongFalsely : Prop := fnListKeyIsIdempotentAndRefusesAPointerToAKeyRow.holds Try.pinned (OpenSpec.ofChange fnListKeyIsIdempotentAndRefusesAPointerToAKeyWrong)

/-- 'zzlaws_pkg_revocation_b1.FnPruneBeforeShiftsWithPublication': WHATEVER THE INPUT: true; the input reads as it did. -/
def fnPruneBeforeShiftsWithPublicationSpec : ChangeSpec := { name := "fnPruneBeforeShiftsWithPublication", fn := fun _ => fun
  | [d1, d2] => { results := [.lit (.bool true)], args := [d1, d2] }
  | _ => none }
def fnPruneBeforeShiftsWithPublicationRow : OpenClaim := { program := "qxb6613684a", sum := "b02fa3650d8c8ea25d98b9ed98ea77531bd4757b9f80db341253872fba6e684b", func := "example.com/taketh/taketh/zzlaws_pkg_revocation_b1.FnPruneBeforeShiftsWithPublication", spec := "fnPruneBeforeShiftsWithPublication", apart := false }
def FnPruneBeforeShiftsWithPublicationSaid : Prop := fnPruneBeforeShiftsWithPublicationRow.holds Try.pinned (OpenSpec.ofChange fnPruneBeforeShiftsWithPublicationSpec)

/-- ITS FALSE NEIGHBOUR: 'it returns false'. Refute it at one input. -/
def fnPruneBeforeShiftsWithPublicationWrong : ChangeSpec := { name := "fnPruneBeforeShiftsWithPublication", fn := fun _ => fun
  | [d1, d2] => { results := [.lit (.bool false)], args := [d1, d2] }
  | _ => none }
def FnPruneBeforeShiftsWithPublicationWrongFalsely : Prop := fnPruneBeforeShiftsWithPublicationRow.holds Try.pinned (OpenSpec.ofChange fnPruneBeforeShiftsWithPublicationWrong)

/-- 'zzlaws_pkg_revocation_b1.FnPruneBeforeLetsGoExactlyWhatExpiredALeewayAgo': WHATEVER THE INPUT: true; the input reads as it did. -/
def fnPruneBeforeLetsGoExactlyWhatExpiredALeewayAgoSpec : ChangeSpec := { name := "fnPruneBeforeLetsGoExactlyWhatExpiredALeewayAgo", fn := fun _ => fun
  | [d1, d2, d3] => { results := [.lit (.bool true)], args := [d1, d2, d3] }
  | _ => none }
def fnPruneBeforeLetsGoExactlyWhatExpiredALeewayAgoRow : OpenClaim := { program := "qxb6613684a", sum := "b02fa3650d8c8ea25d98b9ed98ea77531bd4757b9f80db341253872fba6e684b", func := "example.com/taketh/taketh/zzlaws_pkg_revocation_b1.FnPruneBeforeLetsGoExactlyWhatExpiredALeewayAgo", spec := "fnPruneBeforeLetsGoExactlyWhatExpiredALeewayAgo", apart := false }
def FnPruneBeforeLetsGoExactlyWhatExpiredALeewayAgoSaid : Prop := fnPruneBeforeLetsGoExactlyWhatExpiredALeewayAgoRow.holds Try.pinned (OpenSpec.ofChange fnPruneBeforeLetsGoExactlyWhatExpiredALeewayAgoSpec)

/-- ITS FALSE NEIGHBOUR: 'it returns false'. Refute it at one input. -/
def fnPruneBeforeLetsGoExactlyWhatExpiredALeewayAgoWrong : ChangeSpec := { name := "fnPruneBeforeLetsGoExactlyWhatExpiredALeewayAgo", fn := fun _ => fun
  | [d1, d2, d3] => { results := [.lit (.bool false)], args := [d1, d2, d3] }
  | _ => none }
def FnPruneBeforeLetsGoExactlyWhatExpiredALeewayAgoWrongFalsely : Prop := fnPruneBeforeLetsGoExactlyWhatExpiredALeewayAgoRow.holds Try.pinned (OpenSpec.ofChange fnPruneBeforeLetsGoExactlyWhatExpiredALeewayAgoWrong)

end Rows
end Go.Proofs.Qxb6613684a
