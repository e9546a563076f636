/-
  No cell of these rows narrows 'for every input' (looked for: loops, veiled, ifaces, maps, wideKeys, modest, calm, conditions, laid).
  DERIVED. THE GIVEN ROWS OF THIS SEAT. 6 by the template 'for every input the law returns true; each argument reads behind the call as it read before'; 0 by the template 'total and deterministic' (their statements: Qxb6000775aTotals.lean).
  GIVEN WITH THE SEED: the statements are not yours to turn. If you find one false, say at which input.
  Laid BY PROGRAM, IN A SANDBOX (cutbox-rows.mjs): the forced cells as the released guide's own fill.sh prints them over the translation e44eb833c3dda379… (all of the seat's roots in one cut). By AI agents, Wed Nov 11 2026. No macro, syntax, notation, axiom, sorry.
-/
import Derived.Test.Qxb6000775aChecked
import GoSem.Claim
import GoSem.ClaimJoined
import GoSem.ClaimMapViews
import Derived.JoinedTies
import Derived.KernelRfl
namespace Go.Proofs.Qxb6000775a
/- THE CELL 'sum', in the pinned program and in every row, IS THE sha256 OF THE DUMP (.gsa) THAT Qxb6000775aProg.lean LOADS. Nothing in Lean hashes anything: it is a label: what it is worth is what the hold of that sum in a sandbox is worth. -/
noncomputable def Try.pinned : Pinned := { name := "qxb6000775a", sum := "e44eb833c3dda379d89f781af202029eb1a15ad1c0b3dc2d1bc2408fdc7f9e1e", checked := Try.checked }
namespace Rows
def none {H : Type} : Left H := { results := [], args := [] }

/-- 'zzlaws_internal_kubedoc_b1.FnHex4ReadsBackFourDigits': WHATEVER THE INPUT: true; the input reads as it did. -/
def fnHex4ReadsBackFourDigitsSpec : ChangeSpec := { name := "fnHex4ReadsBackFourDigits", fn := fun _ => fun
  | [d1, d2, d3, d4] => { results := [.lit (.bool true)], args := [d1, d2, d3, d4] }
  | _ => none }
def fnHex4ReadsBackFourDigitsRow : OpenClaim := { program := "qxb6000775a", sum := "e44eb833c3dda379d89f781af202029eb1a15ad1c0b3dc2d1bc2408fdc7f9e1e", func := "example.com/welcomat/welcomat/zzlaws_internal_kubedoc_b1.FnHex4ReadsBackFourDigits", spec := "fnHex4ReadsBackFourDigits", apart := false }
def FnHex4ReadsBackFourDigitsSaid : Prop := fnHex4ReadsBackFourDigitsRow.holds Try.pinned (OpenSpec.ofChange fnHex4ReadsBackFourDigitsSpec)

/-- ITS FALSE NEIGHBOUR: 'it returns false'. Refute it at one input. -/
def fnHex4ReadsBackFourDigitsWrong : ChangeSpec := { name := "fnHex4ReadsBackFourDigits", fn := fun _ => fun
  | [d1, d2, d3, d4] => { results := [.lit (.bool false)], args := [d1, d2, d3, d4] }
  | _ => none }
def FnHex4ReadsBackFourDigitsWrongFalsely : Prop := fnHex4ReadsBackFourDigitsRow.holds Try.pinned (OpenSpec.ofChange fnHex4ReadsBackFourDigitsWrong)

/-- 'zzlaws_internal_kubedoc_b1.FnNextStopsAtFirstNonWhitespace': WHATEVER THE INPUT: true; the input reads as it did. -/
def fnNextStopsAtFirstNonWhitespaceSpec : ChangeSpec := { name := "fnNextStopsAtFirstNonWhitespace", fn := fun _ => fun
  | [d1, d2] => { results := [.lit (.bool true)], args := [d1, d2] }
  | _ => none }
def fnNextStopsAtFirstNonWhitespaceRow : OpenClaim := { program := "qxb6000775a", sum := "e44eb833c3dda379d89f781af202029eb1a15ad1c0b3dc2d1bc2408fdc7f9e1e", func := "example.com/welcomat/welcomat/zzlaws_internal_kubedoc_b1.FnNextStopsAtFirstNonWhitespace", spec := "fnNextStopsAtFirstNonWhitespace", apart := false }
def FnNextStopsAtFirstNonWhitespaceSaid : Prop := fnNextStopsAtFirstNonWhitespaceRow.holds Try.pinned (OpenSpec.ofChange fnNextStopsAtFirstNonWhitespaceSpec)

/-- ITS FALSE NEIGHBOUR: 'it returns false'. Refute it at one input. -/
def fnNextStopsAtFirstNonWhitespaceWrong : ChangeSpec := { name := "fnNextStopsAtFirstNonWhitespace", fn := fun _ => fun
  | [d1, d2] => { results := [.lit (.bool false)], args := [d1, d2] }
  | _ => none }
def FnNextStopsAtFirstNonWhitespaceWrongFalsely : Prop := fnNextStopsAtFirstNonWhitespaceRow.holds Try.pinned (OpenSpec.ofChange fnNextStopsAtFirstNonWhitespaceWrong)

/-- 'zzlaws_internal_kubedoc_b1.FnNextIsIdempotent': WHATEVER THE INPUT: true; the input reads as it did. -/
def fnNextIsIdempotentSpec : ChangeSpec := { name := "fnNextIsIdempotent", fn := fun _ => fun
  | [d1, d2] => { results := [.lit (.bool true)], args := [d1, d2] }
  | _ => none }
def fnNextIsIdempotentRow : OpenClaim := { program := "qxb6000775a", sum := "e44eb833c3dda379d89f781af202029eb1a15ad1c0b3dc2d1bc2408fdc7f9e1e", func := "example.com/welcomat/welcomat/zzlaws_internal_kubedoc_b1.FnNextIsIdempotent", spec := "fnNextIsIdempotent", apart := false }
def FnNextIsIdempotentSaid : Prop := fnNextIsIdempotentRow.holds Try.pinned (OpenSpec.ofChange fnNextIsIdempotentSpec)

/-- ITS FALSE NEIGHBOUR: 'it returns false'. Refute it at one input. -/
def fnNextIsIdempotentWrong : ChangeSpec := { name := "fnNextIsIdempotent", fn := fun _ => fun
  | [d1, d2] => { results := [.lit (.bool false)], args := [d1, d2] }
  | _ => none }
def FnNextIsIdempotentWrongFalsely : Prop := fnNextIsIdempotentRow.holds Try.pinned (OpenSpec.ofChange fnNextIsIdempotentWrong)

/-- 'zzlaws_internal_kubedoc_b1.FnNextIgnoresInsertedWhitespace': WHATEVER THE INPUT: true; the input reads as it did. -/
def fnNextIgnoresInsertedWhitespaceSpec : ChangeSpec := { name := "fnNextIgnoresInsertedWhitespace", fn := fun _ => fun
  | [d1, d2, d3] => { results := [.lit (.bool true)], args := [d1, d2, d3] }
  | _ => none }
def fnNextIgnoresInsertedWhitespaceRow : OpenClaim := { program := "qxb6000775a", sum := "e44eb833c3dda379d89f781af202029eb1a15ad1c0b3dc2d1bc2408fdc7f9e1e", func := "example.com/welcomat/welcomat/zzlaws_internal_kubedoc_b1.FnNextIgnoresInsertedWhitespace", spec := "fnNextIgnoresInsertedWhitespace", apart := false }
def FnNextIgnoresInsertedWhitespaceSaid : Prop := fnNextIgnoresInsertedWhitespaceRow.holds Try.pinned (OpenSpec.ofChange fnNextIgnoresInsertedWhitespaceSpec)

/-- ITS FALSE NEIGHBOUR: 'it returns false'. Refute it at one input. -/
def fnNextIgnoresInsertedWhitespaceWrong : ChangeSpec := { name := "fnNextIgnoresInsertedWhitespace", fn := fun _ => fun
  | [d1, d2, d3] => { results := [.lit (.bool false)], args := [d1, d2, d3] }
  | _ => none }
def FnNextIgnoresInsertedWhitespaceWrongFalsely : Prop := fnNextIgnoresInsertedWhitespaceRow.holds Try.pinned (OpenSpec.ofChange fnNextIgnoresInsertedWhitespaceWrong)

/-- 'zzlaws_internal_kubedoc_b1.FnTakeOfUnionIsEitherTake': WHATEVER THE INPUT: true; the input reads as it did. -/
def fnTakeOfUnionIsEitherTakeSpec : ChangeSpec := { name := "fnTakeOfUnionIsEitherTake", fn := fun _ => fun
  | [d1, d2, d3, d4] => { results := [.lit (.bool true)], args := [d1, d2, d3, d4] }
  | _ => none }
def fnTakeOfUnionIsEitherTakeRow : OpenClaim := { program := "qxb6000775a", sum := "e44eb833c3dda379d89f781af202029eb1a15ad1c0b3dc2d1bc2408fdc7f9e1e", func := "example.com/welcomat/welcomat/zzlaws_internal_kubedoc_b1.FnTakeOfUnionIsEitherTake", spec := "fnTakeOfUnionIsEitherTake", inPlace := ["internal/bytealg.IndexByteString"], apart := false }
def FnTakeOfUnionIsEitherTakeSaid : Prop := fnTakeOfUnionIsEitherTakeRow.holds Try.pinned (OpenSpec.ofChange fnTakeOfUnionIsEitherTakeSpec)

/-- ITS FALSE NEIGHBOUR: 'it returns false'. Refute it at one input. -/
def fnTakeOfUnionIsEitherTakeWrong : ChangeSpec := { name := "fnTakeOfUnionIsEitherTake", fn := fun _ => fun
  | [d1, d2, d3, d4] => { results := [.lit (.bool false)], args := [d1, d2, d3, d4] }
  | _ => none }
def FnTakeOfUnionIsEitherTakeWrongFalsely : Prop := fnTakeOfUnionIsEitherTakeRow.holds Try.pinned (OpenSpec.ofChange fnTakeOfUnionIsEitherTakeWrong)

/-- 'zzlaws_internal_kubedoc_b1.FnTakeAgreesWithNext': WHATEVER THE INPUT: true; the input reads as it did. -/
def fnTakeAgreesWithNextSpec : ChangeSpec := { name := "fnTakeAgreesWithNext", fn := fun _ => fun
  | [d1, d2] => { results := [.lit (.bool true)], args := [d1, d2] }
  | _ => none }
def fnTakeAgreesWithNextRow : OpenClaim := { program := "qxb6000775a", sum := "e44eb833c3dda379d89f781af202029eb1a15ad1c0b3dc2d1bc2408fdc7f9e1e", func := "example.com/welcomat/welcomat/zzlaws_internal_kubedoc_b1.FnTakeAgreesWithNext", spec := "fnTakeAgreesWithNext", inPlace := ["internal/bytealg.IndexByteString"], apart := false }
def FnTakeAgreesWithNextSaid : Prop := fnTakeAgreesWithNextRow.holds Try.pinned (OpenSpec.ofChange fnTakeAgreesWithNextSpec)

/-- ITS FALSE NEIGHBOUR: 'it returns false'. Refute it at one input. -/
def fnTakeAgreesWithNextWrong : ChangeSpec := { name := "fnTakeAgreesWithNext", fn := fun _ => fun
  | [d1, d2] => { results := [.lit (.bool false)], args := [d1, d2] }
  | _ => none }
def FnTakeAgreesWithNextWrongFalsely : Prop := fnTakeAgreesWithNextRow.holds Try.pinned (OpenSpec.ofChange fnTakeAgreesWithNextWrong)

end Rows
end Go.Proofs.Qxb6000775a
