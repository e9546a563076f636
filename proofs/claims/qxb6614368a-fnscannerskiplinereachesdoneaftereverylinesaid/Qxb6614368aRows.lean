/-
  No cell of these rows narrows 'for every input' (looked for: loops, veiled, ifaces, maps, wideKeys, modest, calm, conditions, laid).
  DERIVED. THE GIVEN ROWS OF THIS SEAT. 1 by the template 'for every input the law returns true; each argument reads behind the call as it read before'; 0 by the template 'total and deterministic' (their statements: Qxb6614368aTotals.lean).
  GIVEN WITH THE SEED: the statements are not yours to turn. If you find one false, say at which input.
  Laid BY PROGRAM, IN A SANDBOX (cutbox-rows.mjs): the forced cells as the released guide's own fill.sh prints them over the translation b1c7022d345ef921… (all of the seat's roots in one cut). By AI agents, Wed Nov 11 2026. No macro, syntax, notation, axiom, sorry.
-/
import Derived.Test.Qxb6614368aChecked
import GoSem.Claim
import GoSem.ClaimJoined
import GoSem.ClaimMapViews
import Derived.JoinedTies
import Derived.KernelRfl
namespace Go.Proofs.Qxb6614368a
/- THE CELL 'sum', in the pinned program and in every row, IS THE sha256 OF THE DUMP (.gsa) THAT Qxb6614368aProg.lean LOADS. Nothing in Lean hashes anything: it is a label: what it is worth is what the hold of that sum in a sandbox is worth. -/
noncomputable def Try.pinned : Pinned := { name := "qxb6614368a", sum := "b1c7022d345ef921778bbedbc4bdf3ea257603c3a82c71d851b13bafc998a1f8", checked := Try.checked }
namespace Rows
def none {H : Type} : Left H := { results := [], args := [] }

/-- 'zzlaws_internal_dotenv_b1.FnScannerSkipLineReachesDoneAfterEveryLine': WHATEVER THE INPUT: true; the input reads as it did. -/
def fnScannerSkipLineReachesDoneAfterEveryLineSpec : ChangeSpec := { name := "fnScannerSkipLineReachesDoneAfterEveryLine", fn := fun _ => fun
  | [d1, d2, d3] => { results := [.lit (.bool true)], args := [d1, d2, d3] }
  | _ => none }
def fnScannerSkipLineReachesDoneAfterEveryLineRow : OpenClaim := { program := "qxb6614368a", sum := "b1c7022d345ef921778bbedbc4bdf3ea257603c3a82c71d851b13bafc998a1f8", func := "example.com/latchkey/latchkey/zzlaws_internal_dotenv_b1.FnScannerSkipLineReachesDoneAfterEveryLine", spec := "fnScannerSkipLineReachesDoneAfterEveryLine", inPlace := ["internal/bytealg.IndexByte"], apart := false }
def FnScannerSkipLineReachesDoneAfterEveryLineSaid : Prop := fnScannerSkipLineReachesDoneAfterEveryLineRow.holds Try.pinned (OpenSpec.ofChange fnScannerSkipLineReachesDoneAfterEveryLineSpec)

/-- ITS FALSE NEIGHBOUR: 'it returns false'. Refute it at one input. -/
def fnScannerSkipLineReachesDoneAfterEveryLineWrong : ChangeSpec := { name := "fnScannerSkipLineReachesDoneAfterEveryLine", fn := fun _ => fun
  | [d1, d2, d3] => { results := [.lit (.bool false)], args := [d1, d2, d3] }
  | _ => none }
def FnScannerSkipLineReachesDoneAfterEveryLineWrongFalsely : Prop := fnScannerSkipLineReachesDoneAfterEveryLineRow.holds Try.pinned (OpenSpec.ofChange fnScannerSkipLineReachesDoneAfterEveryLineWrong)

end Rows
end Go.Proofs.Qxb6614368a
