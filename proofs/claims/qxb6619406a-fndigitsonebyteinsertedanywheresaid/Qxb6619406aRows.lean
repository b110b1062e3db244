/-
  No cell of these rows narrows 'for every input' (looked for: loops, veiled, ifaces, maps, wideKeys, modest, calm, conditions, laid).
  DERIVED. THE GIVEN ROWS OF THIS SEAT. 2 by the template 'for every input the law returns true; each argument reads behind the call as it read before'; 0 by the template 'total and deterministic' (their statements: Qxb6619406aTotals.lean).
  GIVEN WITH THE SEED: the statements are not yours to turn. If you find one false, say at which input.
  Laid BY PROGRAM, IN A SANDBOX (cutbox-rows.mjs): the forced cells as the released guide's own fill.sh prints them over the translation 6480cc0cee54a262… (all of the seat's roots in one cut). By AI agents, Wed Nov 11 2026. No macro, syntax, notation, axiom, sorry.
-/
import Derived.Test.Qxb6619406aChecked
import GoSem.Claim
import GoSem.ClaimJoined
import GoSem.ClaimMapViews
import Derived.JoinedTies
import Derived.KernelRfl
namespace Go.Proofs.Qxb6619406a
/- THE CELL 'sum', in the pinned program and in every row, IS THE sha256 OF THE DUMP (.gsa) THAT Qxb6619406aProg.lean LOADS. Nothing in Lean hashes anything: it is a label: what it is worth is what the hold of that sum in a sandbox is worth. -/
noncomputable def Try.pinned : Pinned := { name := "qxb6619406a", sum := "6480cc0cee54a262ddd1d60f51d6cac26eae677790e7ad79d36e8005c42001e5", checked := Try.checked }
namespace Rows
def none {H : Type} : Left H := { results := [], args := [] }

/-- 'zzlaws_figure_b1.FnDigitsAgreesAtEveryCut': WHATEVER THE INPUT: true; the input reads as it did. -/
def fnDigitsAgreesAtEveryCutSpec : ChangeSpec := { name := "fnDigitsAgreesAtEveryCut", fn := fun _ => fun
  | [d1, d2] => { results := [.lit (.bool true)], args := [d1, d2] }
  | _ => none }
def fnDigitsAgreesAtEveryCutRow : OpenClaim := { program := "qxb6619406a", sum := "6480cc0cee54a262ddd1d60f51d6cac26eae677790e7ad79d36e8005c42001e5", func := "example.com/custodiary/custodiary/zzlaws_figure_b1.FnDigitsAgreesAtEveryCut", spec := "fnDigitsAgreesAtEveryCut", apart := false }
def FnDigitsAgreesAtEveryCutSaid : Prop := fnDigitsAgreesAtEveryCutRow.holds Try.pinned (OpenSpec.ofChange fnDigitsAgreesAtEveryCutSpec)

/-- ITS FALSE NEIGHBOUR: 'it returns false'. Refute it at one input. -/
def fnDigitsAgreesAtEveryCutWrong : ChangeSpec := { name := "fnDigitsAgreesAtEveryCut", fn := fun _ => fun
  | [d1, d2] => { results := [.lit (.bool false)], args := [d1, d2] }
  | _ => none }
def FnDigitsAgreesAtEveryCutWrongFalsely : Prop := fnDigitsAgreesAtEveryCutRow.holds Try.pinned (OpenSpec.ofChange fnDigitsAgreesAtEveryCutWrong)

/-- 'zzlaws_figure_b1.FnDigitsOneByteInsertedAnywhere': WHATEVER THE INPUT: true; the input reads as it did. -/
def fnDigitsOneByteInsertedAnywhereSpec : ChangeSpec := { name := "fnDigitsOneByteInsertedAnywhere", fn := fun _ => fun
  | [d1, d2, d3] => { results := [.lit (.bool true)], args := [d1, d2, d3] }
  | _ => none }
def fnDigitsOneByteInsertedAnywhereRow : OpenClaim := { program := "qxb6619406a", sum := "6480cc0cee54a262ddd1d60f51d6cac26eae677790e7ad79d36e8005c42001e5", func := "example.com/custodiary/custodiary/zzlaws_figure_b1.FnDigitsOneByteInsertedAnywhere", spec := "fnDigitsOneByteInsertedAnywhere", apart := false }
def FnDigitsOneByteInsertedAnywhereSaid : Prop := fnDigitsOneByteInsertedAnywhereRow.holds Try.pinned (OpenSpec.ofChange fnDigitsOneByteInsertedAnywhereSpec)

/-- ITS FALSE NEIGHBOUR: 'it returns false'. Refute it at one input. -/
def fnDigitsOneByteInsertedAnywhereWrong : ChangeSpec := { name := "fnDigitsOneByteInsertedAnywhere", fn := fun _ => fun
  | [d1, d2, d3] => { results := [.lit (.bool false)], args := [d1, d2, d3] }
  | _ => none }
def FnDigitsOneByteInsertedAnywhereWrongFalsely : Prop := fnDigitsOneByteInsertedAnywhereRow.holds Try.pinned (OpenSpec.ofChange fnDigitsOneByteInsertedAnywhereWrong)

end Rows
end Go.Proofs.Qxb6619406a
