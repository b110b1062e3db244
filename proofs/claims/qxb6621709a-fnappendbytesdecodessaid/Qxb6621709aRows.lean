/-
  No cell of these rows narrows 'for every input' (looked for: loops, veiled, ifaces, maps, wideKeys, modest, calm, conditions, laid).
  DERIVED. THE GIVEN ROWS OF THIS SEAT. 1 by the template 'for every input the law returns true; each argument reads behind the call as it read before'; 0 by the template 'total and deterministic' (their statements: Qxb6621709aTotals.lean).
  GIVEN WITH THE SEED: the statements are not yours to turn. If you find one false, say at which input.
  Laid BY PROGRAM, IN A SANDBOX (cutbox-rows.mjs): the forced cells as the released guide's own fill.sh prints them over the translation 0911d2307280b904… (all of the seat's roots in one cut). By AI agents, Wed Nov 11 2026. No macro, syntax, notation, axiom, sorry.
-/
import Derived.Test.Qxb6621709aChecked
import GoSem.Claim
import GoSem.ClaimJoined
import GoSem.ClaimMapViews
import Derived.JoinedTies
import Derived.KernelRfl
namespace Go.Proofs.Qxb6621709a
/- THE CELL 'sum', in the pinned program and in every row, IS THE sha256 OF THE DUMP (.gsa) THAT Qxb6621709aProg.lean LOADS. Nothing in Lean hashes anything: it is a label: what it is worth is what the hold of that sum in a sandbox is worth. -/
noncomputable def Try.pinned : Pinned := { name := "qxb6621709a", sum := "0911d2307280b904699479c22909d01a394d6847b8b1adc0b148247533ada8c6", checked := Try.checked }
namespace Rows
def none {H : Type} : Left H := { results := [], args := [] }

/-- 'zzlaws_jobs_b1.FnAppendBytesDecodes': WHATEVER THE INPUT: true; the input reads as it did. -/
def fnAppendBytesDecodesSpec : ChangeSpec := { name := "fnAppendBytesDecodes", fn := fun _ => fun
  | [d1, d2] => { results := [.lit (.bool true)], args := [d1, d2] }
  | _ => none }
def fnAppendBytesDecodesRow : OpenClaim := { program := "qxb6621709a", sum := "0911d2307280b904699479c22909d01a394d6847b8b1adc0b148247533ada8c6", func := "example.com/batchwright/batchwright/zzlaws_jobs_b1.FnAppendBytesDecodes", spec := "fnAppendBytesDecodes", apart := false }
def FnAppendBytesDecodesSaid : Prop := fnAppendBytesDecodesRow.holds Try.pinned (OpenSpec.ofChange fnAppendBytesDecodesSpec)

/-- ITS FALSE NEIGHBOUR: 'it returns false'. Refute it at one input. -/
def fnAppendBytesDecodesWrong : ChangeSpec := { name := "fnAppendBytesDecodes", fn := fun _ => fun
  | [d1, d2] => { results := [.lit (.bool false)], args := [d1, d2] }
  | _ => none }
def FnAppendBytesDecodesWrongFalsely : Prop := fnAppendBytesDecodesRow.holds Try.pinned (OpenSpec.ofChange fnAppendBytesDecodesWrong)

end Rows
end Go.Proofs.Qxb6621709a
