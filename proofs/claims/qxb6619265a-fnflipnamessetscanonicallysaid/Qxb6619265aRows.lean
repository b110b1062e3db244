/-
  No cell of these rows narrows 'for every input' (looked for: loops, veiled, ifaces, maps, wideKeys, modest, calm, conditions, laid).
  DERIVED. THE GIVEN ROWS OF THIS SEAT. 3 by the template 'for every input the law returns true; each argument reads behind the call as it read before'; 0 by the template 'total and deterministic' (their statements: Qxb6619265aTotals.lean).
  GIVEN WITH THE SEED: the statements are not yours to turn. If you find one false, say at which input.
  Laid BY PROGRAM, IN A SANDBOX (cutbox-rows.mjs): the forced cells as the released guide's own fill.sh prints them over the translation 3353a7369656a862… (all of the seat's roots in one cut). By AI agents, Wed Nov 11 2026. No macro, syntax, notation, axiom, sorry.
-/
import Derived.Test.Qxb6619265aChecked
import GoSem.Claim
import GoSem.ClaimJoined
import GoSem.ClaimMapViews
import Derived.JoinedTies
import Derived.KernelRfl
namespace Go.Proofs.Qxb6619265a
/- THE CELL 'sum', in the pinned program and in every row, IS THE sha256 OF THE DUMP (.gsa) THAT Qxb6619265aProg.lean LOADS. Nothing in Lean hashes anything: it is a label: what it is worth is what the hold of that sum in a sandbox is worth. -/
noncomputable def Try.pinned : Pinned := { name := "qxb6619265a", sum := "3353a7369656a8627c5e8ad86068300e6cf3cfd0c7f198be28c38840eb0e913c", checked := Try.checked }
namespace Rows
def none {H : Type} : Left H := { results := [], args := [] }

/-- 'zzlaws_internal_search_b1.FnSplitOrderIndexesBackToOrder': WHATEVER THE INPUT: true; the input reads as it did. -/
def fnSplitOrderIndexesBackToOrderSpec : ChangeSpec := { name := "fnSplitOrderIndexesBackToOrder", fn := fun _ => fun
  | [d1, d2] => { results := [.lit (.bool true)], args := [d1, d2] }
  | _ => none }
def fnSplitOrderIndexesBackToOrderRow : OpenClaim := { program := "qxb6619265a", sum := "3353a7369656a8627c5e8ad86068300e6cf3cfd0c7f198be28c38840eb0e913c", func := "example.com/witnessline/witnessline/zzlaws_internal_search_b1.FnSplitOrderIndexesBackToOrder", spec := "fnSplitOrderIndexesBackToOrder", apart := false }
def FnSplitOrderIndexesBackToOrderSaid : Prop := fnSplitOrderIndexesBackToOrderRow.holds Try.pinned (OpenSpec.ofChange fnSplitOrderIndexesBackToOrderSpec)

/-- ITS FALSE NEIGHBOUR: 'it returns false'. Refute it at one input. -/
def fnSplitOrderIndexesBackToOrderWrong : ChangeSpec := { name := "fnSplitOrderIndexesBackToOrder", fn := fun _ => fun
  | [d1, d2] => { results := [.lit (.bool false)], args := [d1, d2] }
  | _ => none }
def FnSplitOrderIndexesBackToOrderWrongFalsely : Prop := fnSplitOrderIndexesBackToOrderRow.holds Try.pinned (OpenSpec.ofChange fnSplitOrderIndexesBackToOrderWrong)

/-- 'zzlaws_internal_search_b1.FnFlipNamesSetsCanonically': WHATEVER THE INPUT: true; the input reads as it did. -/
def fnFlipNamesSetsCanonicallySpec : ChangeSpec := { name := "fnFlipNamesSetsCanonically", fn := fun _ => fun
  | [d1, d2] => { results := [.lit (.bool true)], args := [d1, d2] }
  | _ => none }
def fnFlipNamesSetsCanonicallyRow : OpenClaim := { program := "qxb6619265a", sum := "3353a7369656a8627c5e8ad86068300e6cf3cfd0c7f198be28c38840eb0e913c", func := "example.com/witnessline/witnessline/zzlaws_internal_search_b1.FnFlipNamesSetsCanonically", spec := "fnFlipNamesSetsCanonically", apart := false }
def FnFlipNamesSetsCanonicallySaid : Prop := fnFlipNamesSetsCanonicallyRow.holds Try.pinned (OpenSpec.ofChange fnFlipNamesSetsCanonicallySpec)

/-- ITS FALSE NEIGHBOUR: 'it returns false'. Refute it at one input. -/
def fnFlipNamesSetsCanonicallyWrong : ChangeSpec := { name := "fnFlipNamesSetsCanonically", fn := fun _ => fun
  | [d1, d2] => { results := [.lit (.bool false)], args := [d1, d2] }
  | _ => none }
def FnFlipNamesSetsCanonicallyWrongFalsely : Prop := fnFlipNamesSetsCanonicallyRow.holds Try.pinned (OpenSpec.ofChange fnFlipNamesSetsCanonicallyWrong)

/-- 'zzlaws_internal_search_b1.FnFlipUndoesItselfAndCommutes': WHATEVER THE INPUT: true; the input reads as it did. -/
def fnFlipUndoesItselfAndCommutesSpec : ChangeSpec := { name := "fnFlipUndoesItselfAndCommutes", fn := fun _ => fun
  | [d1, d2, d3, d4] => { results := [.lit (.bool true)], args := [d1, d2, d3, d4] }
  | _ => none }
def fnFlipUndoesItselfAndCommutesRow : OpenClaim := { program := "qxb6619265a", sum := "3353a7369656a8627c5e8ad86068300e6cf3cfd0c7f198be28c38840eb0e913c", func := "example.com/witnessline/witnessline/zzlaws_internal_search_b1.FnFlipUndoesItselfAndCommutes", spec := "fnFlipUndoesItselfAndCommutes", apart := false }
def FnFlipUndoesItselfAndCommutesSaid : Prop := fnFlipUndoesItselfAndCommutesRow.holds Try.pinned (OpenSpec.ofChange fnFlipUndoesItselfAndCommutesSpec)

/-- ITS FALSE NEIGHBOUR: 'it returns false'. Refute it at one input. -/
def fnFlipUndoesItselfAndCommutesWrong : ChangeSpec := { name := "fnFlipUndoesItselfAndCommutes", fn := fun _ => fun
  | [d1, d2, d3, d4] => { results := [.lit (.bool false)], args := [d1, d2, d3, d4] }
  | _ => none }
def FnFlipUndoesItselfAndCommutesWrongFalsely : Prop := fnFlipUndoesItselfAndCommutesRow.holds Try.pinned (OpenSpec.ofChange fnFlipUndoesItselfAndCommutesWrong)

end Rows
end Go.Proofs.Qxb6619265a
