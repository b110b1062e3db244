/-
  No cell of these rows narrows 'for every input' (looked for: loops, veiled, ifaces, maps, wideKeys, modest, calm, conditions, laid).
  DERIVED. THE GIVEN ROWS OF THIS SEAT. 3 by the template 'for every input the law returns true; each argument reads behind the call as it read before'; 0 by the template 'total and deterministic' (their statements: Qxb6619358aTotals.lean).
  GIVEN WITH THE SEED: the statements are not yours to turn. If you find one false, say at which input.
  Laid BY PROGRAM, IN A SANDBOX (cutbox-rows.mjs): the forced cells as the released guide's own fill.sh prints them over the translation a664811eebd0d65a… (all of the seat's roots in one cut). By AI agents, Wed Nov 11 2026. No macro, syntax, notation, axiom, sorry.
-/
import Derived.Test.Qxb6619358aChecked
import GoSem.Claim
import GoSem.ClaimJoined
import GoSem.ClaimMapViews
import Derived.JoinedTies
import Derived.KernelRfl
namespace Go.Proofs.Qxb6619358a
/- THE CELL 'sum', in the pinned program and in every row, IS THE sha256 OF THE DUMP (.gsa) THAT Qxb6619358aProg.lean LOADS. Nothing in Lean hashes anything: it is a label: what it is worth is what the hold of that sum in a sandbox is worth. -/
noncomputable def Try.pinned : Pinned := { name := "qxb6619358a", sum := "a664811eebd0d65a886cf38219d9fcc49e3624380f5d5176b49c316b3e6ec1c2", checked := Try.checked }
namespace Rows
def none {H : Type} : Left H := { results := [], args := [] }

/-- 'zzlaws_root_b1.FnStringEndShiftedMatchesParityModel': WHATEVER THE INPUT: true; the input reads as it did. -/
def fnStringEndShiftedMatchesParityModelSpec : ChangeSpec := { name := "fnStringEndShiftedMatchesParityModel", fn := fun _ => fun
  | [d1, d2, d3] => { results := [.lit (.bool true)], args := [d1, d2, d3] }
  | _ => none }
def fnStringEndShiftedMatchesParityModelRow : OpenClaim := { program := "qxb6619358a", sum := "a664811eebd0d65a886cf38219d9fcc49e3624380f5d5176b49c316b3e6ec1c2", func := "example.com/cairn/cairn/zzlaws_root_b1.FnStringEndShiftedMatchesParityModel", spec := "fnStringEndShiftedMatchesParityModel", apart := false }
def FnStringEndShiftedMatchesParityModelSaid : Prop := fnStringEndShiftedMatchesParityModelRow.holds Try.pinned (OpenSpec.ofChange fnStringEndShiftedMatchesParityModelSpec)

/-- ITS FALSE NEIGHBOUR: 'it returns false'. Refute it at one input. -/
def fnStringEndShiftedMatchesParityModelWrong : ChangeSpec := { name := "fnStringEndShiftedMatchesParityModel", fn := fun _ => fun
  | [d1, d2, d3] => { results := [.lit (.bool false)], args := [d1, d2, d3] }
  | _ => none }
def FnStringEndShiftedMatchesParityModelWrongFalsely : Prop := fnStringEndShiftedMatchesParityModelRow.holds Try.pinned (OpenSpec.ofChange fnStringEndShiftedMatchesParityModelWrong)

/-- 'zzlaws_root_b1.FnStringEndKeepsClosedLiteralUnderAppend': WHATEVER THE INPUT: true; the input reads as it did. -/
def fnStringEndKeepsClosedLiteralUnderAppendSpec : ChangeSpec := { name := "fnStringEndKeepsClosedLiteralUnderAppend", fn := fun _ => fun
  | [d1, d2, d3] => { results := [.lit (.bool true)], args := [d1, d2, d3] }
  | _ => none }
def fnStringEndKeepsClosedLiteralUnderAppendRow : OpenClaim := { program := "qxb6619358a", sum := "a664811eebd0d65a886cf38219d9fcc49e3624380f5d5176b49c316b3e6ec1c2", func := "example.com/cairn/cairn/zzlaws_root_b1.FnStringEndKeepsClosedLiteralUnderAppend", spec := "fnStringEndKeepsClosedLiteralUnderAppend", apart := false }
def FnStringEndKeepsClosedLiteralUnderAppendSaid : Prop := fnStringEndKeepsClosedLiteralUnderAppendRow.holds Try.pinned (OpenSpec.ofChange fnStringEndKeepsClosedLiteralUnderAppendSpec)

/-- ITS FALSE NEIGHBOUR: 'it returns false'. Refute it at one input. -/
def fnStringEndKeepsClosedLiteralUnderAppendWrong : ChangeSpec := { name := "fnStringEndKeepsClosedLiteralUnderAppend", fn := fun _ => fun
  | [d1, d2, d3] => { results := [.lit (.bool false)], args := [d1, d2, d3] }
  | _ => none }
def FnStringEndKeepsClosedLiteralUnderAppendWrongFalsely : Prop := fnStringEndKeepsClosedLiteralUnderAppendRow.holds Try.pinned (OpenSpec.ofChange fnStringEndKeepsClosedLiteralUnderAppendWrong)

/-- 'zzlaws_root_b1.FnRuneOffsetSplitsAtAnyCharacter': WHATEVER THE INPUT: true; the input reads as it did. -/
def fnRuneOffsetSplitsAtAnyCharacterSpec : ChangeSpec := { name := "fnRuneOffsetSplitsAtAnyCharacter", fn := fun _ => fun
  | [d1, d2, d3] => { results := [.lit (.bool true)], args := [d1, d2, d3] }
  | _ => none }
def fnRuneOffsetSplitsAtAnyCharacterRow : OpenClaim := { program := "qxb6619358a", sum := "a664811eebd0d65a886cf38219d9fcc49e3624380f5d5176b49c316b3e6ec1c2", func := "example.com/cairn/cairn/zzlaws_root_b1.FnRuneOffsetSplitsAtAnyCharacter", spec := "fnRuneOffsetSplitsAtAnyCharacter", apart := false }
def FnRuneOffsetSplitsAtAnyCharacterSaid : Prop := fnRuneOffsetSplitsAtAnyCharacterRow.holds Try.pinned (OpenSpec.ofChange fnRuneOffsetSplitsAtAnyCharacterSpec)

/-- ITS FALSE NEIGHBOUR: 'it returns false'. Refute it at one input. -/
def fnRuneOffsetSplitsAtAnyCharacterWrong : ChangeSpec := { name := "fnRuneOffsetSplitsAtAnyCharacter", fn := fun _ => fun
  | [d1, d2, d3] => { results := [.lit (.bool false)], args := [d1, d2, d3] }
  | _ => none }
def FnRuneOffsetSplitsAtAnyCharacterWrongFalsely : Prop := fnRuneOffsetSplitsAtAnyCharacterRow.holds Try.pinned (OpenSpec.ofChange fnRuneOffsetSplitsAtAnyCharacterWrong)

end Rows
end Go.Proofs.Qxb6619358a
