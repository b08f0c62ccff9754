/-
  No cell of these rows narrows 'for every input' (looked for: loops, veiled, ifaces, maps, wideKeys, modest, calm, conditions, laid).
  DERIVED. THE GIVEN ROWS OF THIS SEAT. 2 by the template 'for every input the law returns true; each argument reads behind the call as it read before'; 0 by the template 'total and deterministic' (their statements: Qxb6628816aTotals.lean).
  GIVEN WITH THE SEED: the statements are not yours to turn. If you find one false, say at which input.
  Laid BY PROGRAM, IN A SANDBOX (cutbox-rows.mjs): the forced cells as the released guide's own fill.sh prints them over the translation 3d79681fd5ae5dea… (all of the seat's roots in one cut). By AI agents, Wed Nov 11 2026. No macro, syntax, notation, axiom, sorry.
-/
import Derived.Test.Qxb6628816aChecked
import GoSem.Claim
import GoSem.ClaimJoined
import GoSem.ClaimMapViews
import Derived.JoinedTies
import Derived.KernelRfl
namespace Go.Proofs.Qxb6628816a
/- THE CELL 'sum', in the pinned program and in every row, IS THE sha256 OF THE DUMP (.gsa) THAT Qxb6628816aProg.lean LOADS. Nothing in Lean hashes anything: it is a label: what it is worth is what the hold of that sum in a sandbox is worth. -/
noncomputable def Try.pinned : Pinned := { name := "qxb6628816a", sum := "3d79681fd5ae5dea9eedc5bd14b5c93345ed328ec05a5b2d4565a7fa0cd1540c", checked := Try.checked }
namespace Rows
def none {H : Type} : Left H := { results := [], args := [] }

/-- 'zzlaws_internal_state_b1.FnPiecesSliceIsFlatRange': WHATEVER THE INPUT: true; the input reads as it did. -/
def fnPiecesSliceIsFlatRangeSpec : ChangeSpec := { name := "fnPiecesSliceIsFlatRange", fn := fun _ => fun
  | [d1, d2, d3] => { results := [.lit (.bool true)], args := [d1, d2, d3] }
  | _ => none }
def fnPiecesSliceIsFlatRangeRow : OpenClaim := { program := "qxb6628816a", sum := "3d79681fd5ae5dea9eedc5bd14b5c93345ed328ec05a5b2d4565a7fa0cd1540c", func := "example.com/waymark/waymark/zzlaws_internal_state_b1.FnPiecesSliceIsFlatRange", spec := "fnPiecesSliceIsFlatRange", apart := false }
def FnPiecesSliceIsFlatRangeSaid : Prop := fnPiecesSliceIsFlatRangeRow.holds Try.pinned (OpenSpec.ofChange fnPiecesSliceIsFlatRangeSpec)

/-- ITS FALSE NEIGHBOUR: 'it returns false'. Refute it at one input. -/
def fnPiecesSliceIsFlatRangeWrong : ChangeSpec := { name := "fnPiecesSliceIsFlatRange", fn := fun _ => fun
  | [d1, d2, d3] => { results := [.lit (.bool false)], args := [d1, d2, d3] }
  | _ => none }
def FnPiecesSliceIsFlatRangeWrongFalsely : Prop := fnPiecesSliceIsFlatRangeRow.holds Try.pinned (OpenSpec.ofChange fnPiecesSliceIsFlatRangeWrong)

/-- 'zzlaws_internal_state_b1.FnPiecesSliceOwnsNoRoomAndAliasesOnlyOnePiece': WHATEVER THE INPUT: true; the input reads as it did. -/
def fnPiecesSliceOwnsNoRoomAndAliasesOnlyOnePieceSpec : ChangeSpec := { name := "fnPiecesSliceOwnsNoRoomAndAliasesOnlyOnePiece", fn := fun _ => fun
  | [d1, d2, d3] => { results := [.lit (.bool true)], args := [d1, d2, d3] }
  | _ => none }
def fnPiecesSliceOwnsNoRoomAndAliasesOnlyOnePieceRow : OpenClaim := { program := "qxb6628816a", sum := "3d79681fd5ae5dea9eedc5bd14b5c93345ed328ec05a5b2d4565a7fa0cd1540c", func := "example.com/waymark/waymark/zzlaws_internal_state_b1.FnPiecesSliceOwnsNoRoomAndAliasesOnlyOnePiece", spec := "fnPiecesSliceOwnsNoRoomAndAliasesOnlyOnePiece", apart := false }
def FnPiecesSliceOwnsNoRoomAndAliasesOnlyOnePieceSaid : Prop := fnPiecesSliceOwnsNoRoomAndAliasesOnlyOnePieceRow.holds Try.pinned (OpenSpec.ofChange fnPiecesSliceOwnsNoRoomAndAliasesOnlyOnePieceSpec)

/-- ITS FALSE NEIGHBOUR: 'it returns false'. Refute it at one input. -/
def fnPiecesSliceOwnsNoRoomAndAliasesOnlyOnePieceWrong : ChangeSpec := { name := "fnPiecesSliceOwnsNoRoomAndAliasesOnlyOnePiece", fn := fun _ => fun
  | [d1, d2, d3] => { results := [.lit (.bool false)], args := [d1, d2, d3] }
  | _ => none }
def FnPiecesSliceOwnsNoRoomAndAliasesOnlyOnePieceWrongFalsely : Prop := fnPiecesSliceOwnsNoRoomAndAliasesOnlyOnePieceRow.holds Try.pinned (OpenSpec.ofChange fnPiecesSliceOwnsNoRoomAndAliasesOnlyOnePieceWrong)

end Rows
end Go.Proofs.Qxb6628816a
