/-
  No cell of these rows narrows 'for every input' (looked for: loops, veiled, ifaces, maps, wideKeys, modest, calm, conditions, laid).
  DERIVED. THE GIVEN ROWS OF THIS SEAT. 2 by the template 'for every input the law returns true; each argument reads behind the call as it read before'; 0 by the template 'total and deterministic' (their statements: Qxb6628748aTotals.lean).
  GIVEN WITH THE SEED: the statements are not yours to turn. If you find one false, say at which input.
  Laid BY PROGRAM, IN A SANDBOX (cutbox-rows.mjs): the forced cells as the released guide's own fill.sh prints them over the translation 4df59530eba46e99… (all of the seat's roots in one cut). By AI agents, Wed Nov 11 2026. No macro, syntax, notation, axiom, sorry.
-/
import Derived.Test.Qxb6628748aChecked
import GoSem.Claim
import GoSem.ClaimJoined
import GoSem.ClaimMapViews
import Derived.JoinedTies
import Derived.KernelRfl
namespace Go.Proofs.Qxb6628748a
/- THE CELL 'sum', in the pinned program and in every row, IS THE sha256 OF THE DUMP (.gsa) THAT Qxb6628748aProg.lean LOADS. Nothing in Lean hashes anything: it is a label: what it is worth is what the hold of that sum in a sandbox is worth. -/
noncomputable def Try.pinned : Pinned := { name := "qxb6628748a", sum := "4df59530eba46e998f267192b0e3a1f7bdf05f511a3b28c0224f769646582b1b", checked := Try.checked }
namespace Rows
def none {H : Type} : Left H := { results := [], args := [] }

/-- 'zzlaws_pkg_store_b1.FnEndedTwiceKeepsTheLastEnd': WHATEVER THE INPUT: true; the input reads as it did. -/
def fnEndedTwiceKeepsTheLastEndSpec : ChangeSpec := { name := "fnEndedTwiceKeepsTheLastEnd", fn := fun _ => fun
  | [d1, d2, d3, d4, d5, d6, d7, d8, d9, d10, d11, d12] => { results := [.lit (.bool true)], args := [d1, d2, d3, d4, d5, d6, d7, d8, d9, d10, d11, d12] }
  | _ => none }
def fnEndedTwiceKeepsTheLastEndRow : OpenClaim := { program := "qxb6628748a", sum := "4df59530eba46e998f267192b0e3a1f7bdf05f511a3b28c0224f769646582b1b", func := "example.com/onetake/onetake/zzlaws_pkg_store_b1.FnEndedTwiceKeepsTheLastEnd", spec := "fnEndedTwiceKeepsTheLastEnd", apart := false }
def FnEndedTwiceKeepsTheLastEndSaid : Prop := fnEndedTwiceKeepsTheLastEndRow.holds Try.pinned (OpenSpec.ofChange fnEndedTwiceKeepsTheLastEndSpec)

/-- ITS FALSE NEIGHBOUR: 'it returns false'. Refute it at one input. -/
def fnEndedTwiceKeepsTheLastEndWrong : ChangeSpec := { name := "fnEndedTwiceKeepsTheLastEnd", fn := fun _ => fun
  | [d1, d2, d3, d4, d5, d6, d7, d8, d9, d10, d11, d12] => { results := [.lit (.bool false)], args := [d1, d2, d3, d4, d5, d6, d7, d8, d9, d10, d11, d12] }
  | _ => none }
def FnEndedTwiceKeepsTheLastEndWrongFalsely : Prop := fnEndedTwiceKeepsTheLastEndRow.holds Try.pinned (OpenSpec.ofChange fnEndedTwiceKeepsTheLastEndWrong)

/-- 'zzlaws_pkg_store_b1.FnEndedResultsOwnFreshCells': WHATEVER THE INPUT: true; the input reads as it did. -/
def fnEndedResultsOwnFreshCellsSpec : ChangeSpec := { name := "fnEndedResultsOwnFreshCells", fn := fun _ => fun
  | [d1, d2, d3, d4, d5, d6, d7, d8, d9, d10] => { results := [.lit (.bool true)], args := [d1, d2, d3, d4, d5, d6, d7, d8, d9, d10] }
  | _ => none }
def fnEndedResultsOwnFreshCellsRow : OpenClaim := { program := "qxb6628748a", sum := "4df59530eba46e998f267192b0e3a1f7bdf05f511a3b28c0224f769646582b1b", func := "example.com/onetake/onetake/zzlaws_pkg_store_b1.FnEndedResultsOwnFreshCells", spec := "fnEndedResultsOwnFreshCells", apart := false }
def FnEndedResultsOwnFreshCellsSaid : Prop := fnEndedResultsOwnFreshCellsRow.holds Try.pinned (OpenSpec.ofChange fnEndedResultsOwnFreshCellsSpec)

/-- ITS FALSE NEIGHBOUR: 'it returns false'. Refute it at one input. -/
def fnEndedResultsOwnFreshCellsWrong : ChangeSpec := { name := "fnEndedResultsOwnFreshCells", fn := fun _ => fun
  | [d1, d2, d3, d4, d5, d6, d7, d8, d9, d10] => { results := [.lit (.bool false)], args := [d1, d2, d3, d4, d5, d6, d7, d8, d9, d10] }
  | _ => none }
def FnEndedResultsOwnFreshCellsWrongFalsely : Prop := fnEndedResultsOwnFreshCellsRow.holds Try.pinned (OpenSpec.ofChange fnEndedResultsOwnFreshCellsWrong)

end Rows
end Go.Proofs.Qxb6628748a
