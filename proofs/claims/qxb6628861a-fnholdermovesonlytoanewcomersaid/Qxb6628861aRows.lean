/-
  No cell of these rows narrows 'for every input' (looked for: loops, veiled, ifaces, maps, wideKeys, modest, calm, conditions, laid).
  DERIVED. THE GIVEN ROWS OF THIS SEAT. 2 by the template 'for every input the law returns true; each argument reads behind the call as it read before'; 0 by the template 'total and deterministic' (their statements: Qxb6628861aTotals.lean).
  GIVEN WITH THE SEED: the statements are not yours to turn. If you find one false, say at which input.
  Laid BY PROGRAM, IN A SANDBOX (cutbox-rows.mjs): the forced cells as the released guide's own fill.sh prints them over the translation 6d48e68fd3a90282… (all of the seat's roots in one cut). By AI agents, Wed Nov 11 2026. No macro, syntax, notation, axiom, sorry.
-/
import Derived.Test.Qxb6628861aChecked
import GoSem.Claim
import GoSem.ClaimJoined
import GoSem.ClaimMapViews
import Derived.JoinedTies
import Derived.KernelRfl
namespace Go.Proofs.Qxb6628861a
/- THE CELL 'sum', in the pinned program and in every row, IS THE sha256 OF THE DUMP (.gsa) THAT Qxb6628861aProg.lean LOADS. Nothing in Lean hashes anything: it is a label: what it is worth is what the hold of that sum in a sandbox is worth. -/
noncomputable def Try.pinned : Pinned := { name := "qxb6628861a", sum := "6d48e68fd3a90282e4929a7568e8cc22f54fdb5dd68fa2c5c3ebe38cb0a16a82", checked := Try.checked }
namespace Rows
def none {H : Type} : Left H := { results := [], args := [] }

/-- 'zzlaws_internal_placement_b1.FnHolderIsFirstBestOfItsSite': WHATEVER THE INPUT: true; the input reads as it did. -/
def fnHolderIsFirstBestOfItsSiteSpec : ChangeSpec := { name := "fnHolderIsFirstBestOfItsSite", fn := fun _ => fun
  | [d1, d2, d3, d4, d5, d6] => { results := [.lit (.bool true)], args := [d1, d2, d3, d4, d5, d6] }
  | _ => none }
def fnHolderIsFirstBestOfItsSiteRow : OpenClaim := { program := "qxb6628861a", sum := "6d48e68fd3a90282e4929a7568e8cc22f54fdb5dd68fa2c5c3ebe38cb0a16a82", func := "example.com/isochrone/isochrone/zzlaws_internal_placement_b1.FnHolderIsFirstBestOfItsSite", spec := "fnHolderIsFirstBestOfItsSite", unfollowed := true, recurses := true, apart := false }
def FnHolderIsFirstBestOfItsSiteSaid : Prop := fnHolderIsFirstBestOfItsSiteRow.holds Try.pinned (OpenSpec.ofChange fnHolderIsFirstBestOfItsSiteSpec)

/-- ITS FALSE NEIGHBOUR: 'it returns false'. Refute it at one input. -/
def fnHolderIsFirstBestOfItsSiteWrong : ChangeSpec := { name := "fnHolderIsFirstBestOfItsSite", fn := fun _ => fun
  | [d1, d2, d3, d4, d5, d6] => { results := [.lit (.bool false)], args := [d1, d2, d3, d4, d5, d6] }
  | _ => none }
def FnHolderIsFirstBestOfItsSiteWrongFalsely : Prop := fnHolderIsFirstBestOfItsSiteRow.holds Try.pinned (OpenSpec.ofChange fnHolderIsFirstBestOfItsSiteWrong)

/-- 'zzlaws_internal_placement_b1.FnHolderMovesOnlyToANewcomer': WHATEVER THE INPUT: true; the input reads as it did. -/
def fnHolderMovesOnlyToANewcomerSpec : ChangeSpec := { name := "fnHolderMovesOnlyToANewcomer", fn := fun _ => fun
  | [d1, d2, d3, d4, d5, d6, d7, d8, d9] => { results := [.lit (.bool true)], args := [d1, d2, d3, d4, d5, d6, d7, d8, d9] }
  | _ => none }
def fnHolderMovesOnlyToANewcomerRow : OpenClaim := { program := "qxb6628861a", sum := "6d48e68fd3a90282e4929a7568e8cc22f54fdb5dd68fa2c5c3ebe38cb0a16a82", func := "example.com/isochrone/isochrone/zzlaws_internal_placement_b1.FnHolderMovesOnlyToANewcomer", spec := "fnHolderMovesOnlyToANewcomer", unfollowed := true, recurses := true, apart := false }
def FnHolderMovesOnlyToANewcomerSaid : Prop := fnHolderMovesOnlyToANewcomerRow.holds Try.pinned (OpenSpec.ofChange fnHolderMovesOnlyToANewcomerSpec)

/-- ITS FALSE NEIGHBOUR: 'it returns false'. Refute it at one input. -/
def fnHolderMovesOnlyToANewcomerWrong : ChangeSpec := { name := "fnHolderMovesOnlyToANewcomer", fn := fun _ => fun
  | [d1, d2, d3, d4, d5, d6, d7, d8, d9] => { results := [.lit (.bool false)], args := [d1, d2, d3, d4, d5, d6, d7, d8, d9] }
  | _ => none }
def FnHolderMovesOnlyToANewcomerWrongFalsely : Prop := fnHolderMovesOnlyToANewcomerRow.holds Try.pinned (OpenSpec.ofChange fnHolderMovesOnlyToANewcomerWrong)

end Rows
end Go.Proofs.Qxb6628861a
