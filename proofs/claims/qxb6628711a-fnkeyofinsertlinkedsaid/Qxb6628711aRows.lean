/-
  No cell of these rows narrows 'for every input' (looked for: loops, veiled, ifaces, maps, wideKeys, modest, calm, conditions, laid).
  DERIVED. THE GIVEN ROWS OF THIS SEAT. 2 by the template 'for every input the law returns true; each argument reads behind the call as it read before'; 0 by the template 'total and deterministic' (their statements: Qxb6628711aTotals.lean).
  GIVEN WITH THE SEED: the statements are not yours to turn. If you find one false, say at which input.
  Laid BY PROGRAM, IN A SANDBOX (cutbox-rows.mjs): the forced cells as the released guide's own fill.sh prints them over the translation 781c813a56f8b0a8… (all of the seat's roots in one cut). By AI agents, Wed Nov 11 2026. No macro, syntax, notation, axiom, sorry.
-/
import Derived.Test.Qxb6628711aChecked
import GoSem.Claim
import GoSem.ClaimJoined
import GoSem.ClaimMapViews
import Derived.JoinedTies
import Derived.KernelRfl
namespace Go.Proofs.Qxb6628711a
/- THE CELL 'sum', in the pinned program and in every row, IS THE sha256 OF THE DUMP (.gsa) THAT Qxb6628711aProg.lean LOADS. Nothing in Lean hashes anything: it is a label: what it is worth is what the hold of that sum in a sandbox is worth. -/
noncomputable def Try.pinned : Pinned := { name := "qxb6628711a", sum := "781c813a56f8b0a80c3087c1e2d7bcd49a7716e63005aa8320d8ecd97060efa1", checked := Try.checked }
namespace Rows
def none {H : Type} : Left H := { results := [], args := [] }

/-- 'zzlaws_internal_roster_b1.FnKeyOfInsertLinked': WHATEVER THE INPUT: true; the input reads as it did. -/
def fnKeyOfInsertLinkedSpec : ChangeSpec := { name := "fnKeyOfInsertLinked", fn := fun _ => fun
  | [d1, d2, d3, d4, d5, d6, d7] => { results := [.lit (.bool true)], args := [d1, d2, d3, d4, d5, d6, d7] }
  | _ => none }
def fnKeyOfInsertLinkedRow : OpenClaim := { program := "qxb6628711a", sum := "781c813a56f8b0a80c3087c1e2d7bcd49a7716e63005aa8320d8ecd97060efa1", func := "example.com/fairhold/fairhold/zzlaws_internal_roster_b1.FnKeyOfInsertLinked", spec := "fnKeyOfInsertLinked", apart := false }
def FnKeyOfInsertLinkedSaid : Prop := fnKeyOfInsertLinkedRow.holds Try.pinned (OpenSpec.ofChange fnKeyOfInsertLinkedSpec)

/-- ITS FALSE NEIGHBOUR: 'it returns false'. Refute it at one input. -/
def fnKeyOfInsertLinkedWrong : ChangeSpec := { name := "fnKeyOfInsertLinked", fn := fun _ => fun
  | [d1, d2, d3, d4, d5, d6, d7] => { results := [.lit (.bool false)], args := [d1, d2, d3, d4, d5, d6, d7] }
  | _ => none }
def FnKeyOfInsertLinkedWrongFalsely : Prop := fnKeyOfInsertLinkedRow.holds Try.pinned (OpenSpec.ofChange fnKeyOfInsertLinkedWrong)

/-- 'zzlaws_internal_roster_b1.FnKeyOfAcceptsExactlyIdentities': WHATEVER THE INPUT: true; the input reads as it did. -/
def fnKeyOfAcceptsExactlyIdentitiesSpec : ChangeSpec := { name := "fnKeyOfAcceptsExactlyIdentities", fn := fun _ => fun
  | [d1, d2, d3, d4, d5] => { results := [.lit (.bool true)], args := [d1, d2, d3, d4, d5] }
  | _ => none }
def fnKeyOfAcceptsExactlyIdentitiesRow : OpenClaim := { program := "qxb6628711a", sum := "781c813a56f8b0a80c3087c1e2d7bcd49a7716e63005aa8320d8ecd97060efa1", func := "example.com/fairhold/fairhold/zzlaws_internal_roster_b1.FnKeyOfAcceptsExactlyIdentities", spec := "fnKeyOfAcceptsExactlyIdentities", apart := false }
def FnKeyOfAcceptsExactlyIdentitiesSaid : Prop := fnKeyOfAcceptsExactlyIdentitiesRow.holds Try.pinned (OpenSpec.ofChange fnKeyOfAcceptsExactlyIdentitiesSpec)

/-- ITS FALSE NEIGHBOUR: 'it returns false'. Refute it at one input. -/
def fnKeyOfAcceptsExactlyIdentitiesWrong : ChangeSpec := { name := "fnKeyOfAcceptsExactlyIdentities", fn := fun _ => fun
  | [d1, d2, d3, d4, d5] => { results := [.lit (.bool false)], args := [d1, d2, d3, d4, d5] }
  | _ => none }
def FnKeyOfAcceptsExactlyIdentitiesWrongFalsely : Prop := fnKeyOfAcceptsExactlyIdentitiesRow.holds Try.pinned (OpenSpec.ofChange fnKeyOfAcceptsExactlyIdentitiesWrong)

end Rows
end Go.Proofs.Qxb6628711a
