/-
  No cell of these rows narrows 'for every input' (looked for: loops, veiled, ifaces, maps, wideKeys, modest, calm, conditions, laid).
  DERIVED. THE GIVEN ROWS OF THIS SEAT. 2 by the template 'for every input the law returns true; each argument reads behind the call as it read before'; 0 by the template 'total and deterministic' (their statements: Qxb6612460aTotals.lean).
  GIVEN WITH THE SEED: the statements are not yours to turn. If you find one false, say at which input.
  Laid BY PROGRAM, IN A SANDBOX (cutbox-rows.mjs): the forced cells as the released guide's own fill.sh prints them over the translation e5256e1eb79e8863… (all of the seat's roots in one cut). By AI agents, Wed Nov 11 2026. No macro, syntax, notation, axiom, sorry.
-/
import Derived.Test.Qxb6612460aChecked
import GoSem.Claim
import GoSem.ClaimJoined
import GoSem.ClaimMapViews
import Derived.JoinedTies
import Derived.KernelRfl
namespace Go.Proofs.Qxb6612460a
/- THE CELL 'sum', in the pinned program and in every row, IS THE sha256 OF THE DUMP (.gsa) THAT Qxb6612460aProg.lean LOADS. Nothing in Lean hashes anything: it is a label: what it is worth is what the hold of that sum in a sandbox is worth. -/
noncomputable def Try.pinned : Pinned := { name := "qxb6612460a", sum := "e5256e1eb79e8863317f885717f59888e4d47e21d82f9082e46a6d2531075996", checked := Try.checked }
namespace Rows
def none {H : Type} : Left H := { results := [], args := [] }

/-- 'zzlaws_internal_alloc_b1.FnFoldIsDivisionBound': WHATEVER THE INPUT: true; the input reads as it did. -/
def fnFoldIsDivisionBoundSpec : ChangeSpec := { name := "fnFoldIsDivisionBound", fn := fun _ => fun
  | [d1, d2, d3] => { results := [.lit (.bool true)], args := [d1, d2, d3] }
  | _ => none }
def fnFoldIsDivisionBoundRow : OpenClaim := { program := "qxb6612460a", sum := "e5256e1eb79e8863317f885717f59888e4d47e21d82f9082e46a6d2531075996", func := "example.com/corral/corral/zzlaws_internal_alloc_b1.FnFoldIsDivisionBound", spec := "fnFoldIsDivisionBound", apart := false }
def FnFoldIsDivisionBoundSaid : Prop := fnFoldIsDivisionBoundRow.holds Try.pinned (OpenSpec.ofChange fnFoldIsDivisionBoundSpec)

/-- ITS FALSE NEIGHBOUR: 'it returns false'. Refute it at one input. -/
def fnFoldIsDivisionBoundWrong : ChangeSpec := { name := "fnFoldIsDivisionBound", fn := fun _ => fun
  | [d1, d2, d3] => { results := [.lit (.bool false)], args := [d1, d2, d3] }
  | _ => none }
def FnFoldIsDivisionBoundWrongFalsely : Prop := fnFoldIsDivisionBoundRow.holds Try.pinned (OpenSpec.ofChange fnFoldIsDivisionBoundWrong)

/-- 'zzlaws_internal_alloc_b1.FnAskOfTellsShapesApart': WHATEVER THE INPUT: true; the input reads as it did. -/
def fnAskOfTellsShapesApartSpec : ChangeSpec := { name := "fnAskOfTellsShapesApart", fn := fun _ => fun
  | [d1, d2, d3, d4, d5, d6, d7, d8, d9, d10, d11] => { results := [.lit (.bool true)], args := [d1, d2, d3, d4, d5, d6, d7, d8, d9, d10, d11] }
  | _ => none }
def fnAskOfTellsShapesApartRow : OpenClaim := { program := "qxb6612460a", sum := "e5256e1eb79e8863317f885717f59888e4d47e21d82f9082e46a6d2531075996", func := "example.com/corral/corral/zzlaws_internal_alloc_b1.FnAskOfTellsShapesApart", spec := "fnAskOfTellsShapesApart", apart := false }
def FnAskOfTellsShapesApartSaid : Prop := fnAskOfTellsShapesApartRow.holds Try.pinned (OpenSpec.ofChange fnAskOfTellsShapesApartSpec)

/-- ITS FALSE NEIGHBOUR: 'it returns false'. Refute it at one input. -/
def fnAskOfTellsShapesApartWrong : ChangeSpec := { name := "fnAskOfTellsShapesApart", fn := fun _ => fun
  | [d1, d2, d3, d4, d5, d6, d7, d8, d9, d10, d11] => { results := [.lit (.bool false)], args := [d1, d2, d3, d4, d5, d6, d7, d8, d9, d10, d11] }
  | _ => none }
def FnAskOfTellsShapesApartWrongFalsely : Prop := fnAskOfTellsShapesApartRow.holds Try.pinned (OpenSpec.ofChange fnAskOfTellsShapesApartWrong)

end Rows
end Go.Proofs.Qxb6612460a
