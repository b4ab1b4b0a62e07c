/-
  No cell of these rows narrows 'for every input' (looked for: loops, veiled, ifaces, maps, wideKeys, modest, calm, conditions, laid).
  DERIVED. THE GIVEN ROWS OF THIS SEAT. 2 by the template 'for every input the law returns true; each argument reads behind the call as it read before'; 0 by the template 'total and deterministic' (their statements: Qxb6627564aTotals.lean).
  GIVEN WITH THE SEED: the statements are not yours to turn. If you find one false, say at which input.
  Laid BY PROGRAM, IN A SANDBOX (cutbox-rows.mjs): the forced cells as the released guide's own fill.sh prints them over the translation ee4e6865cee9d52d… (all of the seat's roots in one cut). By AI agents, Wed Nov 11 2026. No macro, syntax, notation, axiom, sorry.
-/
import Derived.Test.Qxb6627564aChecked
import GoSem.Claim
import GoSem.ClaimJoined
import GoSem.ClaimMapViews
import Derived.JoinedTies
import Derived.KernelRfl
namespace Go.Proofs.Qxb6627564a
/- THE CELL 'sum', in the pinned program and in every row, IS THE sha256 OF THE DUMP (.gsa) THAT Qxb6627564aProg.lean LOADS. Nothing in Lean hashes anything: it is a label: what it is worth is what the hold of that sum in a sandbox is worth. -/
noncomputable def Try.pinned : Pinned := { name := "qxb6627564a", sum := "ee4e6865cee9d52dbd3f820d3555205329d2d36c0332589567e525612e02c910", checked := Try.checked }
namespace Rows
def none {H : Type} : Left H := { results := [], args := [] }

/-- 'zzlaws_names_b1.FnValidMatchesShapeSpec': WHATEVER THE INPUT: true; the input reads as it did. -/
def fnValidMatchesShapeSpecSpec : ChangeSpec := { name := "fnValidMatchesShapeSpec", fn := fun _ => fun
  | [d] => { results := [.lit (.bool true)], args := [d] }
  | _ => none }
def fnValidMatchesShapeSpecRow : OpenClaim := { program := "qxb6627564a", sum := "ee4e6865cee9d52dbd3f820d3555205329d2d36c0332589567e525612e02c910", func := "example.com/roll-call/roll-call/zzlaws_names_b1.FnValidMatchesShapeSpec", spec := "fnValidMatchesShapeSpec", apart := false }
def FnValidMatchesShapeSpecSaid : Prop := fnValidMatchesShapeSpecRow.holds Try.pinned (OpenSpec.ofChange fnValidMatchesShapeSpecSpec)

/-- ITS FALSE NEIGHBOUR: 'it returns false'. Refute it at one input. -/
def fnValidMatchesShapeSpecWrong : ChangeSpec := { name := "fnValidMatchesShapeSpec", fn := fun _ => fun
  | [d] => { results := [.lit (.bool false)], args := [d] }
  | _ => none }
def FnValidMatchesShapeSpecWrongFalsely : Prop := fnValidMatchesShapeSpecRow.holds Try.pinned (OpenSpec.ofChange fnValidMatchesShapeSpecWrong)

/-- 'zzlaws_names_b1.FnValidSeparatorInsertAndEnds': WHATEVER THE INPUT: true; the input reads as it did. -/
def fnValidSeparatorInsertAndEndsSpec : ChangeSpec := { name := "fnValidSeparatorInsertAndEnds", fn := fun _ => fun
  | [d1, d2, d3] => { results := [.lit (.bool true)], args := [d1, d2, d3] }
  | _ => none }
def fnValidSeparatorInsertAndEndsRow : OpenClaim := { program := "qxb6627564a", sum := "ee4e6865cee9d52dbd3f820d3555205329d2d36c0332589567e525612e02c910", func := "example.com/roll-call/roll-call/zzlaws_names_b1.FnValidSeparatorInsertAndEnds", spec := "fnValidSeparatorInsertAndEnds", apart := false }
def FnValidSeparatorInsertAndEndsSaid : Prop := fnValidSeparatorInsertAndEndsRow.holds Try.pinned (OpenSpec.ofChange fnValidSeparatorInsertAndEndsSpec)

/-- ITS FALSE NEIGHBOUR: 'it returns false'. Refute it at one input. -/
def fnValidSeparatorInsertAndEndsWrong : ChangeSpec := { name := "fnValidSeparatorInsertAndEnds", fn := fun _ => fun
  | [d1, d2, d3] => { results := [.lit (.bool false)], args := [d1, d2, d3] }
  | _ => none }
def FnValidSeparatorInsertAndEndsWrongFalsely : Prop := fnValidSeparatorInsertAndEndsRow.holds Try.pinned (OpenSpec.ofChange fnValidSeparatorInsertAndEndsWrong)

end Rows
end Go.Proofs.Qxb6627564a
