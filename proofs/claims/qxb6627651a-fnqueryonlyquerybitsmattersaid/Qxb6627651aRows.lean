/-
  No cell of these rows narrows 'for every input' (looked for: loops, veiled, ifaces, maps, wideKeys, modest, calm, conditions, laid).
  DERIVED. THE GIVEN ROWS OF THIS SEAT. 1 by the template 'for every input the law returns true; each argument reads behind the call as it read before'; 0 by the template 'total and deterministic' (their statements: Qxb6627651aTotals.lean).
  GIVEN WITH THE SEED: the statements are not yours to turn. If you find one false, say at which input.
  Laid BY PROGRAM, IN A SANDBOX (cutbox-rows.mjs): the forced cells as the released guide's own fill.sh prints them over the translation 83e4064ac6407390… (all of the seat's roots in one cut). By AI agents, Wed Nov 11 2026. No macro, syntax, notation, axiom, sorry.
-/
import Derived.Test.Qxb6627651aChecked
import GoSem.Claim
import GoSem.ClaimJoined
import GoSem.ClaimMapViews
import Derived.JoinedTies
import Derived.KernelRfl
namespace Go.Proofs.Qxb6627651a
/- THE CELL 'sum', in the pinned program and in every row, IS THE sha256 OF THE DUMP (.gsa) THAT Qxb6627651aProg.lean LOADS. Nothing in Lean hashes anything: it is a label: what it is worth is what the hold of that sum in a sandbox is worth. -/
noncomputable def Try.pinned : Pinned := { name := "qxb6627651a", sum := "83e4064ac64073904e000554850e08a736be6f3483cdf432002cf38825ba72f5", checked := Try.checked }
namespace Rows
def none {H : Type} : Left H := { results := [], args := [] }

/-- 'zzlaws_internal_uri_b1.FnQueryOnlyQueryBitsMatter': WHATEVER THE INPUT: true; the input reads as it did. -/
def fnQueryOnlyQueryBitsMatterSpec : ChangeSpec := { name := "fnQueryOnlyQueryBitsMatter", fn := fun _ => fun
  | [d1, d2, d3, d4, d5, d6, d7, d8, d9, d10] => { results := [.lit (.bool true)], args := [d1, d2, d3, d4, d5, d6, d7, d8, d9, d10] }
  | _ => none }
def fnQueryOnlyQueryBitsMatterRow : OpenClaim := { program := "qxb6627651a", sum := "83e4064ac64073904e000554850e08a736be6f3483cdf432002cf38825ba72f5", func := "example.com/neti/neti/zzlaws_internal_uri_b1.FnQueryOnlyQueryBitsMatter", spec := "fnQueryOnlyQueryBitsMatter", apart := false }
def FnQueryOnlyQueryBitsMatterSaid : Prop := fnQueryOnlyQueryBitsMatterRow.holds Try.pinned (OpenSpec.ofChange fnQueryOnlyQueryBitsMatterSpec)

/-- ITS FALSE NEIGHBOUR: 'it returns false'. Refute it at one input. -/
def fnQueryOnlyQueryBitsMatterWrong : ChangeSpec := { name := "fnQueryOnlyQueryBitsMatter", fn := fun _ => fun
  | [d1, d2, d3, d4, d5, d6, d7, d8, d9, d10] => { results := [.lit (.bool false)], args := [d1, d2, d3, d4, d5, d6, d7, d8, d9, d10] }
  | _ => none }
def FnQueryOnlyQueryBitsMatterWrongFalsely : Prop := fnQueryOnlyQueryBitsMatterRow.holds Try.pinned (OpenSpec.ofChange fnQueryOnlyQueryBitsMatterWrong)

end Rows
end Go.Proofs.Qxb6627651a
