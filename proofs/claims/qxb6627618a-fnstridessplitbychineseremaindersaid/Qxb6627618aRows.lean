/-
  No cell of these rows narrows 'for every input' (looked for: loops, veiled, ifaces, maps, wideKeys, modest, calm, conditions, laid).
  DERIVED. THE GIVEN ROWS OF THIS SEAT. 2 by the template 'for every input the law returns true; each argument reads behind the call as it read before'; 0 by the template 'total and deterministic' (their statements: Qxb6627618aTotals.lean).
  GIVEN WITH THE SEED: the statements are not yours to turn. If you find one false, say at which input.
  Laid BY PROGRAM, IN A SANDBOX (cutbox-rows.mjs): the forced cells as the released guide's own fill.sh prints them over the translation d19d599bc7b8808f… (all of the seat's roots in one cut). By AI agents, Wed Nov 11 2026. No macro, syntax, notation, axiom, sorry.
-/
import Derived.Test.Qxb6627618aChecked
import GoSem.Claim
import GoSem.ClaimJoined
import GoSem.ClaimMapViews
import Derived.JoinedTies
import Derived.KernelRfl
namespace Go.Proofs.Qxb6627618a
/- THE CELL 'sum', in the pinned program and in every row, IS THE sha256 OF THE DUMP (.gsa) THAT Qxb6627618aProg.lean LOADS. Nothing in Lean hashes anything: it is a label: what it is worth is what the hold of that sum in a sandbox is worth. -/
noncomputable def Try.pinned : Pinned := { name := "qxb6627618a", sum := "d19d599bc7b8808ff5ed18b8ad6517d0cfe9e432a2dd14dad1622841b37b45d6", checked := Try.checked }
namespace Rows
def none {H : Type} : Left H := { results := [], args := [] }

/-- 'zzlaws_root_b1.FnStridesAreUnitsAndFollowEuclid': WHATEVER THE INPUT: true; the input reads as it did. -/
def fnStridesAreUnitsAndFollowEuclidSpec : ChangeSpec := { name := "fnStridesAreUnitsAndFollowEuclid", fn := fun _ => fun
  | [d1, d2] => { results := [.lit (.bool true)], args := [d1, d2] }
  | _ => none }
def fnStridesAreUnitsAndFollowEuclidRow : OpenClaim := { program := "qxb6627618a", sum := "d19d599bc7b8808ff5ed18b8ad6517d0cfe9e432a2dd14dad1622841b37b45d6", func := "example.com/stealr/stealr/zzlaws_root_b1.FnStridesAreUnitsAndFollowEuclid", spec := "fnStridesAreUnitsAndFollowEuclid", apart := false }
def FnStridesAreUnitsAndFollowEuclidSaid : Prop := fnStridesAreUnitsAndFollowEuclidRow.holds Try.pinned (OpenSpec.ofChange fnStridesAreUnitsAndFollowEuclidSpec)

/-- ITS FALSE NEIGHBOUR: 'it returns false'. Refute it at one input. -/
def fnStridesAreUnitsAndFollowEuclidWrong : ChangeSpec := { name := "fnStridesAreUnitsAndFollowEuclid", fn := fun _ => fun
  | [d1, d2] => { results := [.lit (.bool false)], args := [d1, d2] }
  | _ => none }
def FnStridesAreUnitsAndFollowEuclidWrongFalsely : Prop := fnStridesAreUnitsAndFollowEuclidRow.holds Try.pinned (OpenSpec.ofChange fnStridesAreUnitsAndFollowEuclidWrong)

/-- 'zzlaws_root_b1.FnStridesSplitByChineseRemainder': WHATEVER THE INPUT: true; the input reads as it did. -/
def fnStridesSplitByChineseRemainderSpec : ChangeSpec := { name := "fnStridesSplitByChineseRemainder", fn := fun _ => fun
  | [d1, d2] => { results := [.lit (.bool true)], args := [d1, d2] }
  | _ => none }
def fnStridesSplitByChineseRemainderRow : OpenClaim := { program := "qxb6627618a", sum := "d19d599bc7b8808ff5ed18b8ad6517d0cfe9e432a2dd14dad1622841b37b45d6", func := "example.com/stealr/stealr/zzlaws_root_b1.FnStridesSplitByChineseRemainder", spec := "fnStridesSplitByChineseRemainder", apart := false }
def FnStridesSplitByChineseRemainderSaid : Prop := fnStridesSplitByChineseRemainderRow.holds Try.pinned (OpenSpec.ofChange fnStridesSplitByChineseRemainderSpec)

/-- ITS FALSE NEIGHBOUR: 'it returns false'. Refute it at one input. -/
def fnStridesSplitByChineseRemainderWrong : ChangeSpec := { name := "fnStridesSplitByChineseRemainder", fn := fun _ => fun
  | [d1, d2] => { results := [.lit (.bool false)], args := [d1, d2] }
  | _ => none }
def FnStridesSplitByChineseRemainderWrongFalsely : Prop := fnStridesSplitByChineseRemainderRow.holds Try.pinned (OpenSpec.ofChange fnStridesSplitByChineseRemainderWrong)

end Rows
end Go.Proofs.Qxb6627618a
