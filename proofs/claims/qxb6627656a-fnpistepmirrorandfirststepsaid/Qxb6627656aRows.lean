/-
  No cell of these rows narrows 'for every input' (looked for: loops, veiled, ifaces, maps, wideKeys, modest, calm, conditions, laid).
  DERIVED. THE GIVEN ROWS OF THIS SEAT. 2 by the template 'for every input the law returns true; each argument reads behind the call as it read before'; 0 by the template 'total and deterministic' (their statements: Qxb6627656aTotals.lean).
  GIVEN WITH THE SEED: the statements are not yours to turn. If you find one false, say at which input.
  Laid BY PROGRAM, IN A SANDBOX (cutbox-rows.mjs): the forced cells as the released guide's own fill.sh prints them over the translation 3262e2ff0dfbf8fa… (all of the seat's roots in one cut). By AI agents, Wed Nov 11 2026. No macro, syntax, notation, axiom, sorry.
-/
import Derived.Test.Qxb6627656aChecked
import GoSem.Claim
import GoSem.ClaimJoined
import GoSem.ClaimMapViews
import Derived.JoinedTies
import Derived.KernelRfl
namespace Go.Proofs.Qxb6627656a
/- THE CELL 'sum', in the pinned program and in every row, IS THE sha256 OF THE DUMP (.gsa) THAT Qxb6627656aProg.lean LOADS. Nothing in Lean hashes anything: it is a label: what it is worth is what the hold of that sum in a sandbox is worth. -/
noncomputable def Try.pinned : Pinned := { name := "qxb6627656a", sum := "3262e2ff0dfbf8faf8a5676bf505b37a55dda42bbe33f54e2d328d476fb5480d", checked := Try.checked }
namespace Rows
def none {H : Type} : Left H := { results := [], args := [] }

/-- 'zzlaws_internal_control_b1.FnPIStepMirrorAndFirstStep': WHATEVER THE INPUT: true; the input reads as it did. -/
def fnPIStepMirrorAndFirstStepSpec : ChangeSpec := { name := "fnPIStepMirrorAndFirstStep", fn := fun _ => fun
  | [d1, d2, d3, d4, d5, d6, d7] => { results := [.lit (.bool true)], args := [d1, d2, d3, d4, d5, d6, d7] }
  | _ => none }
def fnPIStepMirrorAndFirstStepRow : OpenClaim := { program := "qxb6627656a", sum := "3262e2ff0dfbf8faf8a5676bf505b37a55dda42bbe33f54e2d328d476fb5480d", func := "example.com/setpoint/setpoint/zzlaws_internal_control_b1.FnPIStepMirrorAndFirstStep", spec := "fnPIStepMirrorAndFirstStep", apart := false }
def FnPIStepMirrorAndFirstStepSaid : Prop := fnPIStepMirrorAndFirstStepRow.holds Try.pinned (OpenSpec.ofChange fnPIStepMirrorAndFirstStepSpec)

/-- ITS FALSE NEIGHBOUR: 'it returns false'. Refute it at one input. -/
def fnPIStepMirrorAndFirstStepWrong : ChangeSpec := { name := "fnPIStepMirrorAndFirstStep", fn := fun _ => fun
  | [d1, d2, d3, d4, d5, d6, d7] => { results := [.lit (.bool false)], args := [d1, d2, d3, d4, d5, d6, d7] }
  | _ => none }
def FnPIStepMirrorAndFirstStepWrongFalsely : Prop := fnPIStepMirrorAndFirstStepRow.holds Try.pinned (OpenSpec.ofChange fnPIStepMirrorAndFirstStepWrong)

/-- 'zzlaws_internal_control_b1.FnPIStepNoIntegralGainIsMemoryless': WHATEVER THE INPUT: true; the input reads as it did. -/
def fnPIStepNoIntegralGainIsMemorylessSpec : ChangeSpec := { name := "fnPIStepNoIntegralGainIsMemoryless", fn := fun _ => fun
  | [d1, d2, d3, d4, d5, d6] => { results := [.lit (.bool true)], args := [d1, d2, d3, d4, d5, d6] }
  | _ => none }
def fnPIStepNoIntegralGainIsMemorylessRow : OpenClaim := { program := "qxb6627656a", sum := "3262e2ff0dfbf8faf8a5676bf505b37a55dda42bbe33f54e2d328d476fb5480d", func := "example.com/setpoint/setpoint/zzlaws_internal_control_b1.FnPIStepNoIntegralGainIsMemoryless", spec := "fnPIStepNoIntegralGainIsMemoryless", apart := false }
def FnPIStepNoIntegralGainIsMemorylessSaid : Prop := fnPIStepNoIntegralGainIsMemorylessRow.holds Try.pinned (OpenSpec.ofChange fnPIStepNoIntegralGainIsMemorylessSpec)

/-- ITS FALSE NEIGHBOUR: 'it returns false'. Refute it at one input. -/
def fnPIStepNoIntegralGainIsMemorylessWrong : ChangeSpec := { name := "fnPIStepNoIntegralGainIsMemoryless", fn := fun _ => fun
  | [d1, d2, d3, d4, d5, d6] => { results := [.lit (.bool false)], args := [d1, d2, d3, d4, d5, d6] }
  | _ => none }
def FnPIStepNoIntegralGainIsMemorylessWrongFalsely : Prop := fnPIStepNoIntegralGainIsMemorylessRow.holds Try.pinned (OpenSpec.ofChange fnPIStepNoIntegralGainIsMemorylessWrong)

end Rows
end Go.Proofs.Qxb6627656a
