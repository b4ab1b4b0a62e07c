/-
  The float operations of the model, run: their result up to the sign of zero and the kind of NaN.
-/
import Derived.Test.Qxb6627656aRows
import Derived.Test.Qxb6627656aFl
import Derived.WalkKit
import Derived.ProofKit
import Derived.WalkSpells
import Derived.StillTactics
import Derived.RegionTactic
import Derived.ChangeAlike
import Derived.Deep.QuietTactic
import Derived.BigQuiet
import Derived.WalkLawsBesides
namespace Go.Proofs.Qxb6627656a
open Go.RowKit Fl
set_option linter.unusedSimpArgs false
set_option linter.unusedVariables false

/-- The bits that the tape answers where the result is a NaN. -/
def nanOf (q : Question) (W : World) : Nat := if q.forced then q.cut 0 else q.cut (W.tape W.drawn q)

theorem run_choose (P : Program) (q : Question) (hq : q.forced = false) (W : World) : (choose q).run P W = .ok (q.cut (W.tape W.drawn q)) (W.drewN 1) := by
  simp [choose, Sem.run, hq]
  rfl

/-- The result's bits. -/
def fv (op : BinOp) (x y : Nat) (W : World) : Nat := match floatBits op .f64 x y with
  | some r => r
  | none => Question.cut (.nanBits .f64 x y) (W.tape W.drawn (.nanBits .f64 x y))
/-- How many answers were drawn. -/
def dn (op : BinOp) (x y : Nat) : Nat := match floatBits op .f64 x y with
  | some _ => 0
  | none => 1

theorem run_fl_add (P : Program) (W : World) (t : TypeId) (x y : Nat) : (binOp .add t (.float .f64 x) (.float .f64 y)).run P W = .ok (.float .f64 (fv .add x y W)) (W.drewN (dn .add x y)) := by
  unfold fv dn
  cases h : floatBits .add .f64 x y with
  | some r => exact run_float_arith W .add t .f64 x y r h
  | none =>
    have h' : FloatKind.f64.format.add x y = none := h
    simp [binOp, Op.floatArith, h', run_choose, Question.forced]
    rfl

theorem run_fl_sub (P : Program) (W : World) (t : TypeId) (x y : Nat) : (binOp .sub t (.float .f64 x) (.float .f64 y)).run P W = .ok (.float .f64 (fv .sub x y W)) (W.drewN (dn .sub x y)) := by
  unfold fv dn
  cases h : floatBits .sub .f64 x y with
  | some r => exact run_float_arith W .sub t .f64 x y r h
  | none =>
    have h' : FloatKind.f64.format.sub x y = none := h
    simp [binOp, Op.floatArith, h', run_choose, Question.forced]
    rfl

theorem run_fl_mul (P : Program) (W : World) (t : TypeId) (x y : Nat) : (binOp .mul t (.float .f64 x) (.float .f64 y)).run P W = .ok (.float .f64 (fv .mul x y W)) (W.drewN (dn .mul x y)) := by
  unfold fv dn
  cases h : floatBits .mul .f64 x y with
  | some r => exact run_float_arith W .mul t .f64 x y r h
  | none =>
    have h' : FloatKind.f64.format.mul x y = none := h
    simp [binOp, Op.floatArith, h', run_choose, Question.forced]
    rfl

theorem run_fl_quo (P : Program) (W : World) (t : TypeId) (x y : Nat) : (binOp .quo t (.float .f64 x) (.float .f64 y)).run P W = .ok (.float .f64 (fv .quo x y W)) (W.drewN (dn .quo x y)) := by
  unfold fv dn
  cases h : floatBits .quo .f64 x y with
  | some r => exact run_float_arith W .quo t .f64 x y r h
  | none =>
    have h' : FloatKind.f64.format.div x y = none := h
    simp [binOp, Op.floatArith, h', run_choose, Question.forced]
    rfl

theorem nan_bits (a t : Nat) : ab ((t % 2) * 2 ^ 63 + 0x7ff0000000000000 + 1 + a % (2 ^ 52 - 1)) = nn := by
  unfold ab
  rw [read_def]
  have h52 : (2 : Nat) ^ 52 - 1 = 4503599627370495 := by decide
  have h63 : (2 : Nat) ^ 63 = 9223372036854775808 := by decide
  rw [h52, h63]
  have hlt := Nat.mod_lt a (show 0 < 4503599627370495 by omega)
  generalize a % 4503599627370495 = c at *
  have e : (t % 2 * 9223372036854775808 + 9218868437227405312 + 1 + c) % 9223372036854775808 = 9218868437227405313 + c := by omega
  rw [e, if_neg (by omega), if_neg (by omega), if_neg (by omega)]
  rfl

theorem cut_nanBits (x y t : Nat) : ab (Question.cut (.nanBits .f64 x y) t) = nn := nan_bits (t / 2) t
theorem cut_nanMinMax (b : Bool) (x y t : Nat) : ab (Question.cut (.nanMinMax .f64 b x y) t) = nn := nan_bits (t / 2) t

theorem fmt : FloatKind.f64.format = Ieee.double := rfl

theorem ab_fv {op : BinOp} {x y : Nat} {d : Option Ieee.Datum} (h : floatBits op .f64 x y = d.map Ieee.double.write) (W : World) : ab (fv op x y W) = rnd d := by
  unfold fv
  cases d with
  | none => rw [h]; exact cut_nanBits _ _ _
  | some d => rw [h]; rfl

theorem ab_add (x y : Nat) (W : World) : ab (fv .add x y W) = addD (ab x) (ab y) := by
  rw [ab_fv (d := (Ieee.double.read x).sum (Ieee.double.read y)) rfl, sum_cd (ok_read x) (ok_read y)]; rfl
theorem ab_sub (x y : Nat) (W : World) : ab (fv .sub x y W) = subD (ab x) (ab y) := by
  rw [ab_fv (d := (Ieee.double.read x).sum (Ieee.double.read y).opposite) rfl, sum_cd (ok_read x) (ok_opp (ok_read y))]
  unfold subD
  have h : rnd ((ab x).sum (ab y).opposite) = rnd ((cd (ab x)).sum (cd (ab y).opposite)) := sum_cd (ok_cd _) (ok_opp (ok_cd _))
  rw [h]
  show _ = rnd ((cd (cd _)).sum (ng (cd (Ieee.double.read y))))
  rw [cd_cd, ng_cd]
theorem ab_mul (x y : Nat) (W : World) : ab (fv .mul x y W) = mulD (ab x) (ab y) := by
  rw [ab_fv (d := (Ieee.double.read x).product (Ieee.double.read y)) rfl, prod_cd (ok_read x) (ok_read y)]; rfl
/-- The divisor's own datum: the sign of a zero tells there. -/
theorem ab_quo (x y : Nat) (W : World) : ab (fv .quo x y W) = divD (ab x) (Ieee.double.read y) := by
  rw [ab_fv (d := (Ieee.double.read x).quotient 54 (Ieee.double.read y)) rfl, quot_cd_l _ _ (ok_read x)]; rfl

theorem ab_neg (x : Nat) : ab (Op.negFloat .f64 x) = ng (ab x) := ab_flip x

/-- max, min of two floats. -/
def xv (x y : Nat) (W : World) : Nat := match FloatKind.f64.format.order x y with
  | none => Question.cut (.nanMinMax .f64 true x y) (W.tape W.drawn (.nanMinMax .f64 true x y))
  | some .lt => y
  | some .gt => x
  | some .eq => if (FloatKind.f64.decode x).neg then y else x
def nv (x y : Nat) (W : World) : Nat := match FloatKind.f64.format.order x y with
  | none => Question.cut (.nanMinMax .f64 false x y) (W.tape W.drawn (.nanMinMax .f64 false x y))
  | some .lt => x
  | some .gt => y
  | some .eq => if (FloatKind.f64.decode x).neg then x else y
def xn (x y : Nat) : Nat := match FloatKind.f64.format.order x y with
  | none => 1
  | some _ => 0

theorem run_max_fl (P : Program) (W : World) (ts : Array TypeId) (t : TypeId) (x y : Nat) : (Builtin.max_ ts t #[.float .f64 x, .float .f64 y]).run P W = .ok (.float .f64 (xv x y W)) (W.drewN (xn x y)) := by
  unfold xv xn
  cases h : FloatKind.f64.format.order x y with
  | none =>
    simp [Builtin.max_, Builtin.max2, h, run_choose, Question.forced]
    rfl
  | some o => cases o <;> (simp [Builtin.max_, Builtin.max2, h]; rfl)

theorem run_min_fl (P : Program) (W : World) (ts : Array TypeId) (t : TypeId) (x y : Nat) : (Builtin.min_ ts t #[.float .f64 x, .float .f64 y]).run P W = .ok (.float .f64 (nv x y W)) (W.drewN (xn x y)) := by
  unfold nv xn
  cases h : FloatKind.f64.format.order x y with
  | none =>
    simp [Builtin.min_, Builtin.min2, h, run_choose, Question.forced]
    rfl
  | some o => cases o <;> (simp [Builtin.min_, Builtin.min2, h]; rfl)

theorem order_ab (x y : Nat) : FloatKind.f64.format.order x y = (ab x).order (ab y) := order_cd (ok_read x) (ok_read y)

theorem ab_max (x y : Nat) (W : World) : ab (xv x y W) = maxD (ab x) (ab y) := by
  unfold xv maxD
  rw [← order_ab]
  cases h : FloatKind.f64.format.order x y with
  | none => exact cut_nanMinMax _ _ _ _
  | some o =>
    cases o with
    | lt => rfl
    | gt => rfl
    | eq =>
      have e := eq_of_order (x := x) (y := y) h
      show ab (if _ then y else x) = ab x
      split
      · exact e.symm
      · rfl
theorem ab_min (x y : Nat) (W : World) : ab (nv x y W) = minD (ab x) (ab y) := by
  unfold nv minD
  rw [← order_ab]
  cases h : FloatKind.f64.format.order x y with
  | none => exact cut_nanMinMax _ _ _ _
  | some o =>
    cases o with
    | lt => rfl
    | gt => rfl
    | eq =>
      have e := eq_of_order (x := x) (y := y) h
      show ab (if _ then x else y) = ab x
      split
      · rfl
      · exact e.symm

/-- A float stored. -/
theorem run_store_float (P : Program) (w : World) (a : Addr) (m : Mode) (k : FloatKind) (x : Nat) : (store a (.float k x) m).run P w = stored P w a (.float k x) m := run_store P w a _ m rfl
end Go.Proofs.Qxb6627656a
