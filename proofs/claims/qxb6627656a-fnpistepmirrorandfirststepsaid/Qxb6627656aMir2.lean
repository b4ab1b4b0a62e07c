/-
  Plain facts for the mirror law: a controller and its mirror go in step.
-/
import Derived.Test.Qxb6627656aMir
namespace Go.Proofs.Qxb6627656a
open Fl Ieee
set_option linter.unusedVariables false

theorem ng_ng_ab (x : Nat) : ng (ng (ab x)) = ab x := by
  unfold ab
  rw [ng_cd]
  show cd (cd _).opposite = _
  have h := ng_cd (double.read x).opposite
  unfold ng at h
  rw [h, opp_opp]

theorem ok_add (a b : Datum) : Ok (addD a b) := ok_rnd _
theorem ok_sub (a b : Datum) : Ok (subD a b) := ok_rnd _
theorem ok_mul (a b : Datum) : Ok (mulD a b) := ok_rnd _
theorem ok_div (a b : Datum) : Ok (divD a b) := ok_rnd _

theorem rest_ng {s w fn : Datum} (hs : Ok s) (hw : Ok w) : restD (ng s) (ng w) fn = ng (restD s w fn) := by
  unfold restD
  rw [div_ng fn hs]
  exact sub_ng hw (ok_rnd _)

theorem order_gt_swap (a b : Datum) : (b.order a == some .gt) = (a.order b == some .lt) := by
  rw [order_swap a b]
  cases a.order b with
  | none => rfl
  | some o => cases o <;> rfl
theorem order_lt_swap (a b : Datum) : (b.order a == some .lt) = (a.order b == some .gt) := by
  rw [order_swap a b]
  cases a.order b with
  | none => rfl
  | some o => cases o <;> rfl

theorem term_ng {o x p r lo hi iq : Datum} (ho : Ok o) (hx : Ok x) (hp : Ok p) (hr : Ok r) (hlo : Ok lo) (hhi : Ok hi) : termB (ng o) (ng x) (ng p) (ng r) (ng hi) (ng lo) iq = ng (termB o x p r lo hi iq) := by
  have hzo : ∀ y, Ok y → (ng y).order zer = zer.order y := fun y hy => order_ng hy ok_zer
  have e1 : ((ng o).order (ng lo) == some .gt && (ng x).order zer == some .gt) = (o.order lo == some .lt && x.order zer == some .lt) := by
    rw [order_ng ho hlo, hzo x hx, order_gt_swap o lo, order_gt_swap x zer]
  have e2 : ((ng o).order (ng hi) == some .lt && (ng x).order zer == some .lt) = (o.order hi == some .gt && x.order zer == some .gt) := by
    rw [order_ng ho hhi, hzo x hx, order_lt_swap o hi, order_lt_swap x zer]
  have m1 : minD zer (subD (divD (subD (ng hi) (ng p)) iq) (ng r)) = ng (maxD zer (subD (divD (subD hi p) iq) r)) := by
    rw [sub_ng hhi hp, div_ng iq (ok_sub _ _), sub_ng (ok_div _ _) hr]
    exact min_ng ok_zer (ok_sub _ _)
  have m2 : maxD zer (subD (divD (subD (ng lo) (ng p)) iq) (ng r)) = ng (minD zer (subD (divD (subD lo p) iq) r)) := by
    rw [sub_ng hlo hp, div_ng iq (ok_sub _ _), sub_ng (ok_div _ _) hr]
    exact max_ng ok_zer (ok_sub _ _)
  unfold termB
  rw [e1, e2, m1, m2]
  cases h1 : (o.order hi == some .gt && x.order zer == some .gt) with
  | true =>
    have h2 : (o.order lo == some .lt && x.order zer == some .lt) = false := by
      rw [Bool.and_eq_true] at h1
      have := eq_of_beq h1.2
      rw [this]
      simp
    rw [h2]; rfl
  | false =>
    cases h2 : (o.order lo == some .lt && x.order zer == some .lt) with
    | true => rfl
    | false => rfl

theorem rs_ng (n k : Nat) (TA TB : Nat → Datum) (hn : 1 ≤ n) (hT : ∀ j, j < n → Ok (TA j)) (h : ∀ j, j < n → TB j = ng (TA j)) : ∀ a, rsD n k TB a = ng (rsD n k TA a) ∧ Ok (rsD n k TA a) := by
  intro a
  induction a with
  | zero => exact ⟨rfl, ok_zer⟩
  | succ a ih =>
    have hj := Nat.mod_lt (k + n - 1 - a) (show 0 < n by omega)
    refine ⟨?_, ok_rnd _⟩
    show addD (rsD n k TB a) (TB _) = ng (addD (rsD n k TA a) (TA _))
    rw [ih.1, h _ hj, add_ng ih.2 (hT _ hj)]

theorem rw_ng (n k : Nat) (TA TB : Nat → Datum) (hn : 1 ≤ n) (hT : ∀ j, j < n → Ok (TA j)) (h : ∀ j, j < n → TB j = ng (TA j)) : ∀ a, rwD n k TB a = ng (rwD n k TA a) ∧ Ok (rwD n k TA a) := by
  intro a
  induction a with
  | zero => exact ⟨rfl, ok_zer⟩
  | succ a ih =>
    have hj := Nat.mod_lt (k + n - 1 - a) (show 0 < n by omega)
    refine ⟨?_, ok_rnd _⟩
    show addD (rwD n k TB a) (divD (mulD (TB _) _) _) = ng (addD (rwD n k TA a) (divD (mulD (TA _) _) _))
    rw [ih.1, h _ hj, mul_ng_l _ (hT _ hj), div_ng _ (ok_mul _ _), add_ng ih.2 (ok_div _ _)]

/-- Two controllers' numbers, one the other's mirror. -/
structure Mir (n : Nat) (sa wa : Nat) (Ta : Nat → Nat) (sb wb : Nat) (Tb : Nat → Nat) : Prop where
  s : ab sb = ng (ab sa)
  w : ab wb = ng (ab wa)
  t : ∀ j, j < n → ab (Tb j) = ng (ab (Ta j))

theorem mir_start (n : Nat) : Mir n 0 0 (fun _ => 0) 0 0 (fun _ => 0) :=
  ⟨by rw [ab0]; rfl, by rw [ab0]; rfl, fun _ _ => by rw [ab0]; rfl⟩

/-- One step of both: what the mirror computes is the mirror of what is computed. -/
theorem mir_calc {n p i t lo hi lo' hi' sa wa sb wb e e' resta restb outa outb x0a x0b pea peb xa xb : Nat} {Ta Tb : Nat → Nat} {fn : Datum} (h : Mir n sa wa Ta sb wb Tb) (he : ab e' = ng (ab e)) (hlo : ab lo' = ng (ab hi)) (hhi : ab hi' = ng (ab lo))
    (ra : ab resta = restD (ab sa) (ab wa) fn) (rb : ab restb = restD (ab sb) (ab wb) fn) (x0A : ab x0a = mulD (ab e) (ab t)) (x0B : ab x0b = mulD (ab e') (ab t)) (peA : ab pea = mulD (ab p) (ab e)) (peB : ab peb = mulD (ab p) (ab e'))
    (oA : ab outa = addD (ab pea) (mulD (ab i) (addD (ab resta) (ab x0a)))) (oB : ab outb = addD (ab peb) (mulD (ab i) (addD (ab restb) (ab x0b))))
    (xA : ab xa = termB (ab outa) (ab x0a) (ab pea) (ab resta) (ab lo) (ab hi) (double.read i)) (xB : ab xb = termB (ab outb) (ab x0b) (ab peb) (ab restb) (ab lo') (ab hi') (double.read i)) :
    ab restb = ng (ab resta) ∧ ab outb = ng (ab outa) ∧ ab xb = ng (ab xa) := by
  have h1 : ab restb = ng (ab resta) := by rw [rb, h.s, h.w, rest_ng (ok_ab _) (ok_ab _), ra]
  have h2 : ab x0b = ng (ab x0a) := by rw [x0B, he, mul_ng_l _ (ok_ab _), x0A]
  have h3 : ab peb = ng (ab pea) := by rw [peB, he, mul_ng_r _ (ok_ab _), peA]
  have h4 : ab outb = ng (ab outa) := by
    rw [oB, h3, h1, h2, add_ng (ok_ab _) (ok_ab _), mul_ng_r _ (ok_add _ _), add_ng (ok_ab _) (ok_mul _ _), oA]
  refine ⟨h1, h4, ?_⟩
  rw [xB, h4, h2, h3, h1, hlo, hhi, term_ng (ok_ab _) (ok_ab _) (ok_ab _) (ok_ab _) (ok_ab _) (ok_ab _), xA]

theorem mir_T {n k xa xb : Nat} {Ta Tb : Nat → Nat} (h : ∀ j, j < n → ab (Tb j) = ng (ab (Ta j))) (hx : ab xb = ng (ab xa)) : ∀ j, j < n → ab (if j = k then xb else Tb j) = ng (ab (if j = k then xa else Ta j)) := by
  intro j hj
  by_cases e : j = k
  · rw [if_pos e, if_pos e]; exact hx
  · rw [if_neg e, if_neg e]; exact h j hj

theorem mir_step {n k sa wa sb wb resta restb xa xb sa' wa' sb' wb' : Nat} {Ta Tb : Nat → Nat} (hk : k < n) (h : Mir n sa wa Ta sb wb Tb) (hr : ab restb = ng (ab resta)) (hx : ab xb = ng (ab xa))
    (hsa : ab sa' = addD (ab sa) (subD (ab xa) (ab (Ta k)))) (hwa : ab wa' = addD (ab resta) (ab xa)) (hsb : ab sb' = addD (ab sb) (subD (ab xb) (ab (Tb k)))) (hwb : ab wb' = addD (ab restb) (ab xb)) :
    Mir n sa' wa' (fun j => if j = k then xa else Ta j) sb' wb' (fun j => if j = k then xb else Tb j) := by
  refine ⟨?_, ?_, mir_T h.t hx⟩
  · rw [hsb, h.s, hx, h.t k hk, sub_ng (ok_ab _) (ok_ab _), add_ng (ok_ab _) (ok_sub _ _), hsa]
  · rw [hwb, hr, hx, add_ng (ok_ab _) (ok_ab _), hwa]

theorem mir_resum {n k k' sa wa sb wb xa xb sa' wa' sb' wb' : Nat} {Ta Tb : Nat → Nat} (hn : 1 ≤ n) (h : Mir n sa wa Ta sb wb Tb) (hx : ab xb = ng (ab xa))
    (hsa : ab sa' = rsD n k' (fun j => ab (if j = k then xa else Ta j)) n) (hwa : ab wa' = rwD n k' (fun j => ab (if j = k then xa else Ta j)) n) (hsb : ab sb' = rsD n k' (fun j => ab (if j = k then xb else Tb j)) n) (hwb : ab wb' = rwD n k' (fun j => ab (if j = k then xb else Tb j)) n) :
    Mir n sa' wa' (fun j => if j = k then xa else Ta j) sb' wb' (fun j => if j = k then xb else Tb j) := by
  refine ⟨?_, ?_, mir_T h.t hx⟩
  · rw [hsb, (rs_ng n k' _ _ hn (fun j _ => ok_ab _) (mir_T h.t hx) n).1, hsa]
  · rw [hwb, (rw_ng n k' _ _ hn (fun j _ => ok_ab _) (mir_T h.t hx) n).1, hwa]

/-- The mirrored output. -/
theorem mir_out {lo hi lo' hi' outa outb oa ob : Nat} (hle : Le (ab lo) (ab hi)) (hlo : ab lo' = ng (ab hi)) (hhi : ab hi' = ng (ab lo)) (ho : ab outb = ng (ab outa)) (hoa : ab oa = resD (ab lo) (ab hi) (ab outa)) (hob : ab ob = resD (ab lo') (ab hi') (ab outb)) : ab ob = ng (ab oa) := by
  rw [hob, hoa, res_clamp hle, ← max_min_clamp hle, hlo, hhi, ho]
  unfold resD
  rw [max_ng (ok_ab _) (ok_ab _), min_ng (ok_min (ok_ab _) (ok_ab _)) (ok_ab _)]

/-- The output lies within the bounds, or is not a number. -/
theorem out_within {lo hi out o : Nat} (hle : Le (ab lo) (ab hi)) (ho : ab o = resD (ab lo) (ab hi) (ab out)) : (ab o).order (ab o) = none ∨ (Le (ab lo) (ab o) ∧ Le (ab o) (ab hi)) := by
  rw [res_clamp hle] at ho
  unfold clampD at ho
  have self : ∀ x y : Nat, Le (ab x) (ab y) → Le (ab x) (ab x) ∧ Le (ab y) (ab y) := by
    intro x y h
    rcases order_self (ab x) with h1 | h1
    · rcases ab_nan x h1 with e | e <;> rw [e] at h <;> rcases h with h | h <;> rw [order_nn_l] at h <;> cases h
    · rcases order_self (ab y) with h2 | h2
      · rcases ab_nan y h2 with e | e <;> rw [e] at h <;> rcases h with h | h <;> rw [order_nn_r] at h <;> cases h
      · exact ⟨.inr h1, .inr h2⟩
  by_cases c1 : ((ab out).order (ab lo) == some .lt) = true
  · rw [if_pos c1] at ho
    rw [ho]
    exact .inr ⟨(self lo hi hle).1, hle⟩
  · rw [if_neg c1] at ho
    by_cases c2 : ((ab out).order (ab hi) == some .gt) = true
    · rw [if_pos c2] at ho
      rw [ho]
      exact .inr ⟨hle, (self lo hi hle).2⟩
    · rw [if_neg c2] at ho
      rw [ho]
      rcases order_self (ab out) with h1 | h1
      · exact .inl h1
      · right
        constructor
        · cases h2 : (ab out).order (ab lo) with
          | none =>
            rcases ab_nan lo h2 with e | e
            · rw [e, order_nn_l] at h1; cases h1
            · rw [e] at hle; rcases hle with h | h <;> rw [order_nn_l] at h <;> cases h
          | some o2 =>
            cases o2 with
            | lt => rw [h2] at c1; exact absurd rfl c1
            | gt => exact .inl (swap_gt h2)
            | eq => exact .inr (swap_eq h2)
        · cases h2 : (ab out).order (ab hi) with
          | none =>
            rcases ab_nan hi h2 with e | e
            · rw [e, order_nn_l] at h1; cases h1
            · rw [e] at hle; rcases hle with h | h <;> rw [order_nn_r] at h <;> cases h
          | some o2 =>
            cases o2 with
            | lt => exact .inl h2
            | gt => rw [h2] at c2; exact absurd rfl c2
            | eq => exact .inr h2

/-- The first step: nothing is held yet. -/
theorem first_out {n s w rest out x0 pe i : Nat} (hn1 : 1 ≤ n) (hn : n ≤ 65536) (hs : ab s = zer) (hw : ab w = zer) (hr : ab rest = restD (ab s) (ab w) (double.read (floatOfInt .f64 (n : Int)))) (ho : ab out = addD (ab pe) (mulD (ab i) (addD (ab rest) (ab x0)))) : ab out = addD (ab pe) (mulD (ab i) (ab x0)) := by
  have h1 : ab rest = zer := by
    rw [hr, hs, hw]
    obtain ⟨m, p, e, hm, _⟩ := fl_num n hn1 hn
    have ef : floatOfInt .f64 (n : Int) = double.nearest false n 0 := by
      show double.nearest (decide ((n : Int) < 0)) (n : Int).natAbs 0 = _
      rw [decide_eq_false (by omega), Int.natAbs_natCast]
    rw [ef, e]
    unfold restD
    have hd : divD zer (.number false m p) = zer := by
      unfold divD Datum.quotient zer
      dsimp only
      rw [if_neg hm]
      have e1 : (0 : Nat) <<< (54 + m.log2 - Nat.log2 0) = 0 := by simp
      rw [e1]
      have e2 : 2 * (0 / m) + (0 % m != 0).toNat = 0 := by simp
      rw [e2, rnd_zero]; rfl
    rw [hd]
    decide
  rw [ho, h1, add_zer_l]
end Go.Proofs.Qxb6627656a
