/-
  Plain facts: the clamp; the mirrored controller.
-/
import Derived.Test.Qxb6627656aStep
namespace Go.Proofs.Qxb6627656a
open Fl Ieee
set_option linter.unusedVariables false

theorem ok_ab (x : Nat) : Ok (ab x) := ok_cd _
theorem ok_rnd (o : Option Datum) : Ok (rnd o) := by
  rw [← cd_rnd]; exact ok_cd _
theorem ok_ng (d : Datum) : Ok (ng d) := ok_cd _
theorem ok_max {a b : Datum} (ha : Ok a) (hb : Ok b) : Ok (maxD a b) := by
  unfold maxD
  split
  · exact (ok_cd nn)
  · exact hb
  · exact ha
  · exact ha
theorem ok_min {a b : Datum} (ha : Ok a) (hb : Ok b) : Ok (minD a b) := by
  unfold minD
  split
  · exact (ok_cd nn)
  · exact ha
  · exact hb
  · exact ha

theorem eq_ab {x y : Nat} (h : (ab x).order (ab y) = some .eq) : ab x = ab y := by
  rw [← order_ab] at h
  exact eq_of_order h

theorem ab_nan {x : Nat} (y : Nat) (h : (ab x).order (ab y) = none) : ab x = nn ∨ ab y = nn := by
  unfold ab at *
  cases hx : double.read x with
  | nan s t => exact .inl rfl
  | infinity s =>
    rw [hx] at h
    cases hy : double.read y with
    | nan s t => exact .inr rfl
    | infinity t => rw [hy] at h; cases h
    | number t n j =>
      rw [hy] at h
      by_cases h0 : n = 0
      · subst h0; cases h
      · rw [cd_num h0] at h; cases h
  | number s m i =>
    rw [hx] at h
    cases hy : double.read y with
    | nan s t => exact .inr rfl
    | infinity t =>
      rw [hy] at h
      by_cases h0 : m = 0
      · subst h0; cases h
      · rw [cd_num h0] at h; cases h
    | number t n j =>
      rw [hy] at h
      by_cases h0 : m = 0
      · subst h0
        by_cases h1 : n = 0
        · subst h1; cases h
        · rw [cd_num h1] at h; cases h
      · rw [cd_num h0] at h
        by_cases h1 : n = 0
        · subst h1; cases h
        · rw [cd_num h1] at h; cases h

theorem order_nn_l (d : Datum) : nn.order d = none := by cases d <;> rfl
theorem order_nn_r (d : Datum) : d.order nn = none := by cases d <;> rfl

/-- lo <= hi. -/
def Le (a b : Datum) : Prop := a.order b = some .lt ∨ a.order b = some .eq

/-- The two ways to hold within bounds. -/
theorem res_clamp {x lo hi : Nat} (h : Le (ab lo) (ab hi)) : resD (ab lo) (ab hi) (ab x) = clampD (ab x) (ab lo) (ab hi) := by
  unfold resD clampD maxD
  cases h1 : (ab x).order (ab lo) with
  | none =>
    rcases ab_nan lo h1 with e | e
    · show minD nn (ab hi) = _
      rw [e]
      rw [show (none == some Ordering.lt) = false from rfl, order_nn_l]
      unfold minD
      rw [order_nn_l]
      rfl
    · rw [e] at h
      rcases h with h | h <;> rw [order_nn_l] at h <;> cases h
  | some o =>
    cases o with
    | lt =>
      show minD (ab lo) (ab hi) = ab lo
      unfold minD
      rcases h with h | h <;> rw [h]
    | gt =>
      show minD (ab x) (ab hi) = if ((ab x).order (ab hi) == some .gt) = true then ab hi else ab x
      unfold minD
      cases h2 : (ab x).order (ab hi) with
      | none =>
        rcases ab_nan hi h2 with e | e
        · rw [e, order_nn_l] at h1; cases h1
        · rw [e] at h
          rcases h with h | h <;> rw [order_nn_r] at h <;> cases h
      | some o2 => cases o2 <;> rfl
    | eq =>
      show minD (ab x) (ab hi) = if ((ab x).order (ab hi) == some .gt) = true then ab hi else ab x
      unfold minD
      cases h2 : (ab x).order (ab hi) with
      | none =>
        rcases ab_nan hi h2 with e | e
        · rw [e, order_nn_l] at h1; cases h1
        · rw [e] at h
          rcases h with h | h <;> rw [order_nn_r] at h <;> cases h
      | some o2 => cases o2 <;> rfl

theorem swap_gt {a b : Datum} (h : a.order b = some .gt) : b.order a = some .lt := by rw [order_swap a b, h]; rfl
theorem swap_lt {a b : Datum} (h : a.order b = some .lt) : b.order a = some .gt := by rw [order_swap a b, h]; rfl
theorem swap_eq {a b : Datum} (h : a.order b = some .eq) : b.order a = some .eq := by rw [order_swap a b, h]; rfl
theorem swap_none {a b : Datum} (h : a.order b = none) : b.order a = none := by rw [order_swap a b, h]; rfl

theorem signed_add (s : Bool) (m u c : Nat) : signed s m (u + c) = signed s m u * (2 ^ c : Nat) := by
  unfold signed
  rw [Nat.shiftLeft_eq, Nat.shiftLeft_eq, pow_split, ← Nat.mul_assoc, Int.natCast_mul]
  cases s
  · rfl
  · simp only [if_true]; rw [Int.neg_mul]

theorem compare_mul (x y : Int) (c : Nat) (hc : 0 < c) : compare (x * (c : Int)) (y * (c : Int)) = compare x y := by
  have hc' : (0 : Int) < (c : Int) := by omega
  simp only [compare, compareOfLessAndEq]
  by_cases h1 : x < y
  · rw [if_pos (Int.mul_lt_mul_of_pos_right h1 hc'), if_pos h1]
  · by_cases h2 : x = y
    · subst h2
      rw [if_neg (by omega), if_pos rfl, if_neg h1, if_pos rfl]
    · have h3 : y < x := by omega
      have h4 := Int.mul_lt_mul_of_pos_right h3 hc'
      rw [if_neg (by omega), if_neg (by omega), if_neg h1, if_neg h2]

/-- The order, all at one scale. -/
theorem order_units (s : Bool) (m : Nat) (i : Int) (t : Bool) (n : Nat) (j : Int) (hi : -1074 ≤ i) (hj : -1074 ≤ j) : (Datum.number s m i).order (.number t n j) = some (compare (signed s m (i + 1074).toNat) (signed t n (j + 1074).toNat)) := by
  rw [order_num, show (i + 1074).toNat = (i - min i j).toNat + (min i j + 1074).toNat by omega, show (j + 1074).toNat = (j - min i j).toNat + (min i j + 1074).toNat by omega, signed_add, signed_add, compare_mul _ _ _ (Nat.two_pow_pos _)]

/-- What a word stands for. -/
theorem ab_form (x : Nat) : ab x = nn ∨ (∃ s, ab x = .infinity s) ∨ ∃ s m p, ab x = .number s m p ∧ -1074 ≤ p := by
  unfold ab
  rcases read_cases x with ⟨s, t, hx⟩ | ⟨s, r, hr, hx⟩
  · rw [hx]; exact .inl rfl
  · rw [hx]
    by_cases h1 : r < 9218868437227405312
    · obtain ⟨m, p, e1, a1, _⟩ := mk_num s r h1
      rw [e1]
      by_cases h0 : m = 0
      · subst h0; exact .inr (.inr ⟨false, 0, -1074, rfl, by omega⟩)
      · rw [cd_num h0]; exact .inr (.inr ⟨s, m, p, rfl, a1⟩)
    · have e1 : mk s r = .infinity s := by unfold mk; rw [if_neg (by omega), if_neg h1]
      rw [e1]; exact .inr (.inl ⟨s, rfl⟩)

theorem compare_lt {x y : Int} (h : compare x y = .lt) : x < y := by
  simp only [compare, compareOfLessAndEq] at h
  by_cases h1 : x < y
  · exact h1
  · rw [if_neg h1] at h
    by_cases h2 : x = y
    · rw [if_pos h2] at h; cases h
    · rw [if_neg h2] at h; cases h
theorem compare_gt {x y : Int} (h : compare x y = .gt) : y < x := by
  simp only [compare, compareOfLessAndEq] at h
  by_cases h1 : x < y
  · rw [if_pos h1] at h; cases h
  · rw [if_neg h1] at h
    by_cases h2 : x = y
    · rw [if_pos h2] at h; cases h
    · omega

theorem lt_gt_absurd {x lo hi : Nat} (h1 : (ab x).order (ab lo) = some .lt) (h2 : (ab x).order (ab hi) = some .gt) (h : Le (ab lo) (ab hi)) : False := by
  rcases ab_form x with e | ⟨s, e⟩ | ⟨s, m, p, e, hp⟩
  · rw [e, order_nn_l] at h1; cases h1
  · rw [e] at h1 h2
    rcases ab_form lo with el | ⟨sl, el⟩ | ⟨sl, ml, pl, el, hpl⟩
    · rw [el, order_nn_r] at h1; cases h1
    · rw [el] at h1
      rcases ab_form hi with eh | ⟨sh, eh⟩ | ⟨sh, mh, ph, eh, hph⟩
      · rw [eh, order_nn_r] at h2; cases h2
      · rw [eh] at h2; cases s <;> cases sl <;> cases sh <;> first | (cases h1; done) | (cases h2; done)
      · rw [eh] at h2; cases s <;> cases sl <;> first | (cases h1; done) | (cases h2; done)
    · rw [el] at h1
      cases s
      · cases h1
      · rcases ab_form hi with eh | ⟨sh, eh⟩ | ⟨sh, mh, ph, eh, hph⟩
        · rw [eh, order_nn_r] at h2; cases h2
        · rw [eh] at h2; cases sh <;> cases h2
        · rw [eh] at h2; cases h2
  · rw [e] at h1 h2
    rcases ab_form lo with el | ⟨sl, el⟩ | ⟨sl, ml, pl, el, hpl⟩
    · rw [el, order_nn_r] at h1; cases h1
    · rw [el] at h1
      cases sl
      · rcases ab_form hi with eh | ⟨sh, eh⟩ | ⟨sh, mh, ph, eh, hph⟩
        · rw [eh, order_nn_r] at h2; cases h2
        · rw [eh] at h2
          rw [el, eh] at h
          cases sh
          · cases h2
          · rcases h with h | h <;> cases h
        · rw [el, eh] at h
          rcases h with h | h <;> cases h
      · cases h1
    · rw [el, order_units _ _ _ _ _ _ hp hpl] at h1
      have c1 := compare_lt (Option.some.inj h1)
      rcases ab_form hi with eh | ⟨sh, eh⟩ | ⟨sh, mh, ph, eh, hph⟩
      · rw [eh, order_nn_r] at h2; cases h2
      · rw [eh] at h2
        rw [el, eh] at h
        cases sh
        · cases h2
        · rcases h with h | h <;> cases h
      · rw [eh, order_units _ _ _ _ _ _ hp hph] at h2
        have c2 := compare_gt (Option.some.inj h2)
        rw [el, eh] at h
        unfold Le at h
        rw [order_units _ _ _ _ _ _ hpl hph] at h
        rcases h with h | h
        · have := compare_lt (Option.some.inj h); omega
        · have := compare_eq (Option.some.inj h); omega

/-- The other way round: first the upper bound. -/
theorem max_min_clamp {x lo hi : Nat} (h : Le (ab lo) (ab hi)) : maxD (minD (ab x) (ab hi)) (ab lo) = clampD (ab x) (ab lo) (ab hi) := by
  have hhl : (ab hi).order (ab lo) = some .gt ∨ (ab hi).order (ab lo) = some .eq := by
    rcases h with h | h
    · exact .inl (swap_lt h)
    · exact .inr (swap_eq h)
  unfold clampD minD
  cases h2 : (ab x).order (ab hi) with
  | none =>
    rcases ab_nan hi h2 with e | e
    · show maxD nn (ab lo) = _
      rw [e, order_nn_l]
      unfold maxD
      rw [order_nn_l]; rfl
    · rw [e] at h
      rcases h with h | h <;> rw [order_nn_r] at h <;> cases h
  | some o =>
    cases o with
    | gt =>
      show maxD (ab hi) (ab lo) = _
      have e1 : maxD (ab hi) (ab lo) = ab hi := by
        unfold maxD
        rcases hhl with h3 | h3 <;> rw [h3]
      rw [e1]
      cases h1 : (ab x).order (ab lo) with
      | none =>
        rcases ab_nan lo h1 with e | e
        · rw [e, order_nn_l] at h2; cases h2
        · rw [e] at h
          rcases h with h | h <;> rw [order_nn_l] at h <;> cases h
      | some o1 =>
        cases o1 with
        | lt =>
          exfalso
          exact lt_gt_absurd h1 h2 h
        | gt => rfl
        | eq => rfl
    | lt =>
      show maxD (ab x) (ab lo) = _
      unfold maxD
      cases h1 : (ab x).order (ab lo) with
      | none =>
        rcases ab_nan lo h1 with e | e
        · rw [e, order_nn_l] at h2; cases h2
        · rw [e] at h
          rcases h with h | h <;> rw [order_nn_l] at h <;> cases h
      | some o1 => cases o1 <;> rfl
    | eq =>
      show maxD (ab x) (ab lo) = _
      unfold maxD
      cases h1 : (ab x).order (ab lo) with
      | none =>
        rcases ab_nan lo h1 with e | e
        · rw [e, order_nn_l] at h2; cases h2
        · rw [e] at h
          rcases h with h | h <;> rw [order_nn_l] at h <;> cases h
      | some o1 => cases o1 <;> rfl
end Go.Proofs.Qxb6627656a
