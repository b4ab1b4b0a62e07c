/-
  Floats of 64 bits, as the model has them (Ieee.double), in plain mathematics: what rounding gives; negation passes through the operations; bounds. No Go in sight.
-/
import Ieee.Arith
namespace Go.Proofs.Qxb6627656a.Fl
open Ieee

/-- The magnitude of rung r, in units of the least place. -/
def val (r : Nat) : Nat := if r < 4503599627370496 then r else (4503599627370496 + r % 4503599627370496) * 2 ^ (r / 4503599627370496 - 1)

theorem val_form (q c : Nat) (h : (q = 0 ∧ c ≤ 9007199254740992) ∨ (4503599627370496 ≤ c ∧ c ≤ 9007199254740992)) : val (q * 4503599627370496 + c) = c * 2 ^ q := by
  unfold val
  by_cases hc : c < 4503599627370496
  · obtain ⟨rfl, _⟩ : q = 0 ∧ True := ⟨by omega, trivial⟩
    rw [if_pos (by omega)]; simp
  · rw [if_neg (by omega)]
    by_cases hc2 : c = 9007199254740992
    · subst hc2
      have e1 : (q * 4503599627370496 + 9007199254740992) % 4503599627370496 = 0 := by omega
      have e2 : (q * 4503599627370496 + 9007199254740992) / 4503599627370496 - 1 = q + 1 := by omega
      rw [e1, e2, Nat.pow_succ]
      omega
    · have e1 : (q * 4503599627370496 + c) % 4503599627370496 = c - 4503599627370496 := by omega
      have e2 : (q * 4503599627370496 + c) / 4503599627370496 - 1 = q := by omega
      have e3 : 4503599627370496 + (c - 4503599627370496) = c := by omega
      rw [e1, e2, e3]

theorem form_of (r : Nat) : ∃ q c, r = q * 4503599627370496 + c ∧ ((q = 0 ∧ c < 9007199254740992) ∨ (4503599627370496 ≤ c ∧ c < 9007199254740992)) := by
  by_cases h : r < 4503599627370496
  · exact ⟨0, r, by omega, .inl ⟨rfl, by omega⟩⟩
  · exact ⟨r / 4503599627370496 - 1, r % 4503599627370496 + 4503599627370496, by omega, .inr ⟨by omega, by omega⟩⟩

theorem val_succ (r : Nat) : val r ≤ val (r + 1) := by
  obtain ⟨q, c, rfl, h⟩ := form_of r
  rw [val_form q c (by omega), Nat.add_assoc, val_form q (c + 1) (by omega)]
  exact Nat.mul_le_mul_right _ (by omega)

theorem val_mono {r r' : Nat} (h : r ≤ r') : val r ≤ val r' := by
  induction r' with
  | zero => have e : r = 0 := by omega
            rw [e]; exact Nat.le_refl _
  | succ n ih =>
    by_cases e : r = n + 1
    · subst e; exact Nat.le_refl _
    · exact Nat.le_trans (ih (by omega)) (val_succ n)

/-- What cutting to the nearest gives. -/
theorem cut_spec (neg : Bool) (n drop : Nat) : 2 * n ≤ (2 * Toward.even.cut neg n drop + 1) * 2 ^ drop ∧ 2 * Toward.even.cut neg n drop * 2 ^ drop ≤ 2 * n + 2 ^ drop := by
  unfold Toward.cut
  simp only [Nat.one_shiftLeft]
  have hlog : n < 2 ^ (n.log2 + 1) := Nat.lt_log2_self
  by_cases hd : drop ≤ n.log2 + 2
  · rw [Nat.min_eq_left hd]
    generalize hg : 2 ^ drop = g
    have hg0 : 0 < g := by rw [← hg]; exact Nat.two_pow_pos _
    have hdm := Nat.div_add_mod n g
    have hlt := Nat.mod_lt n hg0
    generalize n / g = low at *
    generalize n % g = rest at *
    have hmul : (2 * (low + 1) + 1) * g = 2 * (g * low) + 3 * g := by
      rw [Nat.add_mul, Nat.mul_assoc, Nat.add_mul, Nat.mul_comm low g]; omega
    have hmul0 : (2 * (low + 0) + 1) * g = 2 * (g * low) + g := by
      rw [show low + 0 = low from rfl, Nat.add_mul, Nat.mul_assoc, Nat.mul_comm low g]; omega
    have hm1 : 2 * (low + 1) * g = 2 * (g * low) + 2 * g := by
      rw [Nat.mul_assoc, Nat.add_mul, Nat.mul_comm low g]; omega
    have hm0 : 2 * (low + 0) * g = 2 * (g * low) := by
      rw [show low + 0 = low from rfl, Nat.mul_assoc, Nat.mul_comm low g]
    by_cases hm : (decide (g < 2 * rest) || (g == 2 * rest && low % 2 == 1)) = true
    · simp only [hm, Bool.toNat_true]
      have h2 : g ≤ 2 * rest := by
        simp at hm; omega
      rw [hmul, hm1]
      omega
    · simp only [Bool.not_eq_true] at hm
      simp only [hm, Bool.toNat_false]
      have h2 : 2 * rest ≤ g := by
        simp at hm; omega
      rw [hmul0, hm0]
      omega
  · rw [Nat.min_eq_right (by omega)]
    have hgap : 2 * n < 2 ^ (n.log2 + 2) := by rw [Nat.pow_succ]; omega
    have h0 : n / 2 ^ (n.log2 + 2) = 0 := Nat.div_eq_of_lt (by omega)
    have h1 : n % 2 ^ (n.log2 + 2) = n := Nat.mod_eq_of_lt (by omega)
    rw [h0, h1]
    have hm : (decide (2 ^ (n.log2 + 2) < 2 * n) || (2 ^ (n.log2 + 2) == 2 * n && 0 % 2 == 1)) = false := by
      simp; omega
    simp only [hm, Bool.toNat_false]
    have hle : 2 ^ (n.log2 + 2) ≤ 2 ^ drop := Nat.pow_le_pow_right (by omega) (by omega)
    omega

theorem lp : double.leastPlace = -1074 := by decide
theorem bin : double.binade = 4503599627370496 := by decide
theorem inf : double.infRung = 9218868437227405312 := by decide
theorem sw : double.signWeight = 9223372036854775808 := by decide

/-- The rung that 'nearest' finds, before the cap at infinity. -/
def rung (neg : Bool) (m : Nat) (p : Int) : Nat :=
  let last := max (p + m.log2 - 52) (-1074)
  (last + 1074).toNat * 4503599627370496 + Toward.even.cut neg (m <<< (p - last).toNat) (last - p).toNat

theorem nearest_eq (neg : Bool) (m : Nat) (p : Int) (hm : m ≠ 0) : double.nearest neg m p = double.word neg (min (rung neg m p) 9218868437227405312) := by
  unfold Format.nearest rung
  rw [if_neg hm, lp, bin, inf]
  have : double.fractionBits = 52 := rfl
  rw [this]
  have e : ∀ x : Int, x - -1074 = x + 1074 := fun x => by omega
  simp only [e]
  rfl

theorem pow_split (a b : Nat) : 2 ^ (a + b) = 2 ^ a * 2 ^ b := Nat.pow_add 2 a b

/-- The cut, all at one scale D. -/
theorem cut_scaled (neg : Bool) (m : Nat) (p last : Int) (D : Nat) (hp : 0 ≤ p + D) (hl : 0 ≤ last + D) :
    let c := Toward.even.cut neg (m <<< (p - last).toNat) (last - p).toNat
    2 * (m * 2 ^ (p + D).toNat) ≤ (2 * c + 1) * 2 ^ (last + D).toNat ∧ 2 * c * 2 ^ (last + D).toNat ≤ 2 * (m * 2 ^ (p + D).toNat) + 2 ^ (last + D).toNat := by
  intro c
  have hs := cut_spec neg (m <<< (p - last).toNat) (last - p).toNat
  change 2 * (m <<< (p - last).toNat) ≤ (2 * c + 1) * 2 ^ (last - p).toNat ∧ 2 * c * 2 ^ (last - p).toNat ≤ 2 * (m <<< (p - last).toNat) + 2 ^ (last - p).toNat at hs
  rw [Nat.shiftLeft_eq] at hs
  by_cases h : last ≤ p
  · have e0 : (last - p).toNat = 0 := by omega
    have e1 : (p + D).toNat = (p - last).toNat + (last + D).toNat := by omega
    rw [e0] at hs
    rw [e1, pow_split, ← Nat.mul_assoc m]
    generalize 2 ^ (last + D).toNat = g at *
    generalize m * 2 ^ (p - last).toNat = x at *
    obtain ⟨h1, h2⟩ := hs
    constructor
    · have := Nat.mul_le_mul_right g h1
      simpa [Nat.mul_assoc] using this
    · have := Nat.mul_le_mul_right g h2
      simp only [Nat.pow_zero, Nat.mul_one, Nat.add_mul, Nat.one_mul] at this
      simpa [Nat.mul_assoc] using this
  · have e0 : (p - last).toNat = 0 := by omega
    have e1 : (last + D).toNat = (last - p).toNat + (p + D).toNat := by omega
    rw [e0, Nat.pow_zero, Nat.mul_one] at hs
    rw [e1, pow_split]
    generalize 2 ^ (p + D).toNat = g at *
    generalize 2 ^ (last - p).toNat = x at *
    obtain ⟨h1, h2⟩ := hs
    constructor
    · have := Nat.mul_le_mul_right g h1
      simpa [Nat.mul_assoc] using this
    · have := Nat.mul_le_mul_right g h2
      rw [Nat.add_mul] at this
      simpa [Nat.mul_assoc] using this

theorem rung_facts (neg : Bool) (m : Nat) (p : Int) (hm : m ≠ 0) (D : Nat) (hp : 0 ≤ p + D) (hD : 1074 ≤ D) :
    ∃ q c, rung neg m p = q * 4503599627370496 + c ∧ ((q = 0 ∧ c ≤ 9007199254740992) ∨ (4503599627370496 ≤ c ∧ c ≤ 9007199254740992)) ∧
      2 * (m * 2 ^ (p + D).toNat) ≤ (2 * c + 1) * (2 ^ q * 2 ^ (D - 1074)) ∧ 2 * c * (2 ^ q * 2 ^ (D - 1074)) ≤ 2 * (m * 2 ^ (p + D).toNat) + 2 ^ q * 2 ^ (D - 1074) ∧
      m * 2 ^ (p + D).toNat < 9007199254740992 * (2 ^ q * 2 ^ (D - 1074)) ∧ (q ≠ 0 → 4503599627370496 * (2 ^ q * 2 ^ (D - 1074)) ≤ m * 2 ^ (p + D).toNat) := by
  have hL1 := Nat.log2_self_le hm
  have hL2 : m < 2 ^ (m.log2 + 1) := Nat.lt_log2_self
  unfold rung
  dsimp only
  generalize hl : max (p + m.log2 - 52) (-1074) = last
  have hlast : -1074 ≤ last ∧ p + m.log2 - 52 ≤ last := by omega
  have hsc := cut_scaled neg m p last D hp (by omega)
  have eq : 2 ^ (last + D).toNat = 2 ^ (last + 1074).toNat * 2 ^ (D - 1074) := by
    rw [← pow_split, show (last + 1074).toNat + (D - 1074) = (last + D).toNat by omega]
  simp only at hsc
  rw [eq] at hsc
  -- the bounds on m
  have hub : m * 2 ^ (p + D).toNat < 9007199254740992 * (2 ^ (last + 1074).toNat * 2 ^ (D - 1074)) := by
    rw [← eq]
    have h53 : m * 2 ^ (p + D).toNat < 2 ^ 53 * 2 ^ (last + D).toNat := by
      rw [← pow_split]
      refine Nat.lt_of_lt_of_le (Nat.mul_lt_mul_of_pos_right hL2 (Nat.two_pow_pos _)) ?_
      rw [← pow_split]
      exact Nat.pow_le_pow_right (by omega) (by omega)
    rw [show (2 : Nat) ^ 53 = 9007199254740992 by decide] at h53
    exact h53
  have hlb : (last + 1074).toNat ≠ 0 → 4503599627370496 * (2 ^ (last + 1074).toNat * 2 ^ (D - 1074)) ≤ m * 2 ^ (p + D).toNat := by
    intro h0
    rw [← eq]
    have h52 : 2 ^ 52 * 2 ^ (last + D).toNat ≤ m * 2 ^ (p + D).toNat := by
      rw [← pow_split]
      refine Nat.le_trans ?_ (Nat.mul_le_mul_right _ hL1)
      rw [← pow_split]
      exact Nat.pow_le_pow_right (by omega) (by omega)
    rw [show (2 : Nat) ^ 52 = 4503599627370496 by decide] at h52
    exact h52
  generalize Toward.even.cut neg (m <<< (p - last).toNat) (last - p).toNat = c at *
  generalize (last + 1074).toNat = q at *
  refine ⟨q, c, rfl, ?_, hsc.1, hsc.2, hub, hlb⟩
  have hg : 0 < 2 ^ q * 2 ^ (D - 1074) := Nat.mul_pos (Nat.two_pow_pos _) (Nat.two_pow_pos _)
  generalize 2 ^ q * 2 ^ (D - 1074) = g at *
  generalize m * 2 ^ (p + D).toNat = x at *
  have hc1 : c ≤ 9007199254740992 := by
    have h1 : 2 * c * g ≤ 2 * x + g := hsc.2
    have h2 : 2 * c * g < (2 * 9007199254740992 + 1) * g := by rw [Nat.add_mul, Nat.mul_assoc 2 9007199254740992]; omega
    have := Nat.lt_of_mul_lt_mul_right h2
    omega
  by_cases h0 : q = 0
  · exact .inl ⟨h0, hc1⟩
  · refine .inr ⟨?_, hc1⟩
    have h3 := hlb h0
    have h1 : 2 * x ≤ (2 * c + 1) * g := hsc.1
    have h2 : 2 * 4503599627370496 * g ≤ (2 * c + 1) * g := by rw [Nat.mul_assoc]; omega
    have := Nat.le_of_mul_le_mul_right h2 hg
    omega

/-- ROUNDING DOES NOT PASS A NUMBER OF THE FORMAT FROM BELOW. -/
theorem rung_le (neg : Bool) (m : Nat) (p : Int) (hm : m ≠ 0) (D : Nat) (hp : 0 ≤ p + D) (hD : 1074 ≤ D) (r : Nat) (h : m * 2 ^ (p + D).toNat ≤ val r * 2 ^ (D - 1074)) : rung neg m p ≤ r := by
  obtain ⟨q, c, e, hf, h1, h2, h3, h4⟩ := rung_facts neg m p hm D hp hD
  rw [e]
  rcases Nat.lt_or_ge r (q * 4503599627370496 + c) with hlt | hge
  · exfalso
    have hg : 0 < 2 ^ q * 2 ^ (D - 1074) := Nat.mul_pos (Nat.two_pow_pos _) (Nat.two_pow_pos _)
    by_cases hc : q = 0 ∨ 4503599627370496 < c
    · have hv : val r ≤ (c - 1) * 2 ^ q := by
        rw [← val_form q (c - 1) (by omega)]
        exact val_mono (by omega)
      have h5 : m * 2 ^ (p + D).toNat ≤ (c - 1) * (2 ^ q * 2 ^ (D - 1074)) := by
        rw [← Nat.mul_assoc]; exact Nat.le_trans h (Nat.mul_le_mul_right _ hv)
      generalize 2 ^ q * 2 ^ (D - 1074) = g at *
      generalize m * 2 ^ (p + D).toNat = x at *
      have h6 : 2 * c * g ≤ (2 * (c - 1) + 1) * g := by rw [Nat.add_mul, Nat.mul_assoc 2 (c - 1)]; omega
      have := Nat.le_of_mul_le_mul_right h6 hg
      omega
    · obtain ⟨q', rfl⟩ : ∃ q', q = q' + 1 := ⟨q - 1, by omega⟩
      have ec : c = 4503599627370496 := by omega
      have hv : val r ≤ 9007199254740991 * 2 ^ q' := by
        rw [← val_form q' 9007199254740991 (by omega)]
        exact val_mono (by omega)
      have h5 : m * 2 ^ (p + D).toNat ≤ 9007199254740991 * 2 ^ q' * 2 ^ (D - 1074) := Nat.le_trans h (Nat.mul_le_mul_right _ hv)
      have h6 := h4 (by omega)
      rw [Nat.pow_succ] at h6
      have hg' : 0 < 2 ^ q' * 2 ^ (D - 1074) := Nat.mul_pos (Nat.two_pow_pos _) (Nat.two_pow_pos _)
      rw [Nat.mul_assoc] at h5
      rw [show 2 ^ q' * 2 * 2 ^ (D - 1074) = 2 * (2 ^ q' * 2 ^ (D - 1074)) by rw [Nat.mul_comm (2 ^ q') 2, Nat.mul_assoc]] at h6
      generalize 2 ^ q' * 2 ^ (D - 1074) = g at *
      omega
  · exact hge

/-- .. NOR FROM ABOVE. -/
theorem rung_ge (neg : Bool) (m : Nat) (p : Int) (hm : m ≠ 0) (D : Nat) (hp : 0 ≤ p + D) (hD : 1074 ≤ D) (r : Nat) (h : val r * 2 ^ (D - 1074) ≤ m * 2 ^ (p + D).toNat) : r ≤ rung neg m p := by
  obtain ⟨q, c, e, hf, h1, h2, h3, h4⟩ := rung_facts neg m p hm D hp hD
  rw [e]
  rcases Nat.lt_or_ge (q * 4503599627370496 + c) r with hlt | hge
  · exfalso
    have hg : 0 < 2 ^ q * 2 ^ (D - 1074) := Nat.mul_pos (Nat.two_pow_pos _) (Nat.two_pow_pos _)
    by_cases hc : c = 9007199254740992
    · have hv : c * 2 ^ q ≤ val r := by
        rw [← val_form q c (by omega)]
        exact val_mono (by omega)
      have h5 := Nat.le_trans (Nat.mul_le_mul_right (2 ^ (D - 1074)) hv) h
      rw [Nat.mul_assoc, hc] at h5
      omega
    · have hv : (c + 1) * 2 ^ q ≤ val r := by
        rw [← val_form q (c + 1) (by omega)]
        exact val_mono (by omega)
      have h5 := Nat.le_trans (Nat.mul_le_mul_right (2 ^ (D - 1074)) hv) h
      rw [Nat.mul_assoc] at h5
      generalize 2 ^ q * 2 ^ (D - 1074) = g at *
      generalize m * 2 ^ (p + D).toNat = x at *
      have h6 : 2 * (c + 1) * g ≤ (2 * c + 1) * g := by rw [Nat.mul_assoc]; omega
      have := Nat.le_of_mul_le_mul_right h6 hg
      omega
  · exact hge

/-! ### What a word reads as -/
def zer : Datum := .number false 0 (-1074)
def nn : Datum := .nan false 1
/-- One datum for all NaNs, one for both zeros. -/
def cd : Datum → Datum
  | .nan _ _ => nn
  | .infinity s => .infinity s
  | .number s m p => if m = 0 then zer else .number s m p
/-- What a word stands for, up to the sign of zero and the kind of NaN. -/
def ab (b : Nat) : Datum := cd (double.read b)
/-- The rounded result of an operation. -/
def rnd : Option Datum → Datum
  | none => nn
  | some d => cd (double.read (double.write d))

/-- The datum of a sign and a rung up to infinity's. -/
def mk (s : Bool) (r : Nat) : Datum :=
  if r < 4503599627370496 then .number s r (-1074)
  else if r < 9218868437227405312 then .number s (4503599627370496 + r % 4503599627370496) (-1074 + ((r / 4503599627370496 - 1 : Nat) : Int))
  else .infinity s

theorem read_def (b : Nat) : double.read b =
    if b % 9223372036854775808 < 4503599627370496 then .number (b / 9223372036854775808 % 2 == 1) (b % 9223372036854775808) (-1074)
    else if b % 9223372036854775808 < 9218868437227405312 then .number (b / 9223372036854775808 % 2 == 1) (4503599627370496 + b % 9223372036854775808 % 4503599627370496) (-1074 + ((b % 9223372036854775808 / 4503599627370496 - 1 : Nat) : Int))
    else if b % 9223372036854775808 = 9218868437227405312 then .infinity (b / 9223372036854775808 % 2 == 1)
    else .nan (b / 9223372036854775808 % 2 == 1) (b % 9223372036854775808 - 9218868437227405312) := by
  unfold Format.read
  rw [sw, bin, inf, lp]

theorem read_word (s : Bool) (r : Nat) (h : r ≤ 9218868437227405312) : double.read (double.word s r) = mk s r := by
  rw [read_def]
  unfold Format.word mk
  rw [sw]
  cases s
  · simp only [Bool.false_eq_true, if_false]
    have e1 : r % 9223372036854775808 = r := Nat.mod_eq_of_lt (by omega)
    have e2 : (r / 9223372036854775808 % 2 == 1) = false := by
      rw [Nat.div_eq_of_lt (by omega)]; rfl
    rw [e1, e2]
    by_cases h1 : r < 4503599627370496
    · rw [if_pos h1, if_pos h1]
    · rw [if_neg h1, if_neg h1]
      by_cases h2 : r < 9218868437227405312
      · rw [if_pos h2, if_pos h2]
      · rw [if_neg h2, if_neg h2, if_pos (by omega)]
  · simp only [if_true]
    have e1 : (9223372036854775808 + r) % 9223372036854775808 = r := by omega
    have e2 : ((9223372036854775808 + r) / 9223372036854775808 % 2 == 1) = true := by
      have : (9223372036854775808 + r) / 9223372036854775808 = 1 := by omega
      rw [this]; rfl
    rw [e1, e2]
    by_cases h1 : r < 4503599627370496
    · rw [if_pos h1, if_pos h1]
    · rw [if_neg h1, if_neg h1]
      by_cases h2 : r < 9218868437227405312
      · rw [if_pos h2, if_pos h2]
      · rw [if_neg h2, if_neg h2, if_pos (by omega)]

/-- Every word is a NaN or one of these. -/
theorem read_cases (b : Nat) : (∃ s t, double.read b = .nan s t) ∨ ∃ s r, r ≤ 9218868437227405312 ∧ double.read b = mk s r := by
  rw [read_def]
  generalize (b / 9223372036854775808 % 2 == 1) = s
  generalize b % 9223372036854775808 = r
  by_cases h1 : r < 4503599627370496
  · exact .inr ⟨s, r, by omega, by unfold mk; rw [if_pos h1, if_pos h1]⟩
  · by_cases h2 : r < 9218868437227405312
    · exact .inr ⟨s, r, by omega, by unfold mk; rw [if_neg h1, if_neg h1, if_pos h2, if_pos h2]⟩
    · by_cases h3 : r = 9218868437227405312
      · exact .inr ⟨s, r, by omega, by unfold mk; rw [if_neg h1, if_neg h1, if_neg h2, if_neg h2, if_pos h3]⟩
      · exact .inl ⟨s, r - 9218868437227405312, by rw [if_neg h1, if_neg h2, if_neg h3]⟩

theorem mk_opp (s : Bool) (r : Nat) : (mk s r).opposite = mk (!s) r := by
  unfold mk
  by_cases h1 : r < 4503599627370496
  · rw [if_pos h1, if_pos h1]; rfl
  · rw [if_neg h1, if_neg h1]
    by_cases h2 : r < 9218868437227405312
    · rw [if_pos h2, if_pos h2]; rfl
    · rw [if_neg h2, if_neg h2]; rfl

/-- The number of a rung below infinity's. -/
theorem mk_num (s : Bool) (r : Nat) (h : r < 9218868437227405312) : ∃ (m : Nat) (p : Int), mk s r = .number s m p ∧ -1074 ≤ p ∧ m < 9007199254740992 ∧ m * 2 ^ (p + 1074).toNat = val r ∧ (m = 0 → r = 0 ∧ p = -1074) ∧ (m < 4503599627370496 → p = -1074) := by
  unfold mk
  by_cases h1 : r < 4503599627370496
  · rw [if_pos h1]
    refine ⟨r, -1074, rfl, by omega, by omega, ?_, fun h => ⟨h, rfl⟩, fun _ => rfl⟩
    unfold val
    rw [if_pos h1]
    simp
  · rw [if_neg h1, if_pos h]
    refine ⟨_, _, rfl, by omega, by omega, ?_, fun h => by omega, fun h => by omega⟩
    unfold val
    rw [if_neg h1]
    have e : (-1074 + ((r / 4503599627370496 - 1 : Nat) : Int) + 1074).toNat = r / 4503599627370496 - 1 := by omega
    rw [e]

theorem rung_neg (a b : Bool) (m : Nat) (p : Int) : rung a m p = rung b m p := rfl

theorem rnd_zero (s : Bool) (p : Int) : rnd (some (.number s 0 p)) = zer := by
  show cd (double.read (double.nearest s 0 p)) = zer
  unfold Format.nearest
  rw [if_pos rfl, read_word s 0 (by omega)]
  cases s <;> rfl

theorem rnd_number (s : Bool) (m : Nat) (p : Int) (hm : m ≠ 0) : rnd (some (.number s m p)) = cd (mk s (min (rung s m p) 9218868437227405312)) := by
  show cd (double.read (double.nearest s m p)) = _
  rw [nearest_eq s m p hm, read_word _ _ (by omega)]

theorem rnd_inf (s : Bool) : rnd (some (.infinity s)) = .infinity s := by
  show cd (double.read (double.word s double.infRung)) = _
  rw [inf, read_word _ _ (by omega)]
  cases s <;> rfl

/-- The opposite. -/
def ng (d : Datum) : Datum := cd d.opposite

theorem cd_num0 (s : Bool) (p : Int) : cd (.number s 0 p) = zer := rfl
theorem cd_num {s : Bool} {m : Nat} {p : Int} (h : m ≠ 0) : cd (.number s m p) = .number s m p := by
  show (if m = 0 then zer else _) = _
  rw [if_neg h]

theorem cd_cd (d : Datum) : cd (cd d) = cd d := by
  cases d with
  | nan s t => rfl
  | infinity s => rfl
  | number s m p =>
    by_cases h : m = 0
    · subst h; rfl
    · rw [cd_num h, cd_num h]

theorem ng_cd (d : Datum) : ng (cd d) = cd d.opposite := by
  cases d with
  | nan s t => rfl
  | infinity s => rfl
  | number s m p =>
    by_cases h : m = 0
    · subst h; rfl
    · rw [cd_num h]; rfl

theorem cd_ng (d : Datum) : cd (ng d) = ng d := cd_cd _
theorem ng_zer : ng zer = zer := rfl
theorem ng_nn : ng nn = nn := rfl

theorem rnd_number_ng (s : Bool) (m : Nat) (p : Int) : rnd (some (.number (!s) m p)) = ng (rnd (some (.number s m p))) := by
  by_cases h : m = 0
  · subst h; rw [rnd_zero, rnd_zero]; rfl
  · rw [rnd_number _ _ _ h, rnd_number _ _ _ h, ng_cd, mk_opp]
    rfl

theorem cd_rnd (o : Option Datum) : cd (rnd o) = rnd o := by
  cases o with
  | none => rfl
  | some d => exact cd_cd _

/-- A signed whole number at a place, rounded. -/
def rz (z : Int) (p : Int) : Datum := if z = 0 then zer else rnd (some (.number (decide (z < 0)) z.natAbs p))

theorem rz_neg (z p : Int) : rz (-z) p = ng (rz z p) := by
  unfold rz
  by_cases h : z = 0
  · subst h; rfl
  · rw [if_neg (by omega), if_neg h, Int.natAbs_neg, ← rnd_number_ng]
    have : decide (-z < 0) = !decide (z < 0) := by
      by_cases h2 : z < 0
      · rw [decide_eq_true h2, decide_eq_false (by omega)]; rfl
      · rw [decide_eq_false h2, decide_eq_true (by omega)]; rfl
    rw [this]

theorem signed_not (s : Bool) (m u : Nat) : signed (!s) m u = - signed s m u := by
  unfold signed; cases s <;> simp

theorem signed_zero (s : Bool) (u : Nat) : signed s 0 u = 0 := by
  unfold signed; cases s <;> simp

theorem sum_num (s : Bool) (m : Nat) (i : Int) (t : Bool) (n : Nat) (j : Int) : rnd ((Datum.number s m i).sum (.number t n j)) = rz (signed s m (i - min i j).toNat + signed t n (j - min i j).toNat) (min i j) := by
  unfold Datum.sum rz
  dsimp only
  generalize signed s m (i - min i j).toNat + signed t n (j - min i j).toNat = z
  by_cases h : z = 0
  · subst h
    rw [if_pos rfl]
    exact rnd_zero _ _
  · rw [if_neg h, if_neg h]

/-- A datum that a word reads as: a zero lies at the least place. -/
def Ok (d : Datum) : Prop := ∀ s p, d = .number s 0 p → p = -1074

theorem ok_read (b : Nat) : Ok (double.read b) := by
  intro s p e
  rcases read_cases b with ⟨s', t, h⟩ | ⟨s', r, hr, h⟩
  · rw [h] at e; cases e
  · rw [h] at e
    by_cases h2 : r < 9218868437227405312
    · obtain ⟨m, p', h3, _, _, _, h4, _⟩ := mk_num s' r h2
      rw [h3] at e
      cases e
      exact (h4 rfl).2
    · unfold mk at e
      rw [if_neg (by omega), if_neg h2] at e
      cases e

theorem ok_zer : Ok zer := by intro s p e; cases e; rfl
theorem ok_cd (d : Datum) : Ok (cd d) := by
  cases d with
  | nan s t => intro s' p e; cases e
  | infinity s => intro s' p e; cases e
  | number s m p =>
    by_cases h : m = 0
    · subst h; exact ok_zer
    · rw [cd_num h]; intro s' p' e; cases e; exact absurd rfl h

theorem ok_opp {d : Datum} (h : Ok d) : Ok d.opposite := by
  intro s p e
  cases d with
  | nan s' t => cases e
  | infinity s' => cases e
  | number s' m p' =>
    have h1 := h s'
    cases e
    exact h1 _ rfl

/-- The sum does not look at the sign of a zero. -/
theorem sum_cd {a b : Datum} (ha : Ok a) (hb : Ok b) : rnd (a.sum b) = rnd ((cd a).sum (cd b)) := by
  cases a with
  | nan s t => rfl
  | infinity s =>
    cases b with
    | nan t u => rfl
    | infinity t => rfl
    | number t n j =>
      by_cases h : n = 0
      · subst h; rfl
      · rw [cd_num h]; rfl
  | number s m i =>
    cases b with
    | nan t u =>
      by_cases h : m = 0
      · subst h; rfl
      · rw [cd_num h]; rfl
    | infinity t =>
      by_cases h : m = 0
      · subst h; rfl
      · rw [cd_num h]; rfl
    | number t n j =>
      have e1 : ∃ s', cd (.number s m i) = .number s' m i ∧ ∀ u, signed s' m u = signed s m u := by
        by_cases h : m = 0
        · subst h
          rw [cd_num0, ha s i rfl]
          exact ⟨false, rfl, fun u => by rw [signed_zero, signed_zero]⟩
        · rw [cd_num h]; exact ⟨s, rfl, fun _ => rfl⟩
      have e2 : ∃ t', cd (.number t n j) = .number t' n j ∧ ∀ u, signed t' n u = signed t n u := by
        by_cases h : n = 0
        · subst h
          rw [cd_num0, hb t j rfl]
          exact ⟨false, rfl, fun u => by rw [signed_zero, signed_zero]⟩
        · rw [cd_num h]; exact ⟨t, rfl, fun _ => rfl⟩
      obtain ⟨s', h1, h2⟩ := e1
      obtain ⟨t', h3, h4⟩ := e2
      rw [h1, h3, sum_num, sum_num, h2, h4]

def addD (a b : Datum) : Datum := rnd (a.sum b)
def subD (a b : Datum) : Datum := rnd (a.sum b.opposite)
def mulD (a b : Datum) : Datum := rnd (a.product b)
def divD (a b : Datum) : Datum := rnd (a.quotient 54 b)

theorem sum_opp {a b : Datum} (ha : Ok a) (hb : Ok b) : rnd (a.opposite.sum b.opposite) = ng (rnd (a.sum b)) := by
  cases a with
  | nan s t => cases b <;> rfl
  | infinity s =>
    cases b with
    | nan t u => rfl
    | infinity t =>
      unfold Datum.sum Datum.opposite
      dsimp only
      by_cases h : s = t
      · subst h; rw [if_pos rfl, if_pos rfl, rnd_inf, rnd_inf]; rfl
      · rw [if_neg (by intro e; exact h (by cases s <;> cases t <;> simp_all)), if_neg h]; rfl
    | number t n j =>
      show rnd (some (.infinity (!s))) = ng (rnd (some (.infinity s)))
      rw [rnd_inf, rnd_inf]; rfl
  | number s m i =>
    cases b with
    | nan t u => rfl
    | infinity t =>
      show rnd (some (.infinity (!t))) = ng (rnd (some (.infinity t)))
      rw [rnd_inf, rnd_inf]; rfl
    | number t n j =>
      show rnd ((Datum.number (!s) m i).sum (.number (!t) n j)) = _
      rw [sum_num, sum_num, signed_not, signed_not, ← rz_neg]
      congr 1
      omega

theorem opp_opp (d : Datum) : d.opposite.opposite = d := by
  cases d <;> simp [Datum.opposite]

theorem add_ng {a b : Datum} (ha : Ok a) (hb : Ok b) : addD (ng a) (ng b) = ng (addD a b) := by
  unfold addD ng
  rw [← sum_cd (ok_opp ha) (ok_opp hb)]
  exact sum_opp ha hb

theorem sub_ng {a b : Datum} (ha : Ok a) (hb : Ok b) : subD (ng a) (ng b) = ng (subD a b) := by
  unfold subD
  have h1 : cd (ng b).opposite = cd (b.opposite.opposite) := by
    show ng (cd b.opposite) = _
    rw [ng_cd]
  have h2 : Ok (ng b).opposite := ok_opp (ok_cd _)
  have h3 : rnd ((ng a).sum (ng b).opposite) = rnd ((cd (ng a)).sum (cd (ng b).opposite)) := sum_cd (ok_cd _) h2
  rw [h3, h1]
  show rnd ((cd (cd a.opposite)).sum _) = _
  rw [cd_cd, ← sum_cd (ok_opp ha) (ok_opp (ok_opp hb))]
  exact sum_opp ha (ok_opp hb)

theorem xor_not (s t : Bool) : ((!s) ^^ t) = !(s ^^ t) := by cases s <;> cases t <;> rfl

theorem prod_opp_l (a b : Datum) : rnd (a.opposite.product b) = ng (rnd (a.product b)) := by
  cases a with
  | nan s t => cases b <;> rfl
  | infinity s =>
    cases b with
    | nan t u => rfl
    | infinity t =>
      show rnd (some (.infinity ((!s) ^^ t))) = ng (rnd (some (.infinity (s ^^ t))))
      rw [rnd_inf, rnd_inf, xor_not]; rfl
    | number t n j =>
      show rnd (if n = 0 then none else some (.infinity ((!s) ^^ t))) = ng (rnd (if n = 0 then none else some (.infinity (s ^^ t))))
      by_cases h : n = 0
      · rw [if_pos h, if_pos h]; rfl
      · rw [if_neg h, if_neg h, rnd_inf, rnd_inf, xor_not]; rfl
  | number s m i =>
    cases b with
    | nan t u => rfl
    | infinity t =>
      show rnd (if m = 0 then none else some (.infinity (t ^^ !s))) = ng (rnd (if m = 0 then none else some (.infinity (t ^^ s))))
      by_cases h : m = 0
      · rw [if_pos h, if_pos h]; rfl
      · rw [if_neg h, if_neg h, rnd_inf, rnd_inf]
        cases s <;> cases t <;> rfl
    | number t n j =>
      show rnd (some (.number ((!s) ^^ t) (m * n) (i + j))) = ng (rnd (some (.number (s ^^ t) (m * n) (i + j))))
      rw [xor_not, rnd_number_ng]

theorem prod_comm (a b : Datum) : rnd (a.product b) = rnd (b.product a) := by
  cases a with
  | nan s t => cases b <;> rfl
  | infinity s =>
    cases b with
    | nan t u => rfl
    | infinity t =>
      show rnd (some (.infinity (s ^^ t))) = rnd (some (.infinity (t ^^ s)))
      cases s <;> cases t <;> rfl
    | number t n j => rfl
  | number s m i =>
    cases b with
    | nan t u => rfl
    | infinity t => rfl
    | number t n j =>
      show rnd (some (.number (s ^^ t) (m * n) (i + j))) = rnd (some (.number (t ^^ s) (n * m) (j + i)))
      rw [Nat.mul_comm, Int.add_comm]
      cases s <;> cases t <;> rfl

/-- The product does not look at the sign of a zero. -/
theorem prod_cd_l {a : Datum} (b : Datum) (ha : Ok a) : rnd (a.product b) = rnd ((cd a).product b) := by
  cases a with
  | nan s t => cases b <;> rfl
  | infinity s => rfl
  | number s m i =>
    by_cases h : m = 0
    · subst h
      rw [cd_num0, ha s i rfl]
      cases b with
      | nan t u => rfl
      | infinity t => rfl
      | number t n j =>
        show rnd (some (.number (s ^^ t) (0 * n) (-1074 + j))) = rnd (some (.number (false ^^ t) (0 * n) (-1074 + j)))
        rw [Nat.zero_mul, rnd_zero, rnd_zero]
    · rw [cd_num h]

theorem prod_cd {a b : Datum} (ha : Ok a) (hb : Ok b) : rnd (a.product b) = rnd ((cd a).product (cd b)) := by
  rw [prod_cd_l b ha, prod_comm, prod_cd_l (cd a) hb, prod_comm]

theorem mul_ng_l {a : Datum} (b : Datum) (ha : Ok a) : mulD (ng a) b = ng (mulD a b) := by
  unfold mulD ng
  rw [← prod_cd_l b (ok_opp ha)]
  exact prod_opp_l a b

theorem mul_ng_r (a : Datum) {b : Datum} (hb : Ok b) : mulD a (ng b) = ng (mulD a b) := by
  unfold mulD
  rw [prod_comm a (ng b), prod_comm a b]
  exact mul_ng_l a hb

theorem quot_opp (a b : Datum) (k : Nat) : rnd (a.opposite.quotient k b) = ng (rnd (a.quotient k b)) := by
  cases a with
  | nan s t => cases b <;> rfl
  | infinity s =>
    cases b with
    | nan t u => rfl
    | infinity t => rfl
    | number t n j =>
      show rnd (some (.infinity ((!s) ^^ t))) = ng (rnd (some (.infinity (s ^^ t))))
      rw [rnd_inf, rnd_inf, xor_not]; rfl
  | number s m i =>
    cases b with
    | nan t u => rfl
    | infinity t =>
      show rnd (some (.number ((!s) ^^ t) 0 0)) = ng (rnd (some (.number (s ^^ t) 0 0)))
      rw [rnd_zero, rnd_zero]; rfl
    | number t n j =>
      unfold Datum.quotient Datum.opposite
      dsimp only
      by_cases h : n = 0
      · rw [if_pos h, if_pos h]
        by_cases h2 : m = 0
        · rw [if_pos h2, if_pos h2]; rfl
        · rw [if_neg h2, if_neg h2, rnd_inf, rnd_inf, xor_not]; rfl
      · rw [if_neg h, if_neg h, xor_not, rnd_number_ng]

/-- The quotient does not look at the sign of a zero that is divided. -/
theorem quot_cd_l {a : Datum} (b : Datum) (k : Nat) (ha : Ok a) : rnd (a.quotient k b) = rnd ((cd a).quotient k b) := by
  cases a with
  | nan s t => cases b <;> rfl
  | infinity s => rfl
  | number s m i =>
    by_cases h : m = 0
    · subst h
      rw [cd_num0, ha s i rfl]
      cases b with
      | nan t u => rfl
      | infinity t =>
        show rnd (some (.number (s ^^ t) 0 0)) = rnd (some (.number (false ^^ t) 0 0))
        rw [rnd_zero, rnd_zero]
      | number t n j =>
        unfold Datum.quotient zer
        dsimp only
        by_cases h2 : n = 0
        · rw [if_pos h2, if_pos h2]; rfl
        · rw [if_neg h2, if_neg h2]
          have e : (0 : Nat) <<< (k + n.log2 - Nat.log2 0) = 0 := by simp
          rw [e]
          have e2 : 2 * (0 / n) + (0 % n != 0).toNat = 0 := by simp
          rw [e2, rnd_zero, rnd_zero]
    · rw [cd_num h]

theorem div_ng {a : Datum} (b : Datum) (ha : Ok a) : divD (ng a) b = ng (divD a b) := by
  unfold divD ng
  rw [← quot_cd_l b 54 (ok_opp ha)]
  exact quot_opp a b 54

/-! ### Order -/
theorem compare_neg (x y : Int) : compare (-x) (-y) = compare y x := by
  simp only [compare, compareOfLessAndEq]
  by_cases h1 : y < x
  · rw [if_pos (by omega), if_pos h1]
  · by_cases h2 : y = x
    · rw [if_neg (by omega), if_pos (by omega), if_neg h1, if_pos h2]
    · rw [if_neg (by omega), if_neg (by omega), if_neg h1, if_neg h2]

theorem order_num (s : Bool) (m : Nat) (i : Int) (t : Bool) (n : Nat) (j : Int) : (Datum.number s m i).order (.number t n j) = some (compare (signed s m (i - min i j).toNat) (signed t n (j - min i j).toNat)) := rfl

/-- The order does not look at the sign of a zero. -/
theorem order_cd {a b : Datum} (ha : Ok a) (hb : Ok b) : a.order b = (cd a).order (cd b) := by
  cases a with
  | nan s t => cases b <;> rfl
  | infinity s =>
    cases b with
    | nan t u => rfl
    | infinity t => rfl
    | number t n j =>
      by_cases h : n = 0
      · subst h; rfl
      · rw [cd_num h]; rfl
  | number s m i =>
    cases b with
    | nan t u =>
      by_cases h : m = 0
      · subst h; rfl
      · rw [cd_num h]; rfl
    | infinity t =>
      by_cases h : m = 0
      · subst h; rfl
      · rw [cd_num h]; rfl
    | number t n j =>
      have e1 : ∃ s', cd (.number s m i) = .number s' m i ∧ ∀ u, signed s' m u = signed s m u := by
        by_cases h : m = 0
        · subst h
          rw [cd_num0, ha s i rfl]
          exact ⟨false, rfl, fun u => by rw [signed_zero, signed_zero]⟩
        · rw [cd_num h]; exact ⟨s, rfl, fun _ => rfl⟩
      have e2 : ∃ t', cd (.number t n j) = .number t' n j ∧ ∀ u, signed t' n u = signed t n u := by
        by_cases h : n = 0
        · subst h
          rw [cd_num0, hb t j rfl]
          exact ⟨false, rfl, fun u => by rw [signed_zero, signed_zero]⟩
        · rw [cd_num h]; exact ⟨t, rfl, fun _ => rfl⟩
      obtain ⟨s', h1, h2⟩ := e1
      obtain ⟨t', h3, h4⟩ := e2
      rw [h1, h3, order_num, order_num, h2, h4]

theorem order_opp (a b : Datum) : a.opposite.order b.opposite = b.order a := by
  cases a with
  | nan s t => cases b <;> rfl
  | infinity s =>
    cases b with
    | nan t u => rfl
    | infinity t => cases s <;> cases t <;> rfl
    | number t n j => cases s <;> rfl
  | number s m i =>
    cases b with
    | nan t u => rfl
    | infinity t => cases t <;> rfl
    | number t n j =>
      show (Datum.number (!s) m i).order (.number (!t) n j) = _
      rw [order_num, order_num, signed_not, signed_not, compare_neg, Int.min_comm]

theorem order_ng {a b : Datum} (ha : Ok a) (hb : Ok b) : (ng a).order (ng b) = b.order a := by
  unfold ng
  rw [← order_cd (ok_opp ha) (ok_opp hb), order_opp]

theorem compare_self (x : Int) : compare x x = .eq := by
  simp [compare, compareOfLessAndEq]

theorem order_self (a : Datum) : a.order a = none ∨ a.order a = some .eq := by
  cases a with
  | nan s t => exact .inl rfl
  | infinity s => right; cases s <;> rfl
  | number s m i => right; rw [order_num, compare_self]

theorem compare_swap (x y : Int) : compare y x = (compare x y).swap := by
  simp only [compare, compareOfLessAndEq]
  by_cases h1 : x < y
  · rw [if_neg (by omega), if_neg (by omega), if_pos h1]; rfl
  · by_cases h2 : x = y
    · rw [if_neg (by omega), if_pos h2.symm, if_neg h1, if_pos h2]; rfl
    · rw [if_pos (by omega), if_neg h1, if_neg h2]; rfl

theorem order_swap (a b : Datum) : b.order a = (a.order b).map Ordering.swap := by
  cases a with
  | nan s t => cases b <;> rfl
  | infinity s =>
    cases b with
    | nan t u => rfl
    | infinity t => cases s <;> cases t <;> rfl
    | number t n j => cases s <;> rfl
  | number s m i =>
    cases b with
    | nan t u => rfl
    | infinity t => cases t <;> rfl
    | number t n j => rw [order_num, order_num, compare_swap, Int.min_comm]; rfl

theorem signed_abs (s : Bool) (m u : Nat) : (signed s m u).natAbs = m * 2 ^ u := by
  unfold signed
  rw [Nat.shiftLeft_eq]
  cases s
  · exact Int.natAbs_natCast _
  · exact (Int.natAbs_neg _).trans (Int.natAbs_natCast _)

theorem compare_eq {x y : Int} (h : compare x y = .eq) : x = y := by
  simp only [compare, compareOfLessAndEq] at h
  by_cases h1 : x < y
  · rw [if_pos h1] at h; cases h
  · by_cases h2 : x = y
    · exact h2
    · rw [if_neg h1, if_neg h2] at h; cases h

theorem signed_neg_iff (s : Bool) (m u : Nat) (hm : m ≠ 0) : signed s m u < 0 ↔ s = true := by
  have h1 : 0 < m * 2 ^ u := Nat.mul_pos (by omega) (Nat.two_pow_pos _)
  have e : ((m <<< u : Nat) : Int) = ((m * 2 ^ u : Nat) : Int) := by rw [Nat.shiftLeft_eq]
  unfold signed
  cases s
  · simp only [Bool.false_eq_true, if_false, iff_false]; omega
  · simp only [if_true, iff_true]; omega

/-- Two words that compare equal stand for one datum. -/
theorem eq_of_order {x y : Nat} (h : (double.read x).order (double.read y) = some .eq) : ab x = ab y := by
  unfold ab
  rcases read_cases x with ⟨s, t, hx⟩ | ⟨s, r, hr, hx⟩
  · rw [hx] at h; cases hy : double.read y <;> rw [hy] at h <;> cases h
  rcases read_cases y with ⟨s', t, hy⟩ | ⟨s', r', hr', hy⟩
  · rw [hx, hy] at h; cases hz : mk s r <;> rw [hz] at h <;> cases h
  rw [hx, hy] at h ⊢
  by_cases h1 : r < 9218868437227405312
  · obtain ⟨m, p, e1, a1, a2, a3, a4, a5⟩ := mk_num s r h1
    rw [e1] at h ⊢
    by_cases h2 : r' < 9218868437227405312
    · obtain ⟨n, q, e2, b1, b2, b3, b4, b5⟩ := mk_num s' r' h2
      rw [e2] at h ⊢
      rw [order_num] at h
      have hz := compare_eq (Option.some.inj h)
      have habs := congrArg Int.natAbs hz
      rw [signed_abs, signed_abs] at habs
      by_cases hm : m = 0
      · have hn : n = 0 := by
          rw [hm, Nat.zero_mul] at habs
          rcases Nat.mul_eq_zero.1 habs.symm with h3 | h3
          · exact h3
          · have := Nat.two_pow_pos (q - min p q).toNat; omega
        rw [hm, hn]; rfl
      · have hn : n ≠ 0 := by
          intro hn
          rw [hn, Nat.zero_mul] at habs
          rcases Nat.mul_eq_zero.1 habs with h3 | h3
          · exact hm h3
          · have := Nat.two_pow_pos (p - min p q).toNat; omega
        have hs : s = s' := by
          have i1 := signed_neg_iff s m (p - min p q).toNat hm
          have i2 := signed_neg_iff s' n (q - min p q).toNat hn
          rw [hz] at i1
          cases s <;> cases s' <;> simp_all
        subst hs
        have hpq : p = q := by
          rcases Int.lt_trichotomy p q with h3 | h3 | h3
          · exfalso
            have e3 : (p - min p q).toNat = 0 := by omega
            rw [e3, Nat.pow_zero, Nat.mul_one] at habs
            have hn2 : 4503599627370496 ≤ n := by
              rcases Nat.lt_or_ge n 4503599627370496 with h4 | h4
              · have := b5 h4; omega
              · exact h4
            have h5 : 2 ≤ 2 ^ (q - min p q).toNat := by
              have : 2 ^ 1 ≤ 2 ^ (q - min p q).toNat := Nat.pow_le_pow_right (by omega) (by omega)
              simpa using this
            have := Nat.mul_le_mul hn2 h5
            omega
          · exact h3
          · exfalso
            have e3 : (q - min p q).toNat = 0 := by omega
            rw [e3, Nat.pow_zero, Nat.mul_one] at habs
            have hn2 : 4503599627370496 ≤ m := by
              rcases Nat.lt_or_ge m 4503599627370496 with h4 | h4
              · have := a5 h4; omega
              · exact h4
            have h5 : 2 ≤ 2 ^ (p - min p q).toNat := by
              have : 2 ^ 1 ≤ 2 ^ (p - min p q).toNat := Nat.pow_le_pow_right (by omega) (by omega)
              simpa using this
            have := Nat.mul_le_mul hn2 h5
            omega
        subst hpq
        have e3 : (p - min p p).toNat = 0 := by omega
        rw [e3, Nat.pow_zero, Nat.mul_one, Nat.mul_one] at habs
        rw [habs]
    · have e2 : mk s' r' = .infinity s' := by unfold mk; rw [if_neg (by omega), if_neg h2]
      rw [e2] at h
      cases s' <;> cases h
  · have e1 : mk s r = .infinity s := by unfold mk; rw [if_neg (by omega), if_neg h1]
    rw [e1] at h ⊢
    by_cases h2 : r' < 9218868437227405312
    · obtain ⟨n, q, e2, _⟩ := mk_num s' r' h2
      rw [e2] at h
      cases s <;> cases h
    · have e2 : mk s' r' = .infinity s' := by unfold mk; rw [if_neg (by omega), if_neg h2]
      rw [e2] at h ⊢
      cases s <;> cases s' <;> first | rfl | (cases h)

def maxD (a b : Datum) : Datum := match a.order b with
  | none => nn
  | some .lt => b
  | some .gt => a
  | some .eq => a
def minD (a b : Datum) : Datum := match a.order b with
  | none => nn
  | some .lt => a
  | some .gt => b
  | some .eq => a

theorem max_ng {a b : Datum} (ha : Ok a) (hb : Ok b) : maxD (ng a) (ng b) = ng (minD a b) := by
  unfold maxD minD
  rw [order_ng ha hb, order_swap a b]
  cases a.order b with
  | none => rfl
  | some o => cases o <;> rfl

theorem min_ng {a b : Datum} (ha : Ok a) (hb : Ok b) : minD (ng a) (ng b) = ng (maxD a b) := by
  unfold maxD minD
  rw [order_ng ha hb, order_swap a b]
  cases a.order b with
  | none => rfl
  | some o => cases o <;> rfl

/-! ### Exact results and bounds -/
/-- A finite number of the format: sign, rung. -/
theorem cd_mk_num (s : Bool) {r : Nat} (h : r < 9218868437227405312) (h0 : r ≠ 0) : ∃ (m : Nat) (p : Int), cd (mk s r) = .number s m p ∧ mk s r = .number s m p ∧ m ≠ 0 ∧ -1074 ≤ p ∧ m < 9007199254740992 ∧ m * 2 ^ (p + 1074).toNat = val r := by
  obtain ⟨m, p, e1, a1, a2, a3, a4, a5⟩ := mk_num s r h
  have hm : m ≠ 0 := fun e => h0 (a4 e).1
  exact ⟨m, p, by rw [e1, cd_num hm], e1, hm, a1, a2, a3⟩

/-- A number that the format has is rounded to itself. -/
theorem rnd_exact (s : Bool) (m : Nat) (p : Int) (hm : m ≠ 0) (D : Nat) (hp : 0 ≤ p + D) (hD : 1074 ≤ D) {r : Nat} (hr : r < 9218868437227405312) (h : m * 2 ^ (p + D).toNat = val r * 2 ^ (D - 1074)) : rnd (some (.number s m p)) = cd (mk s r) := by
  have h1 := rung_le s m p hm D hp hD r (by omega)
  have h2 := rung_ge s m p hm D hp hD r (by omega)
  rw [rnd_number s m p hm, show min (rung s m p) 9218868437227405312 = r by omega]

/-- Bounded by K units, and finite. -/
def Bd (K : Nat) (d : Datum) : Prop := ∃ (s : Bool) (m : Nat) (p : Int), d = .number s m p ∧ -1074 ≤ p ∧ m * 2 ^ (p + 1074).toNat ≤ K

theorem bd_zer (K : Nat) : Bd K zer := ⟨false, 0, -1074, rfl, by omega, by simp⟩

theorem Bd.mono {K K' : Nat} {d : Datum} (h : Bd K d) (hK : K ≤ K') : Bd K' d := by
  obtain ⟨s, m, p, e, h1, h2⟩ := h
  exact ⟨s, m, p, e, h1, by omega⟩

/-- A bound that the format has is not passed by rounding. -/
theorem rnd_bd (s : Bool) (m : Nat) (p : Int) (D : Nat) (hp : 0 ≤ p + D) (hD : 1074 ≤ D) {r : Nat} (hr : r < 9218868437227405312) (h : m * 2 ^ (p + D).toNat ≤ val r * 2 ^ (D - 1074)) : Bd (val r) (rnd (some (.number s m p))) := by
  by_cases hm : m = 0
  · subst hm; rw [rnd_zero]; exact bd_zer _
  · have h1 := rung_le s m p hm D hp hD r h
    rw [rnd_number s m p hm, show min (rung s m p) 9218868437227405312 = rung s m p by omega]
    obtain ⟨m', p', e1, a1, a2, a3, a4, a5⟩ := mk_num s (rung s m p) (by omega)
    rw [e1]
    by_cases hm' : m' = 0
    · subst hm'; exact bd_zer _
    · rw [cd_num hm']
      exact ⟨s, m', p', rfl, a1, by rw [a3]; exact val_mono h1⟩

/-- K * 2^e is a number of the format. -/
theorem rep (k e : Nat) (hk : k < 9007199254740992) (he : 52 ≤ e) (he2 : e ≤ 1900) : ∃ r, r < 9218868437227405312 ∧ val r = k * 2 ^ e := by
  by_cases h0 : k = 0
  · subst h0; exact ⟨0, by omega, by rw [Nat.zero_mul]; rfl⟩
  · have hL1 := Nat.log2_self_le h0
    have hL2 : k < 2 ^ (k.log2 + 1) := Nat.lt_log2_self
    have hL3 : k.log2 ≤ 52 := by
      rcases Nat.lt_or_ge k.log2 53 with h1 | h1
      · omega
      · exfalso
        have h2 : 2 ^ 53 ≤ 2 ^ k.log2 := Nat.pow_le_pow_right (by omega) h1
        rw [show (2 : Nat) ^ 53 = 9007199254740992 by decide] at h2
        omega
    refine ⟨(e - (52 - k.log2)) * 4503599627370496 + k * 2 ^ (52 - k.log2), ?_, ?_⟩
    · have h1 : k * 2 ^ (52 - k.log2) < 2 ^ (k.log2 + 1) * 2 ^ (52 - k.log2) := Nat.mul_lt_mul_of_pos_right hL2 (Nat.two_pow_pos _)
      rw [← pow_split, show k.log2 + 1 + (52 - k.log2) = 53 by omega, show (2 : Nat) ^ 53 = 9007199254740992 by decide] at h1
      omega
    · have h1 : k * 2 ^ (52 - k.log2) < 2 ^ (k.log2 + 1) * 2 ^ (52 - k.log2) := Nat.mul_lt_mul_of_pos_right hL2 (Nat.two_pow_pos _)
      rw [← pow_split, show k.log2 + 1 + (52 - k.log2) = 53 by omega, show (2 : Nat) ^ 53 = 9007199254740992 by decide] at h1
      have h2 : 2 ^ k.log2 * 2 ^ (52 - k.log2) ≤ k * 2 ^ (52 - k.log2) := Nat.mul_le_mul_right _ hL1
      rw [← pow_split, show k.log2 + (52 - k.log2) = 52 by omega, show (2 : Nat) ^ 52 = 4503599627370496 by decide] at h2
      rw [val_form _ _ (.inr ⟨h2, by omega⟩), Nat.mul_assoc, ← pow_split, show 52 - k.log2 + (e - (52 - k.log2)) = e by omega]

theorem natAbs_add_le (x y : Int) : (x + y).natAbs ≤ x.natAbs + y.natAbs := Int.natAbs_add_le x y

/-- A sum of bounded numbers. -/
theorem add_bd {a b : Datum} {K L : Nat} (ha : Bd K a) (hb : Bd L b) {r : Nat} (hr : r < 9218868437227405312) (hv : val r = K + L) : Bd (K + L) (addD a b) := by
  obtain ⟨s, m, i, rfl, hi, hm⟩ := ha
  obtain ⟨t, n, j, rfl, hj, hn⟩ := hb
  unfold addD
  rw [sum_num]
  unfold rz
  by_cases hz : signed s m (i - min i j).toNat + signed t n (j - min i j).toNat = 0
  · rw [if_pos hz]; exact bd_zer _
  · rw [if_neg hz, ← hv]
    refine rnd_bd _ _ _ 1074 (by omega) (by omega) hr ?_
    have h1 := natAbs_add_le (signed s m (i - min i j).toNat) (signed t n (j - min i j).toNat)
    rw [signed_abs, signed_abs] at h1
    have h2 := Nat.mul_le_mul_right (2 ^ (min i j + (1074 : Nat)).toNat) h1
    rw [Nat.add_mul, Nat.mul_assoc, Nat.mul_assoc, ← pow_split, ← pow_split, show (i - min i j).toNat + (min i j + (1074 : Nat)).toNat = (i + 1074).toNat by omega, show (j - min i j).toNat + (min i j + (1074 : Nat)).toNat = (j + 1074).toNat by omega] at h2
    rw [hv, Nat.sub_self, Nat.pow_zero, Nat.mul_one]
    omega

theorem bd_opp {d : Datum} {K : Nat} (h : Bd K d) : Bd K d.opposite := by
  obtain ⟨s, m, p, rfl, h1, h2⟩ := h
  exact ⟨!s, m, p, rfl, h1, h2⟩

theorem sub_bd {a b : Datum} {K L : Nat} (ha : Bd K a) (hb : Bd L b) {r : Nat} (hr : r < 9218868437227405312) (hv : val r = K + L) : Bd (K + L) (subD a b) :=
  add_bd ha (bd_opp hb) hr hv

/-- A product of bounded numbers. -/
theorem mul_bd {a b : Datum} {K L M : Nat} (ha : Bd K a) (hb : Bd L b) {r : Nat} (hr : r < 9218868437227405312) (hv : val r = M) {N : Nat} (hN : N = 1074) (hM : K * L ≤ M * 2 ^ N) : Bd M (mulD a b) := by
  obtain ⟨s, m, i, rfl, hi, hm⟩ := ha
  obtain ⟨t, n, j, rfl, hj, hn⟩ := hb
  show Bd M (rnd (some (.number (s ^^ t) (m * n) (i + j))))
  rw [← hv]
  refine rnd_bd _ _ _ 2148 (by omega) (by omega) hr ?_
  have h1 := Nat.mul_le_mul hm hn
  rw [show (i + j + (2148 : Nat)).toNat = (i + 1074).toNat + (j + 1074).toNat by omega, pow_split, hv]
  have h2 : m * n * (2 ^ (i + 1074).toNat * 2 ^ (j + 1074).toNat) = m * 2 ^ (i + 1074).toNat * (n * 2 ^ (j + 1074).toNat) := by
    rw [Nat.mul_assoc, Nat.mul_assoc, Nat.mul_left_comm n]
  rw [h2, show 2148 - 1074 = N by omega]
  exact Nat.le_trans h1 hM

/-- Adding a zero. -/
theorem add_zer_l (x : Nat) : addD zer (ab x) = ab x := by
  unfold addD ab
  rcases read_cases x with ⟨s, t, hx⟩ | ⟨s, r, hr, hx⟩
  · rw [hx]; rfl
  · rw [hx]
    by_cases h1 : r < 9218868437227405312
    · by_cases h0 : r = 0
      · subst h0; cases s <;> rfl
      · obtain ⟨m, p, e1, e2, hm, a1, a2, a3⟩ := cd_mk_num s h1 h0
        rw [e1]
        show rnd ((Datum.number false 0 (-1074)).sum (.number s m p)) = _
        rw [sum_num, signed_zero, show min (-1074) p = -1074 by omega]
        unfold rz
        have hz : (0 : Int) + signed s m (p - -1074).toNat ≠ 0 := by
          intro h
          have := congrArg Int.natAbs h
          rw [Int.zero_add, signed_abs] at this
          rcases Nat.mul_eq_zero.1 this with h3 | h3
          · exact hm h3
          · have := Nat.two_pow_pos (p - -1074).toNat; omega
        rw [if_neg hz, Int.zero_add, signed_abs]
        have hneg : decide (signed s m (p - -1074).toNat < 0) = s := by
          have := signed_neg_iff s m (p - -1074).toNat hm
          cases s <;> simp_all
        rw [hneg, ← e1]
        refine rnd_exact s _ _ (by have := Nat.two_pow_pos (p - -1074).toNat; exact Nat.mul_ne_zero hm (by omega)) 1074 (by omega) (by omega) h1 ?_
        rw [show (-1074 + ((1074 : Nat) : Int)).toNat = 0 by omega, show 1074 - 1074 = 0 from rfl, Nat.pow_zero, Nat.mul_one, Nat.mul_one, ← a3, show (p - -1074).toNat = (p + 1074).toNat by omega]
    · have e1 : mk s r = .infinity s := by unfold mk; rw [if_neg (by omega), if_neg h1]
      rw [e1]
      exact rnd_inf s

theorem sum_comm (a b : Datum) : rnd (a.sum b) = rnd (b.sum a) := by
  cases a with
  | nan s t => cases b <;> rfl
  | infinity s =>
    cases b with
    | nan t u => rfl
    | infinity t => cases s <;> cases t <;> rfl
    | number t n j => rfl
  | number s m i =>
    cases b with
    | nan t u => rfl
    | infinity t => rfl
    | number t n j => rw [sum_num, sum_num, Int.min_comm, Int.add_comm]

theorem add_zer_r (x : Nat) : addD (ab x) zer = ab x := by
  unfold addD
  rw [sum_comm]
  exact add_zer_l x

/-- Dividing by a number that is no less than 2^-52 of a unit's power. -/
theorem div_bd {a : Datum} {K : Nat} (ha : Bd K a) (t : Bool) (n : Nat) (j : Int) (hn : n ≠ 0) (hj : -52 ≤ j) {r : Nat} (hr : r < 9218868437227405312) (hv : val r = K * 4503599627370496) : Bd (K * 4503599627370496) (divD a (.number t n j)) := by
  obtain ⟨s, m, i, rfl, hi, hm⟩ := ha
  unfold divD Datum.quotient
  dsimp only
  rw [if_neg hn, ← hv]
  generalize hmore : 54 + n.log2 - m.log2 = more
  rw [Nat.shiftLeft_eq]
  have hmag : 2 * (m * 2 ^ more / n) + (m * 2 ^ more % n != 0).toNat ≤ 2 * (m * 2 ^ more) := by
    generalize m * 2 ^ more = d
    by_cases h1 : n = 1
    · subst h1; simp [Nat.mod_one]
    · have h2 : d / n ≤ d / 2 := Nat.div_le_div_left (by omega) (by omega)
      by_cases h3 : d = 0
      · subst h3; simp
      · have h4 : (d % n != 0).toNat ≤ 1 := Bool.toNat_le _
        omega
  generalize 2 * (m * 2 ^ more / n) + (m * 2 ^ more % n != 0).toNat = mag at *
  refine rnd_bd _ mag _ (1074 + more + 1 + j.toNat) (by omega) (by omega) hr ?_
  rw [show (i - j - (more : Int) - 1 + ((1074 + more + 1 + j.toNat : Nat) : Int)).toNat = (i + 1074).toNat + (j.toNat - j).toNat by omega, pow_split, hv]
  have h1 := Nat.mul_le_mul_right (2 ^ (i + 1074).toNat * 2 ^ (j.toNat - j).toNat) hmag
  refine Nat.le_trans h1 ?_
  have h2 : 2 * (m * 2 ^ more) * (2 ^ (i + 1074).toNat * 2 ^ (j.toNat - j).toNat) = m * 2 ^ (i + 1074).toNat * (2 ^ 1 * 2 ^ more * 2 ^ (j.toNat - j).toNat) := by
    rw [Nat.pow_one, Nat.mul_comm 2 (m * 2 ^ more), Nat.mul_assoc m, Nat.mul_assoc m, Nat.mul_assoc m]
    congr 1
    simp only [Nat.mul_assoc, Nat.mul_left_comm]
  rw [h2, ← pow_split, ← pow_split]
  have h3 : K * 4503599627370496 * 2 ^ (1074 + more + 1 + j.toNat - 1074) = K * (4503599627370496 * 2 ^ (1074 + more + 1 + j.toNat - 1074)) := Nat.mul_assoc _ _ _
  rw [h3]
  refine Nat.mul_le_mul hm ?_
  have h4 : 2 ^ (1 + more + (j.toNat - j).toNat) ≤ 2 ^ 52 * 2 ^ (1074 + more + 1 + j.toNat - 1074) := by
    rw [← pow_split]
    exact Nat.pow_le_pow_right (by omega) (by omega)
  rw [show (2 : Nat) ^ 52 = 4503599627370496 by decide] at h4
  exact h4

/-- A whole number as a float. -/
theorem fl_num (k : Nat) (h1 : 1 ≤ k) (h2 : k ≤ 65536) : ∃ (m : Nat) (p : Int), double.read (double.nearest false k 0) = .number false m p ∧ m ≠ 0 ∧ -52 ≤ p ∧ ∀ N, N = 1074 → m * 2 ^ (p + 1074).toNat = k * 2 ^ N := by
  obtain ⟨N, hN⟩ : ∃ N : Nat, N = 1074 := ⟨_, rfl⟩
  obtain ⟨r, hr, hv⟩ := rep k N (by omega) (by omega) (by omega)
  have hk : k ≠ 0 := by omega
  have hsc : k * 2 ^ (0 + (N : Int)).toNat = val r * 2 ^ (N - 1074) := by
    rw [show (0 + (N : Int)).toNat = N by omega, show N - 1074 = 0 by omega, Nat.pow_zero, Nat.mul_one, hv]
  have e1 : double.read (double.nearest false k 0) = mk false r := by
    have a1 := rung_le false k 0 hk N (by omega) (by omega) r (Nat.le_of_eq hsc)
    have a2 := rung_ge false k 0 hk N (by omega) (by omega) r (Nat.le_of_eq hsc.symm)
    rw [nearest_eq false k 0 hk, show min (rung false k 0) 9218868437227405312 = r by omega, read_word false r (by omega)]
  obtain ⟨m, p, e2, b1, b2, b3, b4, b5⟩ := mk_num false r hr
  have hm : m ≠ 0 := by
    intro e
    rw [(b4 e).1] at hv
    have h3 : 0 < k * 2 ^ N := Nat.mul_pos (by omega) (Nat.two_pow_pos _)
    rw [← hv] at h3
    exact absurd h3 (by decide)
  refine ⟨m, p, by rw [e1, e2], hm, ?_, fun N' hN' => by rw [hN', ← hN, b3, hv]⟩
  rcases Int.lt_or_le p (-52) with h3 | h3
  · exfalso
    have h4 : m * 2 ^ (p + 1074).toNat < 9007199254740992 * 2 ^ (p + 1074).toNat := Nat.mul_lt_mul_of_pos_right b2 (Nat.two_pow_pos _)
    have h5 : 2 ^ 53 * 2 ^ (p + 1074).toNat ≤ 2 ^ N := by
      rw [← pow_split]
      exact Nat.pow_le_pow_right (by omega) (by omega)
    rw [show (2 : Nat) ^ 53 = 9007199254740992 by decide] at h5
    have h6 : 1 * 2 ^ N ≤ k * 2 ^ N := Nat.mul_le_mul_right _ h1
    rw [b3, hv] at h4
    rw [Nat.one_mul] at h6
    exact absurd (Nat.lt_of_lt_of_le h4 (Nat.le_trans h5 h6)) (Nat.lt_irrefl _)
  · exact h3

/-- The sign bit turned. -/
theorem read_flip (b : Nat) : double.read (b ^^^ 2 ^ 63) = (double.read b).opposite := by
  have e1 : (b ^^^ 2 ^ 63) % 9223372036854775808 = b % 9223372036854775808 := by
    have h := Nat.xor_mod_two_pow (a := b) (b := 2 ^ 63) (n := 63)
    rw [Nat.mod_self, Nat.xor_zero] at h
    exact h
  have e2 : (b ^^^ 2 ^ 63) / 9223372036854775808 % 2 = (b / 9223372036854775808 + 1) % 2 := by
    have h := Nat.xor_div_two_pow (a := b) (b := 2 ^ 63) (n := 63)
    rw [Nat.div_self (Nat.two_pow_pos 63)] at h
    have h' : (b ^^^ 2 ^ 63) / 9223372036854775808 = b / 9223372036854775808 ^^^ 1 := h
    rw [h']
    have h2 := Nat.xor_mod_two_pow (a := b / 9223372036854775808) (b := 1) (n := 1)
    rw [Nat.pow_one] at h2
    rw [h2]
    rcases Nat.mod_two_eq_zero_or_one (b / 9223372036854775808) with h3 | h3
    · rw [h3]
      have : (b / 9223372036854775808 + 1) % 2 = 1 := by omega
      rw [this]; rfl
    · rw [h3]
      have : (b / 9223372036854775808 + 1) % 2 = 0 := by omega
      rw [this]; rfl
  have e3 : ((b ^^^ 2 ^ 63) / 9223372036854775808 % 2 == 1) = !(b / 9223372036854775808 % 2 == 1) := by
    rw [e2]
    rcases Nat.mod_two_eq_zero_or_one (b / 9223372036854775808) with h3 | h3
    · have : (b / 9223372036854775808 + 1) % 2 = 1 := by omega
      rw [this, h3]; rfl
    · have : (b / 9223372036854775808 + 1) % 2 = 0 := by omega
      rw [this, h3]; rfl
  rw [read_def, read_def, e1, e3]
  generalize b % 9223372036854775808 = r
  generalize (b / 9223372036854775808 % 2 == 1) = s
  by_cases h1 : r < 4503599627370496
  · rw [if_pos h1, if_pos h1]; rfl
  · by_cases h2 : r < 9218868437227405312
    · rw [if_neg h1, if_neg h1, if_pos h2, if_pos h2]; rfl
    · by_cases h3 : r = 9218868437227405312
      · rw [if_neg h1, if_neg h1, if_neg h2, if_neg h2, if_pos h3, if_pos h3]; rfl
      · rw [if_neg h1, if_neg h1, if_neg h2, if_neg h2, if_neg h3, if_neg h3]; rfl

theorem ab_flip (b : Nat) : ab (b ^^^ 2 ^ 63) = ng (ab b) := by
  unfold ab
  rw [read_flip, ng_cd]
end Go.Proofs.Qxb6627656a.Fl
