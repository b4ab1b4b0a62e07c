/-
  Plain facts for the law of the gain 0: the held terms stay bounded, so that the integral's part of the output is a zero.
-/
import Derived.Test.Qxb6627656aMir
namespace Go.Proofs.Qxb6627656a
open Fl Ieee
set_option linter.unusedVariables false

def EU : Nat := 1740
theorem EU_eq : EU = 1740 := rfl
/-- The unit of the bounds: 2^666. -/
def U : Nat := 2 ^ EU
def H : Nat := 4503599627370496
theorem H_eq : H = 4503599627370496 := rfl

theorem repU (c : Nat) (hc : c < 9007199254740992) : ∃ r, r < 9218868437227405312 ∧ val r = c * U :=
  rep c EU hc (by rw [EU_eq]; omega) (by rw [EU_eq]; omega)
theorem repUH (c : Nat) (hc : c < 9007199254740992) : ∃ r, r < 9218868437227405312 ∧ val r = c * U * H := by
  obtain ⟨r, hr, hv⟩ := rep c (EU + 52) hc (by rw [EU_eq]; omega) (by rw [EU_eq]; omega)
  refine ⟨r, hr, ?_⟩
  have h52 : (2 : Nat) ^ 52 = H := by decide
  show val r = c * 2 ^ EU * H
  rw [hv, pow_split, ← Nat.mul_assoc, h52]

theorem big_read : double.read 6103021453049119613 = .number false 5147557589468029 280 := by decide +kernel
theorem small_read : double.read 15326393489903895421 = .number true 5147557589468029 280 := by decide +kernel

theorem signed_le_abs (s : Bool) (m u n v : Nat) (h1 : signed s m u ≤ signed false n v) (h2 : signed true n v ≤ signed s m u) : m * 2 ^ u ≤ n * 2 ^ v := by
  unfold signed at h1 h2
  rw [Nat.shiftLeft_eq, Nat.shiftLeft_eq] at h1 h2
  cases s
  · simp only [Bool.false_eq_true, if_false] at h1; exact Int.ofNat_le.1 h1
  · simp only [if_true, Bool.false_eq_true, if_false] at h1 h2
    exact Int.ofNat_le.1 (Int.neg_le_neg_iff.1 h2)

/-- At most 1e100 in size. -/
theorem bd_range (x : Nat) (h1 : (FloatKind.f64.format.order x 15326393489903895421 == some Ordering.gt || FloatKind.f64.format.order x 15326393489903895421 == some Ordering.eq) = true)
    (h2 : (FloatKind.f64.format.order x 6103021453049119613 == some Ordering.lt || FloatKind.f64.format.order x 6103021453049119613 == some Ordering.eq) = true) : ∀ E, E = 1407 → Bd (2 ^ E) (ab x) := by
  intro E hE
  rw [order_ab] at h1 h2
  have e1 : ab 15326393489903895421 = .number true 5147557589468029 280 := by unfold ab; rw [small_read]; rfl
  have e2 : ab 6103021453049119613 = .number false 5147557589468029 280 := by unfold ab; rw [big_read]; rfl
  rw [e1] at h1
  rw [e2] at h2
  rcases ab_form x with e | ⟨s, e⟩ | ⟨s, m, p, e, hp⟩
  · rw [e, order_nn_l] at h1; cases h1
  · rw [e] at h1 h2
    cases s
    · cases h2
    · cases h1
  · rw [e] at h1 h2 ⊢
    rw [order_units _ _ _ _ _ _ hp (by omega)] at h1 h2
    refine ⟨s, m, p, rfl, hp, ?_⟩
    have c1 : signed true 5147557589468029 (280 + 1074 : Int).toNat ≤ signed s m (p + 1074).toNat := by
      cases hc : compare (signed s m (p + 1074).toNat) (signed true 5147557589468029 (280 + 1074 : Int).toNat) with
      | lt => rw [hc] at h1; cases h1
      | gt => have := compare_gt hc; omega
      | eq => have := compare_eq hc; omega
    have c2 : signed s m (p + 1074).toNat ≤ signed false 5147557589468029 (280 + 1074 : Int).toNat := by
      cases hc : compare (signed s m (p + 1074).toNat) (signed false 5147557589468029 (280 + 1074 : Int).toNat) with
      | lt => have := compare_lt hc; omega
      | gt => rw [hc] at h2; cases h2
      | eq => have := compare_eq hc; omega
    refine Nat.le_trans (signed_le_abs s m _ _ _ c2 c1) ?_
    have h3 : 5147557589468029 * 2 ^ (280 + 1074 : Int).toNat ≤ 2 ^ 53 * 2 ^ (280 + 1074 : Int).toNat := Nat.mul_le_mul_right _ (by decide)
    refine Nat.le_trans h3 ?_
    rw [← pow_split]
    exact Nat.pow_le_pow_right (by omega) (by omega)

/-- The term. -/
theorem term_bd {e t : Datum} (he : ∀ E, E = 1407 → Bd (2 ^ E) e) (ht : ∀ E, E = 1407 → Bd (2 ^ E) t) : Bd (1 * U) (mulD e t) := by
  obtain ⟨r, hr, hv⟩ := repU 1 (by omega)
  obtain ⟨E, hE⟩ : ∃ E : Nat, E = 1407 := ⟨_, rfl⟩
  obtain ⟨N, hN⟩ : ∃ N : Nat, N = 1074 := ⟨_, rfl⟩
  refine mul_bd (he E hE) (ht E hE) hr hv hN ?_
  unfold U
  rw [← pow_split, Nat.one_mul, ← pow_split]
  exact Nat.pow_le_pow_right (by omega) (by have := EU_eq; omega)

/-- The float of a whole number. -/
theorem floatOfInt_nat (k : Nat) : floatOfInt .f64 (k : Int) = double.nearest false k 0 := by
  show double.nearest (decide ((k : Int) < 0)) (k : Int).natAbs 0 = _
  rw [decide_eq_false (by omega), Int.natAbs_natCast]

theorem fl_bd (k : Nat) (h1 : 1 ≤ k) (h2 : k ≤ 65536) : ∀ N, N = 1074 → Bd (65536 * 2 ^ N) (ab (floatOfInt .f64 (k : Int))) := by
  intro N hN
  obtain ⟨m, p, e, hm, hp, hv⟩ := fl_num k h1 h2
  unfold ab
  rw [floatOfInt_nat, e, cd_num hm]
  exact ⟨false, m, p, rfl, by omega, by rw [hv N hN]; exact Nat.mul_le_mul_right _ h2⟩

theorem div_fl_bd {d : Datum} {c : Nat} (hd : Bd (c * U) d) (hc : c < 9007199254740992) (n : Nat) (h1 : 1 ≤ n) (h2 : n ≤ 65536) : Bd (c * U * H) (divD d (double.read (floatOfInt .f64 (n : Int)))) := by
  obtain ⟨m, p, e, hm, hp, hv⟩ := fl_num n h1 h2
  obtain ⟨r, hr, hv2⟩ := repUH c hc
  rw [floatOfInt_nat, e]
  exact div_bd hd false m p hm hp hr hv2

theorem addU {a b : Datum} {c d : Nat} (ha : Bd (c * U) a) (hb : Bd (d * U) b) (h : c + d < 9007199254740992) : Bd ((c + d) * U) (addD a b) := by
  obtain ⟨r, hr, hv⟩ := repU (c + d) h
  rw [Nat.add_mul] at hv ⊢
  exact add_bd ha hb hr hv
theorem subU {a b : Datum} {c d : Nat} (ha : Bd (c * U) a) (hb : Bd (d * U) b) (h : c + d < 9007199254740992) : Bd ((c + d) * U) (subD a b) := by
  obtain ⟨r, hr, hv⟩ := repU (c + d) h
  rw [Nat.add_mul] at hv ⊢
  exact sub_bd ha hb hr hv
theorem addUH {a b : Datum} {c d : Nat} (ha : Bd (c * U * H) a) (hb : Bd (d * U * H) b) (h : c + d < 9007199254740992) : Bd ((c + d) * U * H) (addD a b) := by
  obtain ⟨r, hr, hv⟩ := repUH (c + d) h
  rw [Nat.add_mul, Nat.add_mul] at hv ⊢
  exact add_bd ha hb hr hv
theorem subUH {a b : Datum} {c d : Nat} (ha : Bd (c * U * H) a) (hb : Bd (d * U * H) b) (h : c + d < 9007199254740992) : Bd ((c + d) * U * H) (subD a b) := by
  obtain ⟨r, hr, hv⟩ := repUH (c + d) h
  rw [Nat.add_mul, Nat.add_mul] at hv ⊢
  exact sub_bd ha hb hr hv
theorem toUH {a : Datum} {c : Nat} (ha : Bd (c * U) a) : Bd (c * U * H) a :=
  ha.mono (by have h := Nat.mul_le_mul_left (c * U) (show 1 ≤ H by decide); omega)
theorem upUH {a : Datum} {c d : Nat} (ha : Bd (c * U * H) a) (h : c ≤ d) : Bd (d * U * H) a :=
  ha.mono (Nat.mul_le_mul_right _ (Nat.mul_le_mul_right _ h))
theorem upU {a : Datum} {c d : Nat} (ha : Bd (c * U) a) (h : c ≤ d) : Bd (d * U) a :=
  ha.mono (Nat.mul_le_mul_right _ h)

/-- The sums afresh. -/
theorem rs_bd (n k : Nat) (TA : Nat → Datum) (hn : n ≤ 65536) (hT : ∀ j, j < n → Bd (1 * U) (TA j)) : ∀ a, a ≤ n → Bd (a * U) (rsD n k TA a) := by
  intro a
  induction a with
  | zero => intro _; exact bd_zer _
  | succ a ih =>
    intro ha
    exact addU (ih (by omega)) (hT _ (Nat.mod_lt _ (by omega))) (by omega)
theorem rw_bd (n k : Nat) (TA : Nat → Datum) (hn : n ≤ 65536) (hT : ∀ j, j < n → Bd (1 * U) (TA j)) : ∀ a, a ≤ n → Bd (a * 65536 * U * H) (rwD n k TA a) := by
  intro a
  induction a with
  | zero => intro _; exact bd_zer _
  | succ a ih =>
    intro ha
    have hm : Bd (65536 * U) (mulD (TA ((k + n - 1 - a) % n)) (ab (floatOfInt .f64 ((n : Int) - (a : Int))))) := by
      obtain ⟨r, hr, hv⟩ := repU 65536 (by omega)
      obtain ⟨N, hN⟩ : ∃ N : Nat, N = 1074 := ⟨_, rfl⟩
      have e : (n : Int) - (a : Int) = ((n - a : Nat) : Int) := by omega
      rw [e]
      refine mul_bd (hT _ (Nat.mod_lt _ (by omega))) (fl_bd (n - a) (by omega) (by omega) N hN) hr hv hN ?_
      rw [Nat.one_mul, Nat.mul_left_comm, Nat.mul_assoc]
      exact Nat.le_refl _
    have hd := div_fl_bd hm (by omega) n (by omega) hn
    have := addUH (ih (by omega)) hd (by omega)
    rw [Nat.succ_mul]
    exact this

/-- A finite number has a form. -/
theorem bd_form {K : Nat} {d : Datum} (h : Bd K d) : ∃ s m p, d = .number s m p := by
  obtain ⟨s, m, p, e, _⟩ := h; exact ⟨s, m, p, e⟩

theorem mul_zer_fin {K : Nat} {d : Datum} (h : Bd K d) : mulD zer d = zer := by
  obtain ⟨s, m, p, rfl⟩ := bd_form h
  show rnd (some (.number (false ^^ s) (0 * m) (-1074 + p))) = zer
  rw [Nat.zero_mul, rnd_zero]

/-- What is divided by the gain 0 in the cut: the bound less what passes it: below nought. -/
theorem sub_neg {hi p : Nat} (h : (ab p).order (ab hi) = some .gt) : subD (ab hi) (ab p) = .infinity true ∨ ∃ m q, m ≠ 0 ∧ subD (ab hi) (ab p) = .number true m q := by
  unfold subD
  rcases ab_form p with e | ⟨s, e⟩ | ⟨s, m, i, e, hi1⟩
  · rw [e, order_nn_l] at h; cases h
  · rw [e] at h ⊢
    rcases ab_form hi with eh | ⟨sh, eh⟩ | ⟨sh, mh, ph, eh, hph⟩
    · rw [eh, order_nn_r] at h; cases h
    · rw [eh] at h ⊢
      cases s <;> cases sh <;> first | (cases h; done) | skip
      left
      exact rnd_inf true
    · rw [eh] at h ⊢
      cases s
      · left; exact rnd_inf true
      · cases h
  · rw [e] at h ⊢
    rcases ab_form hi with eh | ⟨sh, eh⟩ | ⟨sh, n, j, eh, hj1⟩
    · rw [eh, order_nn_r] at h; cases h
    · rw [eh] at h ⊢
      cases sh
      · cases h
      · left; exact rnd_inf true
    · rw [eh] at h ⊢
      rw [order_num] at h
      have hlt := compare_gt (Option.some.inj h)
      obtain ⟨z, hzd⟩ : ∃ z : Int, z = signed sh n (j - min i j).toNat + -signed s m (i - min i j).toNat := ⟨_, rfl⟩
      have hz : z < 0 := by omega
      have hkey : rnd ((Datum.number sh n j).sum (Datum.number s m i).opposite) = cd (mk true (min (rung true z.natAbs (min i j)) 9218868437227405312)) := by
        show rnd ((Datum.number sh n j).sum (.number (!s) m i)) = _
        rw [sum_num, signed_not, Int.min_comm j i, ← hzd]
        unfold rz
        rw [if_neg (by omega), decide_eq_true hz, rnd_number _ _ _ (by omega)]
      rw [hkey]
      have hge := rung_ge true z.natAbs (min i j) (by omega) 1074 (by omega) (by omega) 1 (by
        have h1 : 1 * 1 ≤ z.natAbs * 2 ^ (min i j + (1074 : Nat)).toNat := Nat.mul_le_mul (by omega) (Nat.two_pow_pos _)
        have h2 : val 1 * 2 ^ (1074 - 1074) = 1 := by decide
        omega)
      by_cases hinf : rung true z.natAbs (min i j) < 9218868437227405312
      · rw [show min (rung true z.natAbs (min i j)) 9218868437227405312 = rung true z.natAbs (min i j) by omega]
        obtain ⟨m', p', e1, e2, hm', _⟩ := cd_mk_num true hinf (by omega)
        exact .inr ⟨m', p', hm', e1⟩
      · left
        rw [show min (rung true z.natAbs (min i j)) 9218868437227405312 = 9218868437227405312 by omega]
        decide

theorem sub_pos {lo p : Nat} (h : (ab p).order (ab lo) = some .lt) : subD (ab lo) (ab p) = .infinity false ∨ ∃ m q, m ≠ 0 ∧ subD (ab lo) (ab p) = .number false m q := by
  have h1 : (ab (p ^^^ 2 ^ 63)).order (ab (lo ^^^ 2 ^ 63)) = some .gt := by
    rw [ab_flip, ab_flip, order_ng (ok_ab p) (ok_ab lo)]
    exact swap_lt h
  have h2 := sub_neg h1
  rw [ab_flip, ab_flip, sub_ng (ok_ab lo) (ok_ab p)] at h2
  have h3 : subD (ab lo) (ab p) = ng (ng (subD (ab lo) (ab p))) := by
    unfold subD
    generalize hd : (ab lo).sum (ab p).opposite = o
    have : ng (rnd o) = ng (cd (rnd o)) := by rw [cd_rnd]
    rw [← cd_rnd o, ng_cd]
    show _ = cd (cd (rnd o).opposite).opposite
    have h4 := ng_cd (rnd o).opposite
    unfold ng at h4
    rw [h4, opp_opp]
  rcases h2 with h2 | ⟨m, q, hm, h2⟩
  · left; rw [h3, h2]; rfl
  · right
    refine ⟨m, q, hm, ?_⟩
    rw [h3, h2]
    show cd (.number false m q) = _
    rw [cd_num hm]

/-- The cut term is 0. -/
theorem cut_hi {hi p : Nat} {K : Nat} {rest : Datum} (hr : Bd K rest) (h : (ab p).order (ab hi) = some .gt) : maxD zer (subD (divD (subD (ab hi) (ab p)) zer) rest) = zer := by
  have e1 : divD (subD (ab hi) (ab p)) zer = .infinity true := by
    rcases sub_neg h with e | ⟨m, q, hm, e⟩
    · rw [e]; exact rnd_inf true
    · rw [e]
      unfold divD Datum.quotient zer
      dsimp only
      rw [if_pos rfl, if_neg hm]
      exact rnd_inf true
  obtain ⟨s, m, q, rfl⟩ := bd_form hr
  have e2 : subD (.infinity true) (.number s m q) = .infinity true := rnd_inf true
  rw [e1, e2]
  rfl
theorem cut_lo {lo p : Nat} {K : Nat} {rest : Datum} (hr : Bd K rest) (h : (ab p).order (ab lo) = some .lt) : minD zer (subD (divD (subD (ab lo) (ab p)) zer) rest) = zer := by
  have e1 : divD (subD (ab lo) (ab p)) zer = .infinity false := by
    rcases sub_pos h with e | ⟨m, q, hm, e⟩
    · rw [e]; exact rnd_inf false
    · rw [e]
      unfold divD Datum.quotient zer
      dsimp only
      rw [if_pos rfl, if_neg hm]
      exact rnd_inf false
  obtain ⟨s, m, q, rfl⟩ := bd_form hr
  have e2 : subD (.infinity false) (.number s m q) = .infinity false := rnd_inf false
  rw [e1, e2]
  rfl

/-- What holds of a controller of gain 0 after q steps. -/
structure Inv (n q : Nat) (s wt : Nat) (T : Nat → Nat) : Prop where
  t : ∀ j, j < n → Bd (1 * U) (ab (T j))
  s : Bd ((65536 + 2 * q) * U) (ab s)
  w : Bd ((4294967296 + q * 200000) * U * H) (ab wt)

theorem inv_start (n : Nat) : Inv n 0 0 0 (fun _ => 0) :=
  ⟨fun j _ => by rw [ab0]; exact bd_zer _, by rw [ab0]; exact bd_zer _, by rw [ab0]; exact bd_zer _⟩

theorem inv_rest {n q s wt rest : Nat} {T : Nat → Nat} (h : Inv n q s wt T) (hn1 : 1 ≤ n) (hn : n ≤ 65536) (hq : q < 65536) (hr : ab rest = restD (ab s) (ab wt) (double.read (floatOfInt .f64 (n : Int)))) : Bd ((4294967296 + q * 200000 + 196608) * U * H) (ab rest) := by
  rw [hr]
  unfold restD
  have h1 := div_fl_bd (upU h.s (show 65536 + 2 * q ≤ 196608 by omega)) (by omega) n hn1 hn
  exact subUH h.w h1 (by omega)

theorem step_out {n q s wt rest x0 pe out : Nat} {T : Nat → Nat} (h : Inv n q s wt T) (hn1 : 1 ≤ n) (hn : n ≤ 65536) (hq : q < 65536) (hr : ab rest = restD (ab s) (ab wt) (double.read (floatOfInt .f64 (n : Int)))) (hx : Bd (1 * U) (ab x0))
    (ho : ab out = addD (ab pe) (mulD (ab 0) (addD (ab rest) (ab x0)))) : ab out = ab pe := by
  have h1 := inv_rest h hn1 hn hq hr
  have h2 := addUH h1 (toUH hx) (by omega)
  rw [ho, ab0, mul_zer_fin h2, add_zer_r]

theorem step_term {n q s wt rest x0 pe out lo hi x : Nat} {T : Nat → Nat} (h : Inv n q s wt T) (hn1 : 1 ≤ n) (hn : n ≤ 65536) (hq : q < 65536) (hr : ab rest = restD (ab s) (ab wt) (double.read (floatOfInt .f64 (n : Int)))) (hx0 : Bd (1 * U) (ab x0))
    (ho : ab out = ab pe) (hx : ab x = termB (ab out) (ab x0) (ab pe) (ab rest) (ab lo) (ab hi) (double.read 0)) : Bd (1 * U) (ab x) := by
  have h1 := inv_rest h hn1 hn hq hr
  have e0 : double.read 0 = zer := by decide
  rw [hx, ho, e0]
  unfold termB
  by_cases c1 : ((ab pe).order (ab hi) == some .gt && (ab x0).order zer == some .gt) = true
  · rw [if_pos c1]
    have c2 : (ab pe).order (ab hi) = some .gt := by
      rw [Bool.and_eq_true] at c1; exact eq_of_beq c1.1
    rw [cut_hi h1 c2]
    exact bd_zer _
  · rw [if_neg c1]
    by_cases c3 : ((ab pe).order (ab lo) == some .lt && (ab x0).order zer == some .lt) = true
    · rw [if_pos c3]
      have c4 : (ab pe).order (ab lo) = some .lt := by
        rw [Bool.and_eq_true] at c3; exact eq_of_beq c3.1
      rw [cut_lo h1 c4]
      exact bd_zer _
    · rw [if_neg c3]; exact hx0

theorem inv_T {n k x : Nat} {T : Nat → Nat} (h : ∀ j, j < n → Bd (1 * U) (ab (T j))) (hx : Bd (1 * U) (ab x)) : ∀ j, j < n → Bd (1 * U) (ab (if j = k then x else T j)) := by
  intro j hj
  by_cases e : j = k
  · rw [if_pos e]; exact hx
  · rw [if_neg e]; exact h j hj

theorem inv_step {n q s wt rest x s' wt' k : Nat} {T : Nat → Nat} (h : Inv n q s wt T) (hn1 : 1 ≤ n) (hn : n ≤ 65536) (hq : q < 65536) (hk : k < n) (hr : ab rest = restD (ab s) (ab wt) (double.read (floatOfInt .f64 (n : Int)))) (hx : Bd (1 * U) (ab x))
    (hs : ab s' = addD (ab s) (subD (ab x) (ab (T k)))) (hw : ab wt' = addD (ab rest) (ab x)) : Inv n (q + 1) s' wt' (fun j => if j = k then x else T j) := by
  refine ⟨inv_T h.t hx, ?_, ?_⟩
  · rw [hs]
    have h1 := subU hx (h.t k hk) (by omega)
    have h2 := addU h.s h1 (by omega)
    exact upU h2 (by omega)
  · rw [hw]
    have h1 := addUH (inv_rest h hn1 hn hq hr) (toUH hx) (by omega)
    exact upUH h1 (by omega)

theorem inv_resum {n q s wt x s' wt' k k' : Nat} {T : Nat → Nat} (h : Inv n q s wt T) (hn1 : 1 ≤ n) (hn : n ≤ 65536) (hx : Bd (1 * U) (ab x))
    (hs : ab s' = rsD n k' (fun j => ab (if j = k then x else T j)) n) (hw : ab wt' = rwD n k' (fun j => ab (if j = k then x else T j)) n) : Inv n (q + 1) s' wt' (fun j => if j = k then x else T j) := by
  have hT := inv_T (k := k) h.t hx
  refine ⟨hT, ?_, ?_⟩
  · rw [hs]
    exact upU (rs_bd n k' _ hn hT n (Nat.le_refl _)) (by omega)
  · rw [hw]
    exact upUH (rw_bd n k' _ hn hT n (Nat.le_refl _)) (by omega)
end Go.Proofs.Qxb6627656a
