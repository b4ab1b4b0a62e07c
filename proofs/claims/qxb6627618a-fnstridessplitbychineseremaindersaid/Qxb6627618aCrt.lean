/-
  Plain facts for the second law: the two remainders of a stride, and that they tell it.
-/
import Derived.Test.Qxb6627618aUnits
namespace Go.Proofs.Qxb6627618a
open Stl

/-- The remainder of x by a, 0 read as a. -/
def rd (x a : Nat) : Nat := if x % a = 0 then a else x % a

theorem rd_mem {x a n : Nat} (ha : 1 ≤ a) (hd : a ∣ n) (hx : Nat.gcd x n = 1) : rd x a ∈ strides a := by
  have hg : Nat.gcd x a = 1 := by
    have h1 : Nat.gcd x a ∣ Nat.gcd x n := Nat.dvd_gcd (Nat.gcd_dvd_left x a) (Nat.dvd_trans (Nat.gcd_dvd_right x a) hd)
    rw [hx] at h1
    exact Nat.dvd_one.1 h1
  have hlt := Nat.mod_lt x (show 0 < a by omega)
  rw [strides_mem]
  unfold rd
  have e : Nat.gcd (x % a) a = Nat.gcd x a := by rw [Nat.gcd_comm x a, Nat.gcd_rec a x]
  by_cases h0 : x % a = 0
  · rw [if_pos h0]
    rw [h0, Nat.gcd_zero_left, hg] at e
    exact ⟨ha, Nat.le_refl _, by rw [Nat.gcd_self]; exact e⟩
  · rw [if_neg h0]
    exact ⟨by omega, by omega, by rw [e]; exact hg⟩

theorem rd_inj {x y a : Nat} (ha : 1 ≤ a) (h : rd x a = rd y a) : x % a = y % a := by
  have h1 := Nat.mod_lt x (show 0 < a by omega)
  have h2 := Nat.mod_lt y (show 0 < a by omega)
  unfold rd at h
  split at h <;> split at h <;> omega

theorem crt_inj {x y a b : Nat} (ha : 1 ≤ a) (hb : 1 ≤ b) (hg : Nat.gcd a b = 1) (hx : 1 ≤ x) (hx' : x ≤ a * b) (hy : 1 ≤ y) (hy' : y ≤ a * b) (h1 : rd x a = rd y a) (h2 : rd x b = rd y b) : x = y := by
  have e1 := rd_inj ha h1
  have e2 := rd_inj hb h2
  have aux : ∀ u v : Nat, 1 ≤ u → u ≤ v → v ≤ a * b → u % a = v % a → u % b = v % b → u = v := by
    intro u v hu huv hv f1 f2
    have d1 : a ∣ v - u := Nat.dvd_of_mod_eq_zero (Nat.sub_mod_eq_zero_of_mod_eq f1.symm)
    have d2 : b ∣ v - u := Nat.dvd_of_mod_eq_zero (Nat.sub_mod_eq_zero_of_mod_eq f2.symm)
    have d3 : a * b ∣ v - u := Nat.Coprime.mul_dvd_of_dvd_of_dvd hg d1 d2
    rcases Nat.eq_zero_or_pos (v - u) with h0 | h0
    · omega
    · have := Nat.le_of_dvd h0 d3
      omega
  rcases Nat.le_total x y with h | h
  · exact aux x y hx h hy' e1 e2
  · exact (aux y x hy h hx' e1.symm e2.symm).symm

theorem key_inj {i j i' j' n : Nat} (hj : j < n) (hj' : j' < n) (h : i * n + j = i' * n + j') : i = i' ∧ j = j' := by
  have e1 : (i * n + j) / n = i := by rw [Nat.mul_comm, Nat.mul_add_div (by omega), Nat.div_eq_of_lt hj, Nat.add_zero]
  have e2 : (i' * n + j') / n = i' := by rw [Nat.mul_comm, Nat.mul_add_div (by omega), Nat.div_eq_of_lt hj', Nat.add_zero]
  have : i = i' := by rw [← e1, ← e2, h]
  subst this
  exact ⟨rfl, by omega⟩

theorem key_lt {i j m n : Nat} (hi : i < m) (hj : j < n) : i * n + j < m * n := by
  have : (i + 1) * n ≤ m * n := Nat.mul_le_mul_right n hi
  rw [Nat.succ_mul] at this
  omega

theorem mem_getD {l : List Nat} {x : Nat} (h : x ∈ l) : ∃ i, i < l.length ∧ l.getD i 0 = x := by
  obtain ⟨i, hi, rfl⟩ := List.getElem_of_mem h
  exact ⟨i, hi, by simp [hi]⟩

/-- x's place among the pairs. -/
def Key (A B x key : Nat) : Prop := ∃ i j, i < (strides A).length ∧ j < (strides B).length ∧ (strides A).getD i 0 = rd x A ∧ (strides B).getD j 0 = rd x B ∧ key = i * (strides B).length + j

theorem key_ex {A B x : Nat} (hA : 1 ≤ A) (hB : 1 ≤ B) (hx : x ∈ strides (A * B)) : ∃ i j, i < (strides A).length ∧ j < (strides B).length ∧ (strides A).getD i 0 = rd x A ∧ (strides B).getD j 0 = rd x B := by
  have hg := (strides_mem.1 hx).2.2
  obtain ⟨i, hi, hi'⟩ := mem_getD (rd_mem hA (Nat.dvd_mul_right A B) hg)
  obtain ⟨j, hj, hj'⟩ := mem_getD (rd_mem hB (Nat.dvd_mul_left B A) hg)
  exact ⟨i, j, hi, hj, hi', hj'⟩

theorem key_tells {A B x y key : Nat} (hA : 1 ≤ A) (hB : 1 ≤ B) (hg : Nat.gcd A B = 1) (hx : x ∈ strides (A * B)) (hy : y ∈ strides (A * B)) (h1 : Key A B x key) (h2 : Key A B y key) : x = y := by
  obtain ⟨i, j, hi, hj, ei, ej, e⟩ := h1
  obtain ⟨i', j', hi', hj', ei', ej', e'⟩ := h2
  obtain ⟨rfl, rfl⟩ := key_inj hj hj' (e.symm.trans e')
  have hx := strides_mem.1 hx
  have hy := strides_mem.1 hy
  exact crt_inj hA hB hg hx.1 hx.2.1 hy.1 hy.2.1 (ei.symm.trans ei') (ej.symm.trans ej')

theorem has_one (N : Nat) (hN : 1 ≤ N) : hasB (strides N) 1 = true :=
  (hasB_iff (strides N) 1).2 (strides_mem.2 ⟨Nat.le_refl _, hN, Nat.gcd_one_left N⟩)
theorem has_last (N : Nat) (hN : 2 ≤ N) : hasB (strides N) ((N : Int) - 1) = true := by
  have h : hasB (strides N) ((N - 1 : Nat) : Int) = true := by
    refine (hasB_iff (strides N) (N - 1)).2 (strides_mem.2 ⟨by omega, by omega, ?_⟩)
    have h1 : Nat.gcd (N - 1) N ∣ N - (N - 1) := Nat.dvd_sub (Nat.gcd_dvd_right _ _) (Nat.gcd_dvd_left _ _)
    have e : N - (N - 1) = 1 := by omega
    rw [e] at h1
    exact Nat.dvd_one.1 h1
  rwa [Int.natCast_sub (by omega)] at h
end Go.Proofs.Qxb6627618a
