/-
  Plain facts for the first law: Euler's product step by step; a stride of n is one by Euclid's step.
-/
import Derived.Test.Qxb6627618aOrder
import Derived.Test.Qxb6627618aTrial
namespace Go.Proofs.Qxb6627618a
open Stl

theorem eul_take_succ (n : Nat) (ps : List Nat) (k : Nat) (hk : k < ps.length) : eul n (ps.take (k + 1)) = eul n (ps.take k) / ps.getD k 0 * (ps.getD k 0 - 1) := by
  unfold eul
  rw [List.take_succ_eq_append_getElem hk, List.foldl_append]
  simp [hk]

theorem step_le (a p : Nat) : a / p * (p - 1) ≤ a :=
  Nat.le_trans (Nat.mul_le_mul_left _ (Nat.sub_le p 1)) (Nat.div_mul_le_self a p)

theorem eul_le (n : Nat) (ps : List Nat) : eul n ps ≤ n := by
  induction ps generalizing n with
  | nil => exact Nat.le_refl _
  | cons p ps ih => exact Nat.le_trans (ih _) (step_le n p)

theorem step_int (a p : Nat) (hp : 1 ≤ p) : (a : Int) / (p : Int) * ((p : Int) - 1) = ((a / p * (p - 1) : Nat) : Int) := by
  rw [Int.natCast_mul, Int.natCast_ediv, Int.natCast_sub hp]; rfl

theorem getD_mem {l : List Nat} {k : Nat} (h : k < l.length) : l.getD k 0 ∈ l := by
  rw [List.getD_eq_getElem?_getD, List.getElem?_eq_getElem h]; exact List.getElem_mem h

theorem strides_lt {N j k : Nat} (h : j < k) (hk : k < (strides N).length) : (strides N).getD j 0 < (strides N).getD k 0 := by
  have := List.pairwise_iff_getElem.1 (str_sorted N N) j k (by have : (strides N).length = (str N N).length := rfl; omega) hk h
  rw [List.getD_eq_getElem?_getD, List.getElem?_eq_getElem (by omega), List.getD_eq_getElem?_getD, List.getElem?_eq_getElem hk]
  exact this

theorem no_prime {N x p : Nat} {ps : List Nat} (h : PF N ps) (hN : 1 ≤ N) (hx : x ∈ strides N) (hp : p ∈ ps) : x % p ≠ 0 := by
  have h1 := (strides_mem.1 hx).2.2
  have h2 := (free_iff h hN x).2 h1
  unfold free at h2
  rw [List.all_eq_true] at h2
  have := h2 p hp
  simpa using this

theorem hasB_iff (l : List Nat) (v : Nat) : hasB l (v : Int) = true ↔ v ∈ l := by
  unfold hasB
  rw [List.any_eq_true]
  constructor
  · rintro ⟨x, hx, h⟩
    have : x = v := by rw [beq_iff_eq] at h; omega
    subst this; exact hx
  · intro h
    exact ⟨v, h, by simp⟩

/-- EUCLID's STEP. -/
theorem euclid (N S : Nat) (hS : 1 ≤ S) (hSN : S ≤ N) (r : Nat) (hr : r = if N % S = 0 then S else N % S) : hasB (strides N) (S : Int) = hasB (strides S) (r : Int) := by
  rw [Bool.eq_iff_iff, hasB_iff, hasB_iff, strides_mem, strides_mem]
  have hlt := Nat.mod_lt N (show 0 < S by omega)
  have e : Nat.gcd S N = Nat.gcd (N % S) S := Nat.gcd_rec S N
  by_cases h0 : N % S = 0
  · rw [if_pos h0] at hr
    subst hr
    rw [h0, Nat.gcd_zero_left] at e
    rw [e, Nat.gcd_self]
    constructor
    · rintro ⟨_, _, h⟩; exact ⟨by omega, by omega, h⟩
    · rintro ⟨_, _, h⟩; exact ⟨by omega, by omega, h⟩
  · rw [if_neg h0] at hr
    subst hr
    rw [e]
    constructor
    · rintro ⟨_, _, h⟩; exact ⟨by omega, by omega, h⟩
    · rintro ⟨_, _, h⟩; exact ⟨by omega, by omega, h⟩
end Go.Proofs.Qxb6627618a
