/-
  Trial division, as plain facts: what the loop of zzPrimeFactors keeps, and what it comes to.
-/
import Derived.Test.Qxb6627618aNum
namespace Go.Proofs.Qxb6627618a.Stl

/-- What holds at the loop's head: l: the primes found; m: what is left of n; d: the next number to try. -/
structure Tr (n m d : Nat) (l : List Nat) : Prop where
  m1 : 1 ≤ m
  mn : m ≤ n
  d2 : 2 ≤ d
  pr : ∀ q ∈ l, Pr q
  nd : l.Nodup
  dv : ∀ q ∈ l, q ∣ n
  lt : ∀ q ∈ l, q < d
  no : ∀ q ∈ l, ¬ q ∣ m
  md : m ∣ n
  all : ∀ q, Pr q → q ∣ n → q ∈ l ∨ q ∣ m
  sm : ∀ e, 2 ≤ e → e < d → ¬ e ∣ m
  len : l.length + 2 ≤ d

theorem tr_start (n : Nat) (hn : 1 ≤ n) : Tr n n 2 [] := by
  refine ⟨hn, Nat.le_refl _, Nat.le_refl _, ?_, List.nodup_nil, ?_, ?_, ?_, Nat.dvd_refl _, fun q _ h => .inr h, fun e h1 h2 => by omega, by simp⟩
  all_goals (intro q hq; exact absurd hq List.not_mem_nil)

theorem Tr.skip {n m d : Nat} {l : List Nat} (h : Tr n m d l) (hd : ¬ m % d = 0) : Tr n m (d + 1) l := by
  refine ⟨h.m1, h.mn, by have := h.d2; omega, h.pr, h.nd, h.dv, fun q hq => by have := h.lt q hq; omega, h.no, h.md, h.all, fun e h1 h2 => ?_, by have := h.len; omega⟩
  by_cases e1 : e = d
  · subst e1; exact fun hh => hd (Nat.mod_eq_zero_of_dvd hh)
  · exact h.sm e h1 (by omega)

/-- Inside the inner loop. -/
structure Din (m d k : Nat) : Prop where
  k1 : 1 ≤ k
  km : k ∣ m
  all : ∀ q, Pr q → q ∣ m → q = d ∨ q ∣ k

theorem din_start {m d : Nat} (h : 1 ≤ m) : Din m d m := ⟨h, Nat.dvd_refl _, fun _ _ h => .inr h⟩

theorem Tr.d_prime {n m d : Nat} {l : List Nat} (h : Tr n m d l) (hd : m % d = 0) : Pr d := by
  refine ⟨h.d2, fun e he => ?_⟩
  have hdm := Nat.dvd_of_mod_eq_zero hd
  have hem := Nat.dvd_trans he hdm
  have hle := Nat.le_of_dvd (by have := h.d2; omega) he
  have h0 : 0 < e := Nat.pos_of_dvd_of_pos he (by have := h.d2; omega)
  by_cases e1 : e = 1
  · exact .inl e1
  · by_cases e2 : e = d
    · exact .inr e2
    · exact absurd hem (h.sm e (by omega) (by omega))

theorem Din.step {m d k : Nat} (hd : Pr d) (h : Din m d k) (hk : k % d = 0) : Din m d (k / d) ∧ k / d < k := by
  have hd2 := hd.1
  obtain ⟨t, rfl⟩ := Nat.dvd_of_mod_eq_zero hk
  have h1 := h.k1
  have e : d * t / d = t := Nat.mul_div_cancel_left _ (by omega)
  have ht : 1 ≤ t := by
    rcases Nat.eq_zero_or_pos t with h0 | h0
    · rw [h0] at h1; simp at h1
    · exact h0
  rw [e]
  refine ⟨⟨ht, Nat.dvd_trans (Nat.dvd_mul_left t d) h.km, fun q hq hqm => ?_⟩, ?_⟩
  · rcases h.all q hq hqm with h2 | h2
    · exact .inl h2
    · rcases pr_dvd_mul hq h2 with h3 | h3
      · rcases hd.2 q h3 with h4 | h4
        · have := hq.1; omega
        · exact .inl h4
      · exact .inr h3
  · have : 2 * t ≤ d * t := Nat.mul_le_mul_right t hd2
    omega

theorem Tr.took {n m d k : Nat} {l : List Nat} (h : Tr n m d l) (hd : m % d = 0) (hk : Din m d k) (hno : ¬ k % d = 0) : Tr n k (d + 1) (l ++ [d]) := by
  have hp := h.d_prime hd
  have hdm := Nat.dvd_of_mod_eq_zero hd
  refine ⟨hk.k1, Nat.le_trans (Nat.le_of_dvd h.m1 hk.km) h.mn, by have := h.d2; omega, ?_, ?_, ?_, ?_, ?_, Nat.dvd_trans hk.km h.md, ?_, ?_, by have := h.len; simp; omega⟩
  · intro q hq
    rcases List.mem_append.1 hq with h1 | h1
    · exact h.pr q h1
    · rw [List.mem_singleton] at h1; subst h1; exact hp
  · rw [List.nodup_append]
    refine ⟨h.nd, by simp, ?_⟩
    rintro x hx y hy rfl
    rw [List.mem_singleton] at hy
    have := h.lt x hx
    omega
  · intro q hq
    rcases List.mem_append.1 hq with h1 | h1
    · exact h.dv q h1
    · rw [List.mem_singleton] at h1; subst h1; exact Nat.dvd_trans hdm h.md
  · intro q hq
    rcases List.mem_append.1 hq with h1 | h1
    · have := h.lt q h1; omega
    · rw [List.mem_singleton] at h1; omega
  · intro q hq hqk
    rcases List.mem_append.1 hq with h1 | h1
    · exact h.no q h1 (Nat.dvd_trans hqk hk.km)
    · rw [List.mem_singleton] at h1; subst h1; exact hno (Nat.mod_eq_zero_of_dvd hqk)
  · intro q hq hqn
    rcases h.all q hq hqn with h1 | h1
    · exact .inl (List.mem_append_left _ h1)
    · rcases hk.all q hq h1 with h2 | h2
      · subst h2; exact .inl (List.mem_append_right _ (by simp))
      · exact .inr h2
  · intro e h1 h2 he
    by_cases e1 : e = d
    · subst e1; exact hno (Nat.mod_eq_zero_of_dvd he)
    · exact h.sm e h1 (by omega) (Nat.dvd_trans he hk.km)

theorem Tr.last_prime {n m d : Nat} {l : List Nat} (h : Tr n m d l) (hdd : m < d * d) (hm : 1 < m) : Pr m := by
  refine ⟨hm, fun e he => ?_⟩
  by_cases e1 : e = 1
  · exact .inl e1
  · by_cases e2 : e = m
    · exact .inr e2
    · exfalso
      have h0 : 0 < e := Nat.pos_of_dvd_of_pos he (by omega)
      have hed : d ≤ e := by
        rcases Nat.lt_or_ge e d with h3 | h3
        · exact absurd he (h.sm e (by omega) h3)
        · exact h3
      obtain ⟨f, rfl⟩ := he
      have hf1 : f ≠ 1 := fun h3 => e2 (by rw [h3, Nat.mul_one])
      have hf0 : f ≠ 0 := fun h3 => by rw [h3] at hm; simp at hm
      have hfd : d ≤ f := by
        rcases Nat.lt_or_ge f d with h3 | h3
        · exact absurd (Nat.dvd_mul_left f e) (h.sm f (by omega) h3)
        · exact h3
      have := Nat.mul_le_mul hed hfd
      omega

theorem Tr.fin_one {n d : Nat} {l : List Nat} (h : Tr n 1 d l) : PF n l := by
  refine ⟨⟨h.pr, h.nd, h.dv⟩, fun q hq hd => ?_⟩
  rcases h.all q hq hd with h1 | h1
  · exact h1
  · have := Nat.le_of_dvd (by omega) h1; have := hq.1; omega

theorem Tr.fin_more {n m d : Nat} {l : List Nat} (h : Tr n m d l) (hdd : m < d * d) (hm : 1 < m) : PF n (l ++ [m]) := by
  have hp := h.last_prime hdd hm
  refine ⟨⟨?_, ?_, ?_⟩, ?_⟩
  · intro q hq
    rcases List.mem_append.1 hq with h1 | h1
    · exact h.pr q h1
    · rw [List.mem_singleton] at h1; subst h1; exact hp
  · rw [List.nodup_append]
    refine ⟨h.nd, by simp, ?_⟩
    rintro x hx y hy rfl
    rw [List.mem_singleton] at hy
    subst hy
    exact h.no x hx (Nat.dvd_refl _)
  · intro q hq
    rcases List.mem_append.1 hq with h1 | h1
    · exact h.dv q h1
    · rw [List.mem_singleton] at h1; subst h1; exact h.md
  · intro q hq hqn
    rcases h.all q hq hqn with h1 | h1
    · exact List.mem_append_left _ h1
    · rcases hp.2 q h1 with h2 | h2
      · have := hq.1; omega
      · subst h2; exact List.mem_append_right _ (by simp)
end Go.Proofs.Qxb6627618a.Stl
