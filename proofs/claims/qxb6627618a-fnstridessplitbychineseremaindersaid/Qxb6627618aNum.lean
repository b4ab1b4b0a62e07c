/-
  Plain number theory for the two laws of this seat: the strides of n, Euler's product, the count of strides of a product. No Go in sight.
-/
namespace Go.Proofs.Qxb6627618a.Stl

/-- A prime. -/
def Pr (p : Nat) : Prop := 2 ≤ p ∧ ∀ d, d ∣ p → d = 1 ∨ d = p

/-- How many of 1..n satisfy P. -/
def cnt (P : Nat → Bool) : Nat → Nat
  | 0 => 0
  | n + 1 => cnt P n + (if P (n + 1) then 1 else 0)

theorem cnt_congr {P Q : Nat → Bool} (n : Nat) (h : ∀ x, 1 ≤ x → x ≤ n → P x = Q x) : cnt P n = cnt Q n := by
  induction n with
  | zero => rfl
  | succ n ih =>
    rw [cnt, cnt, ih (fun x h1 h2 => h x h1 (by omega)), h (n + 1) (by omega) (by omega)]

theorem cnt_split (P Q : Nat → Bool) (n : Nat) : cnt P n = cnt (fun x => P x && !Q x) n + cnt (fun x => P x && Q x) n := by
  induction n with
  | zero => rfl
  | succ n ih =>
    simp only [cnt]
    rw [ih]
    by_cases hP : P (n + 1) = true <;> by_cases hQ : Q (n + 1) = true <;> simp [hP, hQ] <;> omega

theorem cnt_mul_aux (Q : Nat → Bool) (p : Nat) (hQ : ∀ x, Q x = true → p ∣ x) (m j : Nat) (hj : j < p) : cnt Q (p * m + j) = cnt Q (p * m) := by
  induction j with
  | zero => rfl
  | succ j ih =>
    have e : p * m + (j + 1) = (p * m + j) + 1 := by omega
    rw [e, cnt, ih (by omega)]
    have : Q (p * m + j + 1) = false := by
      cases h : Q (p * m + j + 1) with
      | false => rfl
      | true =>
        have hd := hQ _ h
        have hd2 : p ∣ (j + 1) := (Nat.dvd_add_right (Nat.dvd_mul_right p m)).1 (by rw [← Nat.add_assoc]; exact hd)
        have := Nat.le_of_dvd (by omega) hd2
        omega
    simp [this]

theorem cnt_mul (Q : Nat → Bool) (p : Nat) (hp : 1 ≤ p) (hQ : ∀ x, Q x = true → p ∣ x) (m : Nat) : cnt Q (p * m) = cnt (fun y => Q (p * y)) m := by
  induction m with
  | zero => rfl
  | succ m ih =>
    have e : p * (m + 1) = (p * m + (p - 1)) + 1 := by rw [Nat.mul_succ]; omega
    have e2 : p * m + (p - 1) + 1 = p * (m + 1) := e.symm
    rw [e, cnt, cnt_mul_aux Q p hQ m (p - 1) (by omega), ih, e2, cnt]

/-- No member of ps divides x. -/
def free (ps : List Nat) (x : Nat) : Bool := ps.all fun p => !(x % p == 0)

def N (n : Nat) (ps : List Nat) : Nat := cnt (free ps) n

theorem pr_coprime {p q : Nat} (hp : Pr p) (hq : Pr q) (h : p ≠ q) : Nat.Coprime p q := by
  have h1 := hp.2 _ (Nat.gcd_dvd_left p q)
  have h2 := hq.2 _ (Nat.gcd_dvd_right p q)
  unfold Nat.Coprime
  rcases h1 with h1 | h1
  · exact h1
  · rcases h2 with h2 | h2
    · exact h2
    · exact absurd (h1.symm.trans h2) h

theorem free_mul {ps : List Nat} {p : Nat} (hp : Pr p) (hps : ∀ q ∈ ps, Pr q) (hn : p ∉ ps) (y : Nat) : free ps (p * y) = free ps y := by
  unfold free
  rw [Bool.eq_iff_iff]
  simp only [List.all_eq_true]
  constructor
  · intro h q hq
    have := h q hq
    have hc : Nat.Coprime q p := pr_coprime (hps q hq) hp (fun e => hn (e ▸ hq))
    simp only [Bool.not_eq_true', beq_eq_false_iff_ne, ne_eq] at this ⊢
    intro h0
    exact this (Nat.mod_eq_zero_of_dvd (Nat.dvd_trans (Nat.dvd_of_mod_eq_zero h0) (Nat.dvd_mul_left y p)))
  · intro h q hq
    have := h q hq
    have hc : Nat.Coprime q p := pr_coprime (hps q hq) hp (fun e => hn (e ▸ hq))
    simp only [Bool.not_eq_true', beq_eq_false_iff_ne, ne_eq] at this ⊢
    intro h0
    exact this (Nat.mod_eq_zero_of_dvd (hc.dvd_of_dvd_mul_left (Nat.dvd_of_mod_eq_zero h0)))

theorem free_cons (p : Nat) (ps : List Nat) (x : Nat) : free (p :: ps) x = (free ps x && !(x % p == 0)) := by
  unfold free; simp [Bool.and_comm]

theorem N_cons {ps : List Nat} {p : Nat} (hp : Pr p) (hps : ∀ q ∈ ps, Pr q) (hn : p ∉ ps) (m : Nat) : N (p * m) ps = N (p * m) (p :: ps) + N m ps := by
  have h2 := hp.1
  unfold N
  rw [cnt_split (free ps) (fun x => x % p == 0) (p * m)]
  congr 1
  · exact cnt_congr _ (fun x _ _ => (free_cons p ps x).symm)
  · rw [cnt_mul _ p (by omega)]
    · refine cnt_congr _ (fun x _ _ => ?_)
      rw [free_mul hp hps hn]
      simp
    · intro x hx
      simp only [Bool.and_eq_true, beq_iff_eq] at hx
      exact Nat.dvd_of_mod_eq_zero hx.2

/-- ps: distinct primes, each dividing m. -/
def Ok (m : Nat) (ps : List Nat) : Prop := (∀ q ∈ ps, Pr q) ∧ ps.Nodup ∧ ∀ q ∈ ps, q ∣ m

theorem Ok.tail {m p : Nat} {ps : List Nat} (h : Ok m (p :: ps)) : Ok m ps :=
  ⟨fun q hq => h.1 q (List.mem_cons_of_mem _ hq), (List.nodup_cons.1 h.2.1).2, fun q hq => h.2.2 q (List.mem_cons_of_mem _ hq)⟩

theorem Ok.div {m p : Nat} {ps : List Nat} (h : Ok (p * m) (p :: ps)) : Ok m ps := by
  refine ⟨h.tail.1, h.tail.2.1, fun q hq => ?_⟩
  have hc : Nat.Coprime q p := pr_coprime (h.tail.1 q hq) (h.1 p List.mem_cons_self) (fun e => (List.nodup_cons.1 h.2.1).1 (e ▸ hq))
  exact hc.dvd_of_dvd_mul_left (h.tail.2.2 q hq)

theorem N_mul (ps : List Nat) : ∀ (m k : Nat), Ok m ps → N (k * m) ps = k * N m ps := by
  induction ps with
  | nil =>
    intro m k _
    have : ∀ n, N n [] = n := by
      intro n
      induction n with
      | zero => rfl
      | succ n ih => unfold N at ih ⊢; rw [cnt, ih]; simp [free]
    rw [this, this]
  | cons p ps ih =>
    intro m k h
    obtain ⟨t, rfl⟩ := h.2.2 p List.mem_cons_self
    have hp := h.1 p List.mem_cons_self
    have hps := h.tail.1
    have hn := (List.nodup_cons.1 h.2.1).1
    have e1 := N_cons hp hps hn t
    have e2 := N_cons hp hps hn (k * t)
    have e3 : k * (p * t) = p * (k * t) := Nat.mul_left_comm k p t
    have e4 := ih (p * t) k h.tail
    have e5 := ih t k h.div
    rw [e3] at e4 ⊢
    rw [e1, Nat.mul_add] at e4
    omega

def eul (n : Nat) (ps : List Nat) : Nat := ps.foldl (fun phi p => phi / p * (p - 1)) n

theorem eul_eq (ps : List Nat) : ∀ (m c : Nat), Ok m ps → eul (c * m) ps = c * N m ps := by
  induction ps with
  | nil =>
    intro m c h
    have := N_mul [] 1 m ⟨fun q hq => absurd hq List.not_mem_nil, List.nodup_nil, fun q hq => absurd hq List.not_mem_nil⟩
    have h1 : N 1 [] = 1 := rfl
    rw [Nat.mul_one, h1, Nat.mul_one] at this
    rw [this]; rfl
  | cons p ps ih =>
    intro m c h
    obtain ⟨t, rfl⟩ := h.2.2 p List.mem_cons_self
    have hp := h.1 p List.mem_cons_self
    have hps := h.tail.1
    have hn := (List.nodup_cons.1 h.2.1).1
    have h2 := hp.1
    have e1 := N_cons hp hps hn t
    have e4 := N_mul ps t p h.div
    have e0 : c * (p * t) / p * (p - 1) = (c * (p - 1)) * t := by
      have : c * (p * t) = p * (c * t) := Nat.mul_left_comm c p t
      rw [this, Nat.mul_div_cancel_left _ (by omega), Nat.mul_right_comm]
    show eul (c * (p * t) / p * (p - 1)) ps = _
    rw [e0, ih t _ h.div, Nat.mul_assoc]
    congr 1
    rw [Nat.sub_mul, Nat.one_mul]
    omega

/-- ps: the primes that divide n, each once. -/
def PF (n : Nat) (ps : List Nat) : Prop := Ok n ps ∧ ∀ q, Pr q → q ∣ n → q ∈ ps

theorem exists_pr (n : Nat) (h : 2 ≤ n) : ∃ p, Pr p ∧ p ∣ n := by
  induction n using Nat.strongRecOn with
  | ind n ih =>
    by_cases hp : Pr n
    · exact ⟨n, hp, Nat.dvd_refl n⟩
    · have : ¬ ∀ d, d ∣ n → d = 1 ∨ d = n := fun hh => hp ⟨h, hh⟩
      have ⟨d, hd⟩ := Classical.not_forall.1 this
      have ⟨hd1, hd2⟩ := Classical.not_imp.1 hd
      have hd0 : 0 < d := Nat.pos_of_dvd_of_pos hd1 (by omega)
      have hle := Nat.le_of_dvd (by omega) hd1
      have ⟨p, hp1, hp2⟩ := ih d (by omega) (by omega)
      exact ⟨p, hp1, Nat.dvd_trans hp2 hd1⟩

theorem free_iff {n : Nat} {ps : List Nat} (h : PF n ps) (hn : 1 ≤ n) (x : Nat) : free ps x = true ↔ Nat.gcd x n = 1 := by
  unfold free
  simp only [List.all_eq_true, Bool.not_eq_true', beq_eq_false_iff_ne, ne_eq]
  constructor
  · intro hf
    have hpos : 0 < Nat.gcd x n := Nat.gcd_pos_of_pos_right x (by omega)
    by_cases h2 : 2 ≤ Nat.gcd x n
    · obtain ⟨p, hp, hd⟩ := exists_pr _ h2
      exact absurd (Nat.mod_eq_zero_of_dvd (Nat.dvd_trans hd (Nat.gcd_dvd_left x n))) (hf p (h.2 p hp (Nat.dvd_trans hd (Nat.gcd_dvd_right x n))))
    · omega
  · intro hg p hp h0
    have hd : p ∣ Nat.gcd x n := Nat.dvd_gcd (Nat.dvd_of_mod_eq_zero h0) (h.1.2.2 p hp)
    rw [hg] at hd
    have := Nat.le_of_dvd (by omega) hd
    have := (h.1.1 p hp).1
    omega

/-- The strides of n up to k. -/
def str (n : Nat) : Nat → List Nat
  | 0 => []
  | k + 1 => str n k ++ (if Nat.gcd (k + 1) n = 1 then [k + 1] else [])

def strides (n : Nat) : List Nat := str n n

theorem str_len (n k : Nat) : (str n k).length = cnt (fun x => decide (Nat.gcd x n = 1)) k := by
  induction k with
  | zero => rfl
  | succ k ih =>
    rw [str, List.length_append, ih, cnt]
    by_cases h : Nat.gcd (k + 1) n = 1 <;> simp [h]

theorem strides_len {n : Nat} {ps : List Nat} (h : PF n ps) (hn : 1 ≤ n) : (strides n).length = N n ps := by
  unfold strides N
  rw [str_len]
  refine cnt_congr _ (fun x _ _ => ?_)
  rw [Bool.eq_iff_iff, free_iff h hn, decide_eq_true_iff]

/-- EULER's PRODUCT. -/
theorem euler {n : Nat} {ps : List Nat} (h : PF n ps) (hn : 1 ≤ n) : eul n ps = (strides n).length := by
  have := eul_eq ps n 1 h.1
  rw [Nat.one_mul, Nat.one_mul] at this
  rw [this, strides_len h hn]

theorem str_mem {n k x : Nat} : x ∈ str n k ↔ 1 ≤ x ∧ x ≤ k ∧ Nat.gcd x n = 1 := by
  induction k with
  | zero => simp [str]; omega
  | succ k ih =>
    rw [str, List.mem_append, ih]
    by_cases h : Nat.gcd (k + 1) n = 1
    · simp only [h, if_true, List.mem_singleton]
      constructor
      · rintro (h1 | rfl)
        · exact ⟨h1.1, by omega, h1.2.2⟩
        · exact ⟨by omega, by omega, h⟩
      · rintro ⟨h1, h2, h3⟩
        by_cases e : x = k + 1
        · exact .inr e
        · exact .inl ⟨h1, by omega, h3⟩
    · simp only [h, if_false, List.not_mem_nil, or_false]
      constructor
      · rintro h1
        exact ⟨h1.1, by omega, h1.2.2⟩
      · rintro ⟨h1, h2, h3⟩
        have e : x ≠ k + 1 := fun e => h (e ▸ h3)
        exact ⟨h1, by omega, h3⟩

theorem str_sorted (n k : Nat) : (str n k).Pairwise (· < ·) := by
  induction k with
  | zero => exact List.Pairwise.nil
  | succ k ih =>
    rw [str, List.pairwise_append]
    refine ⟨ih, ?_, ?_⟩
    · split <;> simp
    · intro a ha b hb
      have := str_mem.1 ha
      split at hb
      · simp at hb; omega
      · cases hb

theorem strides_mem {n x : Nat} : x ∈ strides n ↔ 1 ≤ x ∧ x ≤ n ∧ Nat.gcd x n = 1 := str_mem

theorem strides_nodup (n : Nat) : (strides n).Nodup :=
  List.pairwise_iff_getElem.2 fun i j hi hj hij => Nat.ne_of_lt (List.pairwise_iff_getElem.1 (str_sorted n n) i j hi hj hij)

/-- The primes of n: there are some. -/
theorem exists_PF (n : Nat) (hn : 1 ≤ n) : ∃ ps, PF n ps := by
  have : DecidablePred Pr := fun p => Classical.propDecidable _
  refine ⟨(List.range (n + 1)).filter (fun p => decide (Pr p) && (n % p == 0)), ⟨?_, ?_, ?_⟩, ?_⟩
  · intro q hq; simp at hq; exact hq.2.1
  · exact List.nodup_range.filter _
  · intro q hq; simp at hq; exact Nat.dvd_of_mod_eq_zero hq.2.2
  · intro q hq hd
    simp only [List.mem_filter, List.mem_range, Bool.and_eq_true, decide_eq_true_iff, beq_iff_eq]
    exact ⟨by have := Nat.le_of_dvd (by omega) hd; omega, hq, Nat.mod_eq_zero_of_dvd hd⟩

theorem pr_dvd_mul {p a b : Nat} (hp : Pr p) (h : p ∣ a * b) : p ∣ a ∨ p ∣ b := by
  rcases hp.2 _ (Nat.gcd_dvd_left p a) with h1 | h1
  · exact .inr (Nat.Coprime.dvd_of_dvd_mul_left h1 h)
  · exact .inl (h1 ▸ Nat.gcd_dvd_right p a)

/-- THE COUNT IS MULTIPLICATIVE. -/
theorem strides_len_mul {a b : Nat} (ha : 1 ≤ a) (hb : 1 ≤ b) (h : Nat.gcd a b = 1) : (strides (a * b)).length = (strides a).length * (strides b).length := by
  obtain ⟨pa, ha'⟩ := exists_PF a ha
  obtain ⟨pb, hb'⟩ := exists_PF b hb
  have hab : PF (a * b) (pa ++ pb) := by
    refine ⟨⟨?_, ?_, ?_⟩, ?_⟩
    · intro q hq
      rcases List.mem_append.1 hq with h | h
      · exact ha'.1.1 q h
      · exact hb'.1.1 q h
    · rw [List.nodup_append]
      refine ⟨ha'.1.2.1, hb'.1.2.1, ?_⟩
      rintro x hx y hy rfl
      have := Nat.dvd_gcd (ha'.1.2.2 x hx) (hb'.1.2.2 x hy)
      rw [h] at this
      have h1 := Nat.le_of_dvd (by omega) this
      have h2 := (ha'.1.1 x hx).1
      omega
    · intro q hq
      rcases List.mem_append.1 hq with h | h
      · exact Nat.dvd_trans (ha'.1.2.2 q h) (Nat.dvd_mul_right a b)
      · exact Nat.dvd_trans (hb'.1.2.2 q h) (Nat.dvd_mul_left b a)
    · intro q hq hd
      rcases pr_dvd_mul hq hd with h | h
      · exact List.mem_append_left _ (ha'.2 q hq h)
      · exact List.mem_append_right _ (hb'.2 q hq h)
  rw [← euler hab (Nat.mul_pos ha hb)]
  unfold eul
  rw [List.foldl_append]
  show eul (eul (a * b) pa) pb = _
  rw [Nat.mul_comm a b, eul_eq pa a b ha'.1, Nat.mul_comm, eul_eq pb b _ hb'.1, strides_len ha' ha, strides_len hb' hb]

end Go.Proofs.Qxb6627618a.Stl
