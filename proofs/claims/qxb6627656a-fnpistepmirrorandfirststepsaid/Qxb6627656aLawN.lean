/-
  The walk of FnPIStepNoIntegralGainIsMemoryless.
-/
import Derived.Test.Qxb6627656aBnd
namespace Go.Proofs.Qxb6627656a
open Go.RowKit Fl
set_option linter.unusedSimpArgs false
set_option linter.unusedVariables false
attribute [local go_sem] run_fl_add run_fl_sub run_fl_mul run_fl_quo run_max_fl run_min_fl run_store_float

/-- The errors that came in: len floats in a row. -/
structure ER (w : World) (ao : Option Addr) (len : Nat) (z : Nat → Nat) : Prop where
  at_ : 0 < len → ∃ eb eo, ao = some ⟨eb, eo, none⟩ ∧ eb < w.heap.size ∧ ∀ j, j < len → w.cell? ⟨eb, eo + j, none⟩ = some (.float .f64 (z j))

theorem ER.below {w w' : World} {ao : Option Addr} {len : Nat} {z : Nat → Nat} (h : ER w ao len z) (hb : Below w.heap.size w w') : ER w' ao len z := by
  constructor
  intro h0
  obtain ⟨eb, eo, h1, h2, h3⟩ := h.at_ h0
  exact ⟨eb, eo, h1, Nat.lt_of_lt_of_le h2 hb.size, fun j hj => (hb.cell (p := ⟨eb, eo + j, none⟩) h2).trans (h3 j hj)⟩

theorem bytes15 (p t lo hi : Nat) (n : Int) (ao : Option Addr) (len cap : Nat) (w : World) (h : len ≤ 1048576) :
    Calls Try.prog 15 #[.float .f64 p, .float .f64 t, .float .f64 lo, .float .f64 hi, .int .i64 n, .slice ao len cap] w fun e w' => e = .returned (.bool true) ∧ w' = w := by
  have h' : ¬ (1048576 : Int) < (len : Int) := by omega
  go_enter Try.func15, Try.ntmps15
  go_wp2
  go_ret
  exact ⟨rfl, rfl⟩
theorem bytes15_no (p t lo hi : Nat) (n : Int) (ao : Option Addr) (len cap : Nat) (w : World) (h : 1048576 < len) :
    Calls Try.prog 15 #[.float .f64 p, .float .f64 t, .float .f64 lo, .float .f64 hi, .int .i64 n, .slice ao len cap] w fun e w' => e = .returned (.bool false) ∧ w' = w := by
  have h' : (1048576 : Int) < (len : Int) := by omega
  go_enter Try.func15, Try.ntmps15
  go_wp2
  go_ret
  exact ⟨rfl, rfl⟩
theorem bytes5 (p i t lo hi : Nat) (n : Int) (ao : Option Addr) (len cap : Nat) (w : World) (h : len ≤ 1048576) :
    Calls Try.prog 5 #[.float .f64 p, .float .f64 i, .float .f64 t, .float .f64 lo, .float .f64 hi, .int .i64 n, .slice ao len cap] w fun e w' => e = .returned (.bool true) ∧ w' = w := by
  have h' : ¬ (1048576 : Int) < (len : Int) := by omega
  go_enter Try.func5, Try.ntmps5
  go_wp2
  go_ret
  exact ⟨rfl, rfl⟩
theorem bytes5_no (p i t lo hi : Nat) (n : Int) (ao : Option Addr) (len cap : Nat) (w : World) (h : 1048576 < len) :
    Calls Try.prog 5 #[.float .f64 p, .float .f64 i, .float .f64 t, .float .f64 lo, .float .f64 hi, .int .i64 n, .slice ao len cap] w fun e w' => e = .returned (.bool false) ∧ w' = w := by
  have h' : (1048576 : Int) < (len : Int) := by omega
  go_enter Try.func5, Try.ntmps5
  go_wp2
  go_ret
  exact ⟨rfl, rfl⟩

/-- A float of at most 1e100 in size: Go's two tests. -/
def geB (x : Nat) : Bool := FloatKind.f64.format.order x 15326393489903895421 == some Ordering.gt || FloatKind.f64.format.order x 15326393489903895421 == some Ordering.eq
def leB (x : Nat) : Bool := FloatKind.f64.format.order x 6103021453049119613 == some Ordering.lt || FloatKind.f64.format.order x 6103021453049119613 == some Ordering.eq
def leqB (x y : Nat) : Bool := FloatKind.f64.format.order x y == some Ordering.lt || FloatKind.f64.format.order x y == some Ordering.eq

set_option maxHeartbeats 2000000 in
set_option maxRecDepth 100000 in
/-- The inputs of which nothing is asked. -/
theorem lawN_out (p t lo hi : Nat) (n : Int) (ao : Option Addr) (len cap : Nat) (w : World)
    (h : 1048576 < len ∨ 65536 < len ∨ n < 1 ∨ 65536 < n ∨ leqB lo hi = false ∨ geB t = false ∨ leB t = false) :
    Calls Try.prog 4 #[.float .f64 p, .float .f64 t, .float .f64 lo, .float .f64 hi, .int .i64 n, .slice ao len cap] w fun e w' => e = .returned (.bool true) ∧ Below w.heap.size w w' := by
  by_cases a1 : 1048576 < len
  · go_enter Try.func4, Try.ntmps4
    go_wp2_with (go_at_call 15; refine (bytes15_no _ _ _ _ _ _ _ _ _ a1).mono ?_; rintro e w' ⟨rfl, rfl⟩)
    go_ret
    exact ⟨rfl, Below.refl _ _⟩
  have a1' : len ≤ 1048576 := by omega
  by_cases a2 : 65536 < len
  · have a2' : (65536 : Int) < (len : Int) := by omega
    go_enter Try.func4, Try.ntmps4
    go_wp2_with (go_at_call 15; refine (bytes15 _ _ _ _ _ _ _ _ _ a1').mono ?_; rintro e w' ⟨rfl, rfl⟩)
    go_ret
    exact ⟨rfl, Below.refl _ _⟩
  have a2' : ¬ (65536 : Int) < (len : Int) := by omega
  by_cases a3 : n < 1
  · go_enter Try.func4, Try.ntmps4
    go_wp2_with (go_at_call 15; refine (bytes15 _ _ _ _ _ _ _ _ _ a1').mono ?_; rintro e w' ⟨rfl, rfl⟩)
    go_ret
    exact ⟨rfl, Below.refl _ _⟩
  by_cases a4 : 65536 < n
  · go_enter Try.func4, Try.ntmps4
    go_wp2_with (go_at_call 15; refine (bytes15 _ _ _ _ _ _ _ _ _ a1').mono ?_; rintro e w' ⟨rfl, rfl⟩)
    go_ret
    exact ⟨rfl, Below.refl _ _⟩
  cases a5 : leqB lo hi
  · have a5' : (FloatKind.f64.format.order lo hi == some Ordering.lt || FloatKind.f64.format.order lo hi == some Ordering.eq) = false := a5
    clear a5 h
    go_enter Try.func4, Try.ntmps4
    go_wp2_with (go_at_call 15; refine (bytes15 _ _ _ _ _ _ _ _ _ a1').mono ?_; rintro e w' ⟨rfl, rfl⟩)
    go_ret
    exact ⟨rfl, Below.refl _ _⟩
  · have a5' : (FloatKind.f64.format.order lo hi == some Ordering.lt || FloatKind.f64.format.order lo hi == some Ordering.eq) = true := a5
    cases a6 : geB t
    · have a6' : (FloatKind.f64.format.order t 15326393489903895421 == some Ordering.gt || FloatKind.f64.format.order t 15326393489903895421 == some Ordering.eq) = false := a6
      clear a5 a6 h
      go_enter Try.func4, Try.ntmps4
      go_wp2_with (go_at_call 15; refine (bytes15 _ _ _ _ _ _ _ _ _ a1').mono ?_; rintro e w' ⟨rfl, rfl⟩)
      go_ret
      exact ⟨rfl, Below.refl _ _⟩
    · have a6' : (FloatKind.f64.format.order t 15326393489903895421 == some Ordering.gt || FloatKind.f64.format.order t 15326393489903895421 == some Ordering.eq) = true := a6
      have a7 : leB t = false := by
        rcases h with h | h | h | h | h | h | h
        · omega
        · omega
        · omega
        · omega
        · rw [a5] at h; cases h
        · rw [a6] at h; cases h
        · exact h
      have a7' : (FloatKind.f64.format.order t 6103021453049119613 == some Ordering.lt || FloatKind.f64.format.order t 6103021453049119613 == some Ordering.eq) = false := a7
      clear a5 a6 a7 h
      go_enter Try.func4, Try.ntmps4
      go_wp2_with (go_at_call 15; refine (bytes15 _ _ _ _ _ _ _ _ _ a1').mono ?_; rintro e w' ⟨rfl, rfl⟩)
      go_ret
      exact ⟨rfl, Below.refl _ _⟩

theorem le_of {lo hi : Nat} (h : leqB lo hi = true) : Le (ab lo) (ab hi) := by
  unfold leqB at h
  rw [order_ab, Bool.or_eq_true] at h
  rcases h with h | h
  · exact .inl (eq_of_beq h)
  · exact .inr (eq_of_beq h)

set_option maxHeartbeats 4000000 in
set_option maxRecDepth 100000 in
theorem lawN_in (p t lo hi n : Nat) (ao : Option Addr) (len cap : Nat) (z : Nat → Nat) (w : World) (hr : ER w ao len z) (hl : len ≤ 65536) (hn1 : 1 ≤ n) (hn : n ≤ 65536) (h5 : leqB lo hi = true) (h6 : geB t = true) (h7 : leB t = true) :
    Calls Try.prog 4 #[.float .f64 p, .float .f64 t, .float .f64 lo, .float .f64 hi, .int .i64 n, .slice ao len cap] w fun e w' => e = .returned (.bool true) ∧ Below w.heap.size w w' := by
  have a1' : len ≤ 1048576 := by omega
  have a2' : ¬ (65536 : Int) < (len : Int) := by omega
  have a3 : ¬ (n : Int) < 1 := by omega
  have a4 : ¬ (65536 : Int) < (n : Int) := by omega
  have a5' : (FloatKind.f64.format.order lo hi == some Ordering.lt || FloatKind.f64.format.order lo hi == some Ordering.eq) = true := h5
  have a6' : (FloatKind.f64.format.order t 15326393489903895421 == some Ordering.gt || FloatKind.f64.format.order t 15326393489903895421 == some Ordering.eq) = true := h6
  have a7' : (FloatKind.f64.format.order t 6103021453049119613 == some Ordering.lt || FloatKind.f64.format.order t 6103021453049119613 == some Ordering.eq) = true := h7
  have HLE : Hid _ := le_of h5
  have HT : Hid _ := bd_range t h6 h7
  have HR : Hid _ := hr
  clear h5 h6 h7 hr
  go_enter Try.func4, Try.ntmps4
  go_wp2_with (go_at_call 15; refine (bytes15 _ _ _ _ _ _ _ _ _ a1').mono ?_; rintro e w' ⟨rfl, rfl⟩)
  clear a5' a6' a7'
  go_loop [13] (fun i => ∃ k : Nat, k ≤ len ∧ i = .int .i64 k ∧ Hid (∀ j, j < k → geB (z j) = true ∧ leB (z j) = true)) (fun i => len - (intOf i).toNat)
  case atStart => exact ⟨0, Nat.zero_le _, rfl, fun j hj => by omega⟩
  case round =>
    obtain ⟨k, hk, rfl, hall⟩ := hrel
    by_cases hlt : k < len
    · obtain ⟨eb, eo, rfl, heb, hc⟩ := HR.out.at_ (by omega)
      have hck := hc k hlt
      clear hc
      obtain ⟨x, hx⟩ : ∃ x, z k = x := ⟨_, rfl⟩
      rw [hx] at hck
      have HX : Hid _ := hx
      clear hx
      cases c1 : geB x
      · have c1' : (FloatKind.f64.format.order x 15326393489903895421 == some Ordering.gt || FloatKind.f64.format.order x 15326393489903895421 == some Ordering.eq) = false := c1
        clear c1
        go_wp2
        go_ret
        exact ⟨rfl, Below.refl _ _⟩
      · have c1' : (FloatKind.f64.format.order x 15326393489903895421 == some Ordering.gt || FloatKind.f64.format.order x 15326393489903895421 == some Ordering.eq) = true := c1
        cases c2 : leB x
        · have c2' : (FloatKind.f64.format.order x 6103021453049119613 == some Ordering.lt || FloatKind.f64.format.order x 6103021453049119613 == some Ordering.eq) = false := c2
          clear c1 c2
          go_wp2
          go_ret
          exact ⟨rfl, Below.refl _ _⟩
        · have c2' : (FloatKind.f64.format.order x 6103021453049119613 == some Ordering.lt || FloatKind.f64.format.order x 6103021453049119613 == some Ordering.eq) = true := c2
          have hall' : Hid (∀ j, j < k + 1 → geB (z j) = true ∧ leB (z j) = true) := by
            intro j hj
            by_cases e : j = k
            · subst e; rw [HX.out]; exact ⟨c1, c2⟩
            · exact hall.out j (by omega)
          clear c1 c2
          go_wp2
          go_round
          case rel => exact ⟨k + 1, by omega, by go_num, hall'⟩
          case measure => simp [intOf]; omega
    · obtain rfl : k = len := by omega
      have HE : Hid (∀ j, j < k → ∀ E, E = 1407 → Bd (2 ^ E) (ab (z j))) := fun j hj => bd_range (z j) (hall.out j hj).1 (hall.out j hj).2
      clear hall
      go_wp2_with fail
      refine (new_any p 0 t lo hi n hn hn1 _).mono ?_
      rintro e w1 ⟨b, g, rfl, hP, hbb, hgg, hB⟩
      have HP1 : Hid _ := hP
      have HB1 : Hid _ := hB
      clear hP hB
      go_wp2
      go_loopw [15, 16, 17, 18] (fun i _ _ _ wr => ∃ (q kk s wt pu : Nat) (T : Nat → Nat), q ≤ k ∧ i = .int .i64 q ∧ kk < n ∧ pu < n ∧ Hid (PI wr b g n p 0 t lo hi kk s wt pu T) ∧ Hid (Inv n q s wt T) ∧ Hid (Below w'.heap.size w' wr)) (fun i _ _ _ _ => k - (intOf i).toNat)
      case atStart => exact ⟨0, 0, 0, 0, 0, fun _ => 0, Nat.zero_le _, rfl, by omega, by omega, HP1, inv_start n, HB1⟩
      case round =>
        obtain ⟨q, kk, s, wt, pu, T, hq, rfl, hkk, hpu, hP, hI, hB⟩ := hrel
        clear HP1 HB1
        by_cases hlt2 : q < k
        · obtain ⟨eb, eo, rfl, heb, hc⟩ := (HR.out.below hB.out).at_ (by omega)
          have hcq := hc q hlt2
          have HEq : Hid _ := HE.out q hlt2
          clear hc
          generalize z q = e at *
          go_wp2_with fail
          refine (step_any b g n p 0 t lo hi kk s wt pu e T _ hn1 hn hkk hpu hP.out).mono ?_
          rintro r w2 ⟨o, x, s', wt', rest, out, x0, pe, rfl, ho, hrest, hx0, hpe, hout, hx, hcase, hO⟩
          have hb0 : Bd (1 * U) (ab x0) := by rw [hx0]; exact term_bd HEq.out HT.out
          have ho1 : ab out = ab pe := step_out hI.out hn1 hn (by omega) hrest hb0 hout
          have hbx := step_term hI.out hn1 hn (by omega) hrest hb0 ho1 hx
          have hres : Hid (ab o = clampD (mulD (ab p) (ab e)) (ab lo) (ab hi)) := by
            show ab o = _
            rw [ho, res_clamp HLE.out, ho1, hpe]
          have hnew : ∃ kk' pu', kk' < n ∧ pu' < n ∧ PI w2 b g n p 0 t lo hi kk' s' wt' pu' (fun j => if j = kk then x else T j) ∧ Inv n (q + 1) s' wt' (fun j => if j = kk then x else T j) := by
            rcases hcase with ⟨c1, c2, c3, c4⟩ | ⟨c1, c2, c3, c4⟩
            · exact ⟨_, _, Nat.mod_lt _ (by omega), by omega, c2, inv_step hI.out hn1 hn (by omega) hkk hrest hbx c3 c4⟩
            · exact ⟨_, _, Nat.mod_lt _ (by omega), by omega, c2, inv_resum hI.out hn1 hn hbx c3 c4⟩
          obtain ⟨kk', pu', hkk', hpu', hP2, hI2⟩ := hnew
          have HP2 : Hid _ := hP2
          have HI2 : Hid _ := hI2
          have HB2 : Hid (Below w'.heap.size w' w2) := hO.below hB.out hbb hgg
          clear ho hrest hx0 hpe hout hx hcase hO hb0 ho1 hbx hP2 hI2 hP hI hB hcq heb
          go_wp2_with fail
          refine (clamp_any _ _ _ _).mono ?_
          rintro r w3 ⟨want, rfl, hwant, rfl⟩
          have hsame : ab o = ab want := by rw [hwant, hres.out, ab_mul]
          have HS : Hid _ := hsame
          clear hwant hsame hres
          go_wp2_with fail
          refine (same_any _ _ HS.out _).mono ?_
          rintro r w4 ⟨rfl, hw4⟩
          subst hw4
          go_wp2
          go_roundw
          case rel => exact ⟨q + 1, kk', s', wt', pu', _, by omega, by go_num, hkk', hpu', HP2.out.drewN _, HI2, HB2.out.trans ⟨rfl, rfl, rfl, Nat.le_refl _, fun _ _ => rfl⟩⟩
          case measure => simp [intOf]; omega
        · go_wp2
          go_ret
          exact ⟨rfl, hB.out⟩

/-- The law, at every input. -/
theorem lawN_any (p t lo hi : Nat) (n : Int) (ao : Option Addr) (len cap : Nat) (z : Nat → Nat) (w : World) (hr : ER w ao len z) :
    Calls Try.prog 4 #[.float .f64 p, .float .f64 t, .float .f64 lo, .float .f64 hi, .int .i64 n, .slice ao len cap] w fun e w' => e = .returned (.bool true) ∧ Below w.heap.size w w' := by
  by_cases h : 1048576 < len ∨ 65536 < len ∨ n < 1 ∨ 65536 < n ∨ leqB lo hi = false ∨ geB t = false ∨ leB t = false
  · exact lawN_out p t lo hi n ao len cap w h
  · have h5 : leqB lo hi = true := by cases e : leqB lo hi with | true => rfl | false => exact absurd (.inr (.inr (.inr (.inr (.inl e))))) h
    have h6 : geB t = true := by cases e : geB t with | true => rfl | false => exact absurd (.inr (.inr (.inr (.inr (.inr (.inl e)))))) h
    have h7 : leB t = true := by cases e : leB t with | true => rfl | false => exact absurd (.inr (.inr (.inr (.inr (.inr (.inr e)))))) h
    have hn1 : ¬ n < 1 := fun e => h (.inr (.inr (.inl e)))
    have hn2 : ¬ 65536 < n := fun e => h (.inr (.inr (.inr (.inl e))))
    have hl : ¬ 65536 < len := fun e => h (.inr (.inl e))
    obtain ⟨N, rfl⟩ := Int.eq_ofNat_of_zero_le (show 0 ≤ n by omega)
    exact lawN_in p t lo hi N ao len cap z w hr (by omega) (by omega) (by omega) h5 h6 h7
end Go.Proofs.Qxb6627656a
