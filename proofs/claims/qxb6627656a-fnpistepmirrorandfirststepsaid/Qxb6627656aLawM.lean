/-
  The walk of FnPIStepMirrorAndFirstStep.
-/
import Derived.Test.Qxb6627656aMir2
import Derived.Test.Qxb6627656aLawN
namespace Go.Proofs.Qxb6627656a
open Go.RowKit Fl
set_option linter.unusedSimpArgs false
set_option linter.unusedVariables false
theorem unary_neg_float (k : FloatKind) (x : Nat) : Op.unary .neg (.float k x) = pure (.float k (Op.negFloat k x)) := rfl
attribute [local go_sem] unary_neg_float run_fl_add run_fl_sub run_fl_mul run_fl_quo run_max_fl run_min_fl run_store_float

theorem PI.below {w w' : World} {b g n p i t lo hi k s wt pu : Nat} {T : Nat → Nat} (h : PI w b g n p i t lo hi k s wt pu T) (hb : Below w.heap.size w w') : PI w' b g n p i t lo hi k s wt pu T := by
  have cb : ∀ o, w'.cell? ⟨b, o, none⟩ = w.cell? ⟨b, o, none⟩ := fun o => hb.cell (p := ⟨b, o, none⟩) h.bl
  have cg : ∀ o, w'.cell? ⟨g, o, none⟩ = w.cell? ⟨g, o, none⟩ := fun o => hb.cell (p := ⟨g, o, none⟩) h.gl
  have fb : ∀ o, w'.frozen? ⟨b, o, none⟩ = w.frozen? ⟨b, o, none⟩ := fun o => hb.frozen (p := ⟨b, o, none⟩) h.bl
  have fg : ∀ o, w'.frozen? ⟨g, o, none⟩ = w.frozen? ⟨g, o, none⟩ := fun o => hb.frozen (p := ⟨g, o, none⟩) h.gl
  exact ⟨(cb 0).trans h.c0, (cb 1).trans h.c1, (cb 2).trans h.c2, (cb 3).trans h.c3, (cb 4).trans h.c4, (cb 5).trans h.c5, (cb 6).trans h.c6, (cb 7).trans h.c7, (cb 8).trans h.c8, (cb 9).trans h.c9,
    (fb 6).trans h.f6, (fb 7).trans h.f7, (fb 8).trans h.f8, (fb 9).trans h.f9, fun j hj => (cg j).trans (h.tc j hj), fun j hj => (fg j).trans (h.tf j hj), h.bg, Nat.lt_of_lt_of_le h.bl hb.size, Nat.lt_of_lt_of_le h.gl hb.size⟩

set_option maxHeartbeats 2000000 in
set_option maxRecDepth 100000 in
/-- The inputs of which nothing is asked. -/
theorem lawM_out (p i t lo hi : Nat) (n : Int) (ao : Option Addr) (len cap : Nat) (w : World)
    (h : 1048576 < len ∨ 65536 < len ∨ n < 1 ∨ 65536 < n ∨ leqB lo hi = false) :
    Calls Try.prog 3 #[.float .f64 p, .float .f64 i, .float .f64 t, .float .f64 lo, .float .f64 hi, .int .i64 n, .slice ao len cap] w fun e w' => e = .returned (.bool true) ∧ Below w.heap.size w w' := by
  by_cases a1 : 1048576 < len
  · go_enter Try.func3, Try.ntmps3
    go_wp2_with (go_at_call 5; refine (bytes5_no _ _ _ _ _ _ _ _ _ _ a1).mono ?_; rintro e w' ⟨rfl, rfl⟩)
    go_ret
    exact ⟨rfl, Below.refl _ _⟩
  have a1' : len ≤ 1048576 := by omega
  by_cases a2 : 65536 < len
  · have a2' : (65536 : Int) < (len : Int) := by omega
    go_enter Try.func3, Try.ntmps3
    go_wp2_with (go_at_call 5; refine (bytes5 _ _ _ _ _ _ _ _ _ _ a1').mono ?_; rintro e w' ⟨rfl, rfl⟩)
    go_ret
    exact ⟨rfl, Below.refl _ _⟩
  have a2' : ¬ (65536 : Int) < (len : Int) := by omega
  by_cases a3 : n < 1
  · go_enter Try.func3, Try.ntmps3
    go_wp2_with (go_at_call 5; refine (bytes5 _ _ _ _ _ _ _ _ _ _ a1').mono ?_; rintro e w' ⟨rfl, rfl⟩)
    go_ret
    exact ⟨rfl, Below.refl _ _⟩
  by_cases a4 : 65536 < n
  · go_enter Try.func3, Try.ntmps3
    go_wp2_with (go_at_call 5; refine (bytes5 _ _ _ _ _ _ _ _ _ _ a1').mono ?_; rintro e w' ⟨rfl, rfl⟩)
    go_ret
    exact ⟨rfl, Below.refl _ _⟩
  have a5 : leqB lo hi = false := by
    rcases h with h | h | h | h | h
    · omega
    · omega
    · omega
    · omega
    · exact h
  have a5' : (FloatKind.f64.format.order lo hi == some Ordering.lt || FloatKind.f64.format.order lo hi == some Ordering.eq) = false := a5
  clear a5 h
  go_enter Try.func3, Try.ntmps3
  go_wp2_with (go_at_call 5; refine (bytes5 _ _ _ _ _ _ _ _ _ _ a1').mono ?_; rintro e w' ⟨rfl, rfl⟩)
  go_ret
  exact ⟨rfl, Below.refl _ _⟩

theorem within_bool {lo hi oa : Nat} (h : (ab oa).order (ab oa) = none ∨ (Le (ab lo) (ab oa) ∧ Le (ab oa) (ab hi))) :
    (FloatKind.f64.format.order oa oa == some Ordering.eq) = false ∨ ((FloatKind.f64.format.order oa oa == some Ordering.eq) = true ∧ (FloatKind.f64.format.order lo oa == some Ordering.lt || FloatKind.f64.format.order lo oa == some Ordering.eq) = true ∧ (FloatKind.f64.format.order oa hi == some Ordering.lt || FloatKind.f64.format.order oa hi == some Ordering.eq) = true) := by
  rw [order_ab, order_ab, order_ab]
  rcases order_self (ab oa) with h0 | h0
  · left; rw [h0]; rfl
  · right
    rcases h with h | ⟨h1, h2⟩
    · rw [h0] at h; cases h
    · refine ⟨by rw [h0]; rfl, ?_, ?_⟩
      · rcases h1 with h1 | h1 <;> rw [h1] <;> rfl
      · rcases h2 with h2 | h2 <;> rw [h2] <;> rfl

/-- The two controllers behind a step of both. -/
structure Pair (w4 : World) (b1 g1 b2 g2 n p i t lo hi lo' hi' q1 : Nat) (sa wa sb wb : Nat) (Ta Tb : Nat → Nat) : Prop where
  a : PI w4 b1 g1 n p i t lo hi (q1 % n) sa wa (q1 % n) Ta
  b : PI w4 b2 g2 n p i t lo' hi' (q1 % n) sb wb (q1 % n) Tb
  m : Mir n sa wa Ta sb wb Tb

theorem step_pair {w w' w3 w4 : World} {b1 g1 b2 g2 n p i t lo hi lo' hi' q kk pu sa wa sb wb e oa ob : Nat} {Ta Tb : Nat → Nat} (hn1 : 1 ≤ n) (hn : n ≤ 65536) (hkk : kk < n) (hpu : pu < n) (hqk : kk = q % n ∧ pu = q % n)
    (hd : b1 ≠ b2 ∧ b1 ≠ g2 ∧ g1 ≠ b2 ∧ g1 ≠ g2) (hle : Le (ab lo) (ab hi)) (hlo : ab lo' = ng (ab hi)) (hhi : ab hi' = ng (ab lo)) (hM : Mir n sa wa Ta sb wb Tb) (hF : q = 0 → ab sa = zer ∧ ab wa = zer)
    (hA : StepPost b1 g1 n p i t lo hi kk sa wa pu e Ta w (.returned (.float .f64 oa)) w3) (hB : StepPost b2 g2 n p i t lo' hi' kk sb wb pu (Op.negFloat .f64 e) Tb w3 (.returned (.float .f64 ob)) w4)
    (h1 : w'.heap.size ≤ b1) (h2 : w'.heap.size ≤ g1) (h3 : w'.heap.size ≤ b2) (h4 : w'.heap.size ≤ g2) (hbel : Below w'.heap.size w' w) :
    ab ob = ng (ab oa) ∧ ((ab oa).order (ab oa) = none ∨ (Le (ab lo) (ab oa) ∧ Le (ab oa) (ab hi))) ∧ (q = 0 → ab oa = clampD (addD (mulD (ab p) (ab e)) (mulD (ab i) (mulD (ab e) (ab t)))) (ab lo) (ab hi)) ∧
      (∃ sa' wa' sb' wb' Ta' Tb', Pair w4 b1 g1 b2 g2 n p i t lo hi lo' hi' (q + 1) sa' wa' sb' wb' Ta' Tb') ∧ Below w'.heap.size w' w4 := by
  obtain ⟨oa0, xa, sa', wa', resta, outa, x0a, pea, ea, hoa, hresta, hx0a, hpea, houta, hxa, hcasea, hOa⟩ := hA
  obtain rfl : oa = oa0 := by injection ea with ea; injection ea
  obtain ⟨ob0, xb, sb', wb', restb, outb, x0b, peb, eb, hob, hrestb, hx0b, hpeb, houtb, hxb, hcaseb, hOb⟩ := hB
  obtain rfl : ob = ob0 := by injection eb with eb; injection eb
  obtain ⟨m1, m2, m3⟩ := mir_calc hM (ab_neg e) hlo hhi hresta hrestb hx0a hx0b hpea hpeb houta houtb hxa hxb
  have hk1 : (kk + 1) % n = (q + 1) % n := by rw [hqk.1, Nat.mod_add_mod]
  have hp1 : (pu + 1) % n = (q + 1) % n := by rw [hqk.2, Nat.mod_add_mod]
  refine ⟨mir_out hle hlo hhi m2 hoa hob, out_within hle hoa, fun h0 => ?_, ?_, hOb.below (hOa.below hbel h1 h2) h3 h4⟩
  · obtain ⟨z1, z2⟩ := hF h0
    rw [hoa, res_clamp hle, first_out hn1 hn z1 z2 hresta houta, hpea, hx0a]
  · rcases hcasea with ⟨c1, c2, c3, c4⟩ | ⟨c1, c2, c3, c4⟩
    · rcases hcaseb with ⟨d1, d2, d3, d4⟩ | ⟨d1, d2, d3, d4⟩
      · have hp2 : pu + 1 = (q + 1) % n := by rw [← hp1, Nat.mod_eq_of_lt (by omega)]
        rw [hk1, hp2] at c2 d2
        exact ⟨sa', wa', sb', wb', _, _, ⟨c2.other hOb hd.1 hd.2.1 hd.2.2.1 hd.2.2.2, d2, mir_step hkk hM m1 m3 c3 c4 d3 d4⟩⟩
      · exact absurd d1 c1
    · rcases hcaseb with ⟨d1, d2, d3, d4⟩ | ⟨d1, d2, d3, d4⟩
      · exact absurd c1 d1
      · have hp2 : 0 = (q + 1) % n := by rw [← hp1, c1, Nat.mod_self]
        rw [hk1, hp2] at c2 d2
        have c2' : PI w3 b1 g1 n p i t lo hi ((q + 1) % n) sa' wa' ((q + 1) % n) _ := c2
        exact ⟨sa', wa', sb', wb', _, _, ⟨c2.other hOb hd.1 hd.2.1 hd.2.2.1 hd.2.2.2, d2, mir_resum hn1 hM m3 c3 c4 d3 d4⟩⟩

set_option maxHeartbeats 4000000 in
set_option maxRecDepth 100000 in
theorem lawM_in (p i t lo hi n : Nat) (ao : Option Addr) (len cap : Nat) (z : Nat → Nat) (w : World) (hr : ER w ao len z) (hl : len ≤ 65536) (hn1 : 1 ≤ n) (hn : n ≤ 65536) (h5 : leqB lo hi = true) :
    Calls Try.prog 3 #[.float .f64 p, .float .f64 i, .float .f64 t, .float .f64 lo, .float .f64 hi, .int .i64 n, .slice ao len cap] w fun e w' => e = .returned (.bool true) ∧ Below w.heap.size w w' := by
  have a1' : len ≤ 1048576 := by omega
  have a2' : ¬ (65536 : Int) < (len : Int) := by omega
  have a3 : ¬ (n : Int) < 1 := by omega
  have a4 : ¬ (65536 : Int) < (n : Int) := by omega
  have a5' : (FloatKind.f64.format.order lo hi == some Ordering.lt || FloatKind.f64.format.order lo hi == some Ordering.eq) = true := h5
  have HLE : Hid _ := le_of h5
  have HR : Hid _ := hr
  clear h5 hr
  go_enter Try.func3, Try.ntmps3
  go_wp2_with (go_at_call 5; refine (bytes5 _ _ _ _ _ _ _ _ _ _ a1').mono ?_; rintro e w' ⟨rfl, rfl⟩)
  refine (new_any p i t lo hi n hn hn1 _).mono ?_
  rintro e w1 ⟨b1, g1, rfl, hP, hbb1, hgg1, hB⟩
  have HP1 : Hid _ := hP
  have HB1 : Hid _ := hB
  clear hP hB
  go_wp2_with fail
  refine (new_any p i t (Op.negFloat .f64 hi) (Op.negFloat .f64 lo) n hn hn1 _).mono ?_
  rintro e w2 ⟨b2, g2, rfl, hP, hbb2, hgg2, hB⟩
  have HPa : Hid _ := HP1.out.below hB
  have HPb : Hid _ := hP
  have HB2 : Hid (Below w'.heap.size w' w2) := HB1.out.trans (hB.mono HB1.out.size)
  have d1 : b1 ≠ b2 := by have := HP1.out.bl; omega
  have d2 : b1 ≠ g2 := by have := HP1.out.bl; omega
  have d3 : g1 ≠ b2 := by have := HP1.out.gl; omega
  have d4 : g1 ≠ g2 := by have := HP1.out.gl; omega
  have hs1 := HB1.out.size
  have e1 : w'.heap.size ≤ b2 := by omega
  have e2 : w'.heap.size ≤ g2 := by omega
  have HD : Hid (b1 ≠ b2 ∧ b1 ≠ g2 ∧ g1 ≠ b2 ∧ g1 ≠ g2) := ⟨d1, d2, d3, d4⟩
  have HLO : Hid (ab (Op.negFloat .f64 hi) = ng (ab hi)) := ab_neg hi
  have HHI : Hid (ab (Op.negFloat .f64 lo) = ng (ab lo)) := ab_neg lo
  clear hP hB HP1 HB1 d1 d2 d3 d4 hbb2 hgg2 hs1 a5'
  generalize Op.negFloat .f64 hi = lo' at *
  generalize Op.negFloat .f64 lo = hi' at *
  go_wp2
  go_loopw [17, 18, 19, 20, 21, 22, 23] (fun j _ _ _ _ _ _ wr => ∃ (q kk pu sa wa sb wb : Nat) (Ta Tb : Nat → Nat), q ≤ len ∧ j = .int .i64 q ∧ kk < n ∧ pu < n ∧ Hid (kk = q % n ∧ pu = q % n) ∧ Hid (PI wr b1 g1 n p i t lo hi kk sa wa pu Ta) ∧ Hid (PI wr b2 g2 n p i t lo' hi' kk sb wb pu Tb) ∧ Hid (Mir n sa wa Ta sb wb Tb) ∧ Hid (q = 0 → ab sa = zer ∧ ab wa = zer) ∧ Hid (Below w'.heap.size w' wr)) (fun j _ _ _ _ _ _ _ => len - (intOf j).toNat)
  case atStart => exact ⟨0, 0, 0, 0, 0, 0, 0, fun _ => 0, fun _ => 0, Nat.zero_le _, rfl, by omega, by omega, ⟨by rw [Nat.zero_mod], by rw [Nat.zero_mod]⟩, HPa, HPb, mir_start n, fun _ => ⟨ab0, ab0⟩, HB2⟩
  case round =>
    obtain ⟨q, kk, pu, sa, wa, sb, wb, Ta, Tb, hq, rfl, hkk, hpu, hqk, hPa, hPb, hM, hF, hB⟩ := hrel
    clear HPa HPb HB2
    by_cases hlt : q < len
    · obtain ⟨eb, eo, rfl, heb, hc⟩ := (HR.out.below hB.out).at_ (by omega)
      have hcq := hc q hlt
      clear hc
      generalize z q = e at *
      go_wp2_with fail
      refine (step_any b1 g1 n p i t lo hi kk sa wa pu e Ta _ hn1 hn hkk hpu hPa.out).mono ?_
      rintro r w3 hA
      obtain ⟨oa, ro⟩ : ∃ oa, r = .returned (.float .f64 oa) := by obtain ⟨o, _, _, _, _, _, _, _, h, _⟩ := hA; exact ⟨o, h⟩
      subst ro
      have HA : Hid _ := hA
      have hPb3 : PI w3 b2 g2 n p i t lo' hi' kk sb wb pu Tb := by
        obtain ⟨_, _, _, _, _, _, _, _, _, _, _, _, _, _, _, _, hOa⟩ := hA
        exact hPb.out.other hOa HD.out.1.symm HD.out.2.2.1.symm HD.out.2.1.symm HD.out.2.2.2.symm
      have HPb3 : Hid _ := hPb3
      clear hA hPb3
      go_wp2_with fail
      refine (step_any b2 g2 n p i t lo' hi' kk sb wb pu (Op.negFloat .f64 e) Tb _ hn1 hn hkk hpu HPb3.out).mono ?_
      rintro r w4 hB4
      obtain ⟨ob, ro⟩ : ∃ ob, r = .returned (.float .f64 ob) := by obtain ⟨o, _, _, _, _, _, _, _, h, _⟩ := hB4; exact ⟨o, h⟩
      subst ro
      obtain ⟨k1, k2, k3, ⟨sa', wa', sb', wb', Ta', Tb', k4⟩, k5⟩ := step_pair hn1 hn hkk hpu hqk.out HD.out HLE.out HLO.out HHI.out hM.out hF.out HA.out hB4 hbb1 hgg1 e1 e2 hB.out
      have K3 : Hid _ := k3
      have K4 : Hid _ := k4
      have K5 : Hid _ := k5
      have hsame : Hid (ab ob = ab (Op.negFloat .f64 oa)) := by show ab ob = _; rw [ab_neg]; exact k1
      have hwi : (FloatKind.f64.format.order oa oa == some Ordering.eq) = false ∨ ((FloatKind.f64.format.order oa oa == some Ordering.eq) = true ∧ (FloatKind.f64.format.order lo oa == some Ordering.lt || FloatKind.f64.format.order lo oa == some Ordering.eq) = true ∧ (FloatKind.f64.format.order oa hi == some Ordering.lt || FloatKind.f64.format.order oa hi == some Ordering.eq) = true) := within_bool k2
      clear hB4 HA HPb3 k1 k2 k3 k4 k5 hPa hPb hM hF hB hqk hcq heb
      go_wp2_with fail
      refine (same_any _ _ hsame.out _).mono ?_
      rintro r w5 ⟨rfl, hw5⟩
      subst hw5
      clear hsame
      by_cases hq0 : q = 0
      · have hb0 : ((q : Int) == 0) = true := by rw [beq_iff_eq]; omega
        have K6 : Hid _ := K3.out hq0
        clear hq0 K3
        rcases hwi with x1 | ⟨x1, x2, x3⟩
        all_goals
          go_wp2_with fail
          refine (clamp_any _ _ _ _).mono ?_
          rintro r w6 ⟨want, rfl, hwant, hw6⟩
          have hsm : ab oa = ab want := by rw [hwant, K6.out, ab_add, ab_mul, ab_mul, ab_mul]
          have HSM : Hid _ := hsm
          clear hwant hsm K6
          subst hw6
          go_wp2_with fail
          refine (same_any _ _ HSM.out _).mono ?_
          rintro r w7 ⟨rfl, hw7⟩
          subst hw7
          go_wp2
          go_roundw
          case rel => exact ⟨q + 1, (q + 1) % n, (q + 1) % n, sa', wa', sb', wb', Ta', Tb', by omega, by go_num, Nat.mod_lt _ (by omega), Nat.mod_lt _ (by omega), ⟨rfl, rfl⟩, K4.out.a.drewN _, K4.out.b.drewN _, K4.out.m, fun h => by omega, K5.out.trans ⟨rfl, rfl, rfl, Nat.le_refl _, fun _ _ => rfl⟩⟩
          case measure => simp [intOf]; omega
      · have hb0 : ((q : Int) == 0) = false := by rw [beq_eq_false_iff_ne]; omega
        clear hq0 K3
        rcases hwi with x1 | ⟨x1, x2, x3⟩
        all_goals
          go_wp2
          go_roundw
          case rel => exact ⟨q + 1, (q + 1) % n, (q + 1) % n, sa', wa', sb', wb', Ta', Tb', by omega, by go_num, Nat.mod_lt _ (by omega), Nat.mod_lt _ (by omega), ⟨rfl, rfl⟩, K4.out.a, K4.out.b, K4.out.m, fun h => by omega, K5.out⟩
          case measure => simp [intOf]; omega
    · obtain rfl : q = len := by omega
      have hmm : (q : Int) % (n : Int) = (kk : Int) := by rw [hqk.out.1, Int.natCast_emod]
      obtain rfl : pu = kk := by rw [hqk.out.1, hqk.out.2]
      have HT : Hid (∀ j, j < n → ab (Tb j) = ab (Op.negFloat .f64 (Ta j))) := fun j hj => by rw [ab_neg]; exact hM.out.t j hj
      have HS : Hid (ab sb = ab (Op.negFloat .f64 sa)) := by show ab sb = _; rw [ab_neg]; exact hM.out.s
      have HW : Hid (ab wb = ab (Op.negFloat .f64 wa)) := by show ab wb = _; rw [ab_neg]; exact hM.out.w
      clear hqk hM hF
      go_wp2_with fail
      refine (next_any hPa.out).mono ?_
      rintro r v1 ⟨rfl, hv1⟩
      subst hv1
      go_wp2_with fail
      refine (next_any hPb.out).mono ?_
      rintro r v2 ⟨rfl, hv2⟩
      subst hv2
      go_wp2_with fail
      refine (pushed_any hPa.out).mono ?_
      rintro r v3 ⟨rfl, hv3⟩
      subst hv3
      go_wp2_with fail
      refine (pushed_any hPb.out).mono ?_
      rintro r v4 ⟨rfl, hv4⟩
      subst hv4
      go_wp2_with fail
      refine (sum_any hPb.out).mono ?_
      rintro r v5 ⟨rfl, hv5⟩
      subst hv5
      go_wp2_with fail
      refine (sum_any hPa.out).mono ?_
      rintro r v6 ⟨rfl, hv6⟩
      subst hv6
      go_wp2_with fail
      refine (same_any _ _ HS.out _).mono ?_
      rintro r v7 ⟨rfl, hv7⟩
      subst hv7
      go_wp2_with fail
      refine (weighted_any hPb.out).mono ?_
      rintro r v8 ⟨rfl, hv8⟩
      subst hv8
      go_wp2_with fail
      refine (weighted_any hPa.out).mono ?_
      rintro r v9 ⟨rfl, hv9⟩
      subst hv9
      go_wp2_with fail
      refine (same_any _ _ HW.out _).mono ?_
      rintro r v10 ⟨rfl, hv10⟩
      subst hv10
      go_wp2_with fail
      refine (terms_any hPa.out).mono ?_
      rintro r v11 ⟨rfl, hv11⟩
      subst hv11
      go_wp2_with fail
      refine (terms_any hPb.out).mono ?_
      rintro r v12 ⟨rfl, hv12⟩
      subst hv12
      go_wp2_with fail
      go_loopw [27] (fun j wr => ∃ m : Nat, m ≤ n ∧ j = .int .i64 m ∧ Hid (PI wr b1 g1 n p i t lo hi pu sa wa pu Ta) ∧ Hid (PI wr b2 g2 n p i t lo' hi' pu sb wb pu Tb) ∧ Hid (Below w'.heap.size w' wr)) (fun j _ => n - (intOf j).toNat)
      case atStart => exact ⟨0, Nat.zero_le _, rfl, hPa, hPb, hB⟩
      case round =>
        clear hPa hPb hB
        obtain ⟨m, hm, rfl, hPa, hPb, hB⟩ := hrel
        by_cases hlt3 : m < n
        · have hca := hPa.out.tc m hlt3
          have hcb := hPb.out.tc m hlt3
          have HTm : Hid _ := HT.out m hlt3
          generalize Ta m = xa at *
          generalize Tb m = xb at *
          go_wp2
          go_quiet ((go_at_call 8; exact Calls.quiet_of_same (same_any _ _ HTm.out _)))
          go_wp2
          go_roundw
          case rel => exact ⟨m + 1, by omega, by go_num, hPa.out.drewN _, hPb.out.drewN _, hB.out.trans ⟨rfl, rfl, rfl, Nat.le_refl _, fun _ _ => rfl⟩⟩
          case measure => simp [intOf]; omega
        · go_wp2
          go_ret
          exact ⟨rfl, hB.out⟩

/-- The law, at every input. -/
theorem lawM_any (p i t lo hi : Nat) (n : Int) (ao : Option Addr) (len cap : Nat) (z : Nat → Nat) (w : World) (hr : ER w ao len z) :
    Calls Try.prog 3 #[.float .f64 p, .float .f64 i, .float .f64 t, .float .f64 lo, .float .f64 hi, .int .i64 n, .slice ao len cap] w fun e w' => e = .returned (.bool true) ∧ Below w.heap.size w w' := by
  by_cases h : 1048576 < len ∨ 65536 < len ∨ n < 1 ∨ 65536 < n ∨ leqB lo hi = false
  · exact lawM_out p i t lo hi n ao len cap w h
  · have h5 : leqB lo hi = true := by cases e : leqB lo hi with | true => rfl | false => exact absurd (.inr (.inr (.inr (.inr e)))) h
    have hn1 : ¬ n < 1 := fun e => h (.inr (.inr (.inl e)))
    have hn2 : ¬ 65536 < n := fun e => h (.inr (.inr (.inr (.inl e))))
    have hl : ¬ 65536 < len := fun e => h (.inr (.inl e))
    obtain ⟨N, rfl⟩ := Int.eq_ofNat_of_zero_le (show 0 ≤ n by omega)
    exact lawM_in p i t lo hi N ao len cap z w hr (by omega) (by omega) (by omega) h5
end Go.Proofs.Qxb6627656a
