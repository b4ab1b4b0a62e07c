/-
  The walk of FnStridesAreUnitsAndFollowEuclid.
-/
import Derived.Test.Qxb6627618aPrimes
import Derived.Test.Qxb6627618aUnits
namespace Go.Proofs.Qxb6627618a
open Go.RowKit
set_option linter.unusedSimpArgs false
set_option linter.unusedVariables false

/-- Too large a number: nothing is asked. -/
theorem lawA_big (n s : Int) (h : 65536 < n ∨ 65536 < s) (w : World) :
    Calls Try.prog 3 #[.int .i64 n, .int .i64 s] w fun e w' => e = .returned (.bool true) ∧ Below w.heap.size w w' := by
  have h3 : 65536 < n ∨ (¬ 65536 < n ∧ 65536 < s) := by omega
  clear h
  rcases h3 with h | ⟨h, h'⟩
  all_goals
    go_enter Try.func3, Try.ntmps3
    go_wp2
    go_ret
    exact ⟨rfl, Below.refl _ _⟩

theorem lawA_neg (n s : Int) (hn : n ≤ 0) (hs : s ≤ 65536) (w : World) :
    Calls Try.prog 3 #[.int .i64 n, .int .i64 s] w fun e w' => e = .returned (.bool true) ∧ Below w.heap.size w w' := by
  have h1 : ¬ 65536 < n := by omega
  have h2 : ¬ 65536 < s := by omega
  go_enter Try.func3, Try.ntmps3
  go_wp2_with fail
  refine (zzorder_neg n hn _).mono ?_
  rintro e w1 ⟨rfl, hb⟩
  go_wp2
  go_ret
  exact ⟨rfl, hb⟩

set_option maxHeartbeats 2000000 in
theorem lawA_pos (N : Nat) (s : Int) (hN1 : 1 ≤ N) (hN : N ≤ 65536) (hs : s ≤ 65536) (w : World) :
    Calls Try.prog 3 #[.int .i64 N, .int .i64 s] w fun e w' => e = .returned (.bool true) ∧ Below w.heap.size w w' := by
  have h1 : ¬ 65536 < (N : Int) := by omega
  have h2 : ¬ 65536 < s := by omega
  have h3 : ¬ (N : Int) ≤ 0 := by omega
  go_enter Try.func3, Try.ntmps3
  go_wp2_with fail
  refine (zzorder_nat N hN _).mono ?_
  rintro e w1 ⟨ao1, cap1, rfl, hrow1, hb1⟩
  have HR1 : Hid _ := hrow1
  have HB1 : Hid _ := hb1
  clear hrow1 hb1
  go_wp2_with fail
  refine (primes_any N hN1 hN _).mono ?_
  rintro e w2 ⟨ps, ao2, cap2, rfl, hpf, hpl, hrow2, hb2⟩
  have HR1' : Hid _ := HR1.out.below hb2
  have HR2 : Hid _ := hrow2
  have HB2 : Hid (Below w.heap.size w w2) := HB1.out.trans (hb2.mono HB1.out.size)
  have HPF : Hid _ := hpf
  have hsl := str_length_le N N
  have hsl' : (Stl.strides N).length ≤ 65536 := by have : (Stl.strides N).length = (Stl.str N N).length := rfl; omega
  clear hrow2 hb2 hpf HR1 HB1 hsl
  go_wp2
  go_loop [8, 10, 43] (fun f _ i => ∃ k ph : Nat, k ≤ ps.length ∧ ph ≤ 65536 ∧ i = .int .i64 k ∧ f = .int .i64 ph ∧ Hid (ph = Stl.eul N (ps.take k))) (fun _ _ i => ps.length - (intOf i).toNat)
  case atStart => exact ⟨0, N, Nat.zero_le _, hN, rfl, rfl, rfl⟩
  case round =>
    obtain ⟨k, ph, hk, hph, rfl, rfl, hE⟩ := hrel
    by_cases hlt : k < ps.length
    · obtain ⟨g, rfl, hg1, hg2, hc⟩ := HR2.out.at_ (by intro h; rw [h] at hlt; simp at hlt)
      have hck := hc k hlt
      have hpm := getD_mem hlt
      have hp2 := (HPF.out.1.1 _ hpm).1
      have hpN := Nat.le_of_dvd hN1 (HPF.out.1.2.2 _ hpm)
      have hE' := eul_take_succ N ps k hlt
      rw [← hE.out] at hE'
      clear hc hpm
      generalize ps.getD k 0 = p at *
      have hst := step_int ph p (by omega)
      have hsl2 := step_le ph p
      have hx0 : (0 : Int) ≤ (ph : Int) / (p : Int) * ((p : Int) - 1) := by rw [hst]; exact Int.natCast_nonneg _
      have hx1 : (ph : Int) / (p : Int) * ((p : Int) - 1) ≤ 65536 := by rw [hst]; omega
      have hqe : ((ph / p : Nat) : Int) = (ph : Int) / (p : Int) := Int.natCast_ediv ph p
      have hq0 : (0 : Int) ≤ (ph : Int) / (p : Int) := by rw [← hqe]; exact Int.natCast_nonneg _
      have hq1 : (ph : Int) / (p : Int) ≤ 65536 := by have := Nat.div_le_self ph p; omega
      have HE' : Hid _ := hE'
      have HST : Hid _ := hst
      clear hE' hst hqe
      go_wp2
      go_round
      case rel => exact ⟨k + 1, ph / p * (p - 1), by omega, by omega, by go_num, by rw [HST.out], HE'.out.symm⟩
      case measure => simp [intOf]; omega
    · obtain rfl : k = ps.length := by omega
      obtain rfl : ph = (Stl.strides N).length := by
        rw [hE.out, List.take_length]; exact Stl.euler HPF.out hN1
      clear hlt hk hE hph
      go_wp2
      go_loop [11, 13, 60] (fun f _ i => ∃ k pv : Nat, k ≤ (Stl.strides N).length ∧ pv ≤ 65536 ∧ i = .int .i64 k ∧ f = .int .i64 pv ∧ Hid (∀ j, k ≤ j → j < (Stl.strides N).length → pv < (Stl.strides N).getD j 0)) (fun _ _ i => (Stl.strides N).length - (intOf i).toNat)
      case atStart => exact ⟨0, 0, Nat.zero_le _, by omega, rfl, rfl, fun j h h' => (Stl.strides_mem.1 (getD_mem h')).1⟩
      case round =>
        obtain ⟨k, pv, hk, hpv, rfl, rfl, hS⟩ := hrel
        by_cases hlt : k < (Stl.strides N).length
        · obtain ⟨g, rfl, hg1, hg2, hc⟩ := HR1'.out.at_ (by intro h; rw [h] at hlt; simp at hlt)
          have hck := hc k hlt
          have hxm := getD_mem hlt
          have hx1 := Stl.strides_mem.1 hxm
          have hx2 := hS.out k (Nat.le_refl _) hlt
          have hS' : Hid (∀ j, k + 1 ≤ j → j < (Stl.strides N).length → (Stl.strides N).getD k 0 < (Stl.strides N).getD j 0) := fun j h h' => strides_lt (by omega) h'
          have hxN : (Stl.strides N).getD k 0 ≤ N := hx1.2.1
          have HXM : Hid _ := hxm
          clear hc hxm hx1
          generalize (Stl.strides N).getD k 0 = x at *
          have t1 : ¬ (x : Int) ≤ (pv : Int) := by omega
          have t2 : ¬ (N : Int) < (x : Int) := by omega
          go_wp2
          go_loop [15, 74] (fun _ i => ∃ k2 : Nat, k2 ≤ ps.length ∧ i = .int .i64 k2) (fun _ i => ps.length - (intOf i).toNat)
          case atStart => exact ⟨0, Nat.zero_le _, rfl⟩
          case round =>
            obtain ⟨k2, hk2, rfl⟩ := hrel
            by_cases hlt2 : k2 < ps.length
            · obtain ⟨g2, rfl, hgg1, hgg2, hc2⟩ := HR2.out.at_ (by intro h; rw [h] at hlt2; simp at hlt2)
              have hck2 := hc2 k2 hlt2
              have hpm := getD_mem hlt2
              have hp2 := (HPF.out.1.1 _ hpm).1
              have hpN := Nat.le_of_dvd hN1 (HPF.out.1.2.2 _ hpm)
              have hnp := no_prime HPF.out hN1 HXM.out hpm
              clear hc2 hpm
              generalize ps.getD k2 0 = p at *
              have hb : ((x : Int) % (p : Int) == 0) = false := by
                have : ((x % p : Nat) : Int) ≠ 0 := by omega
                rw [Int.natCast_emod] at this; simpa using this
              clear hnp
              go_wp2
              go_round
              case rel => exact ⟨k2 + 1, by omega, by go_num⟩
              case measure => simp [intOf]; omega
            · go_wp2
              go_round
              case rel => exact ⟨k + 1, x, by omega, by omega, by go_num, rfl, hS'⟩
              case measure => simp [intOf]; omega
        · clear hS
          by_cases hs1 : (1 : Int) ≤ s
          · by_cases hsn : s ≤ (N : Int)
            · obtain ⟨S, rfl⟩ := Int.eq_ofNat_of_zero_le (show 0 ≤ s by omega)
              have hS1 : 1 ≤ S := by omega
              have hSN : S ≤ N := by omega
              have hSl := str_length_le S S
              have hSl' : (Stl.strides S).length ≤ 65536 := by have : (Stl.strides S).length = (Stl.str S S).length := rfl; omega
              clear hSl
              by_cases h0 : N % S = 0
              · have hb : ((N : Int) % (S : Int) == 0) = true := by
                  have : ((N % S : Nat) : Int) = 0 := by omega
                  rw [Int.natCast_emod] at this; rw [this]; rfl
                have heq := euclid N S hS1 hSN S (by rw [if_pos h0])
                clear h0
                go_wp2_with fail
                refine (zzorder_nat S (by omega) _).mono ?_
                rintro e w3 ⟨ao3, cap3, rfl, hrow3, hb3⟩
                have HR3 : Hid _ := hrow3
                have HR4 : Hid _ := HR1'.out.below hb3
                have HB3 : Hid (Below w.heap.size w w3) := HB2.out.trans (hb3.mono HB2.out.size)
                clear hrow3 hb3
                go_wp2_with fail
                refine (has_any _ _ _ _ _ _ hsl' HR4.out).mono ?_
                rintro e w4 ⟨rfl, rfl⟩
                go_wp2_with fail
                refine (has_any _ _ _ _ _ _ hSl' HR3.out).mono ?_
                rintro e w5 ⟨rfl, rfl⟩
                go_wp2
                go_ret
                exact ⟨rfl, HB3.out⟩
              · have hb : ((N : Int) % (S : Int) == 0) = false := by
                  have : ((N % S : Nat) : Int) ≠ 0 := by omega
                  rw [Int.natCast_emod] at this; simpa using this
                have heq := euclid N S hS1 hSN (N % S) (by rw [if_neg h0])
                rw [Int.natCast_emod] at heq
                clear h0
                go_wp2_with fail
                refine (zzorder_nat S (by omega) _).mono ?_
                rintro e w3 ⟨ao3, cap3, rfl, hrow3, hb3⟩
                have HR3 : Hid _ := hrow3
                have HR4 : Hid _ := HR1'.out.below hb3
                have HB3 : Hid (Below w.heap.size w w3) := HB2.out.trans (hb3.mono HB2.out.size)
                clear hrow3 hb3
                go_wp2_with fail
                refine (has_any _ _ _ _ _ _ hsl' HR4.out).mono ?_
                rintro e w4 ⟨rfl, rfl⟩
                go_wp2_with fail
                refine (has_any _ _ _ _ _ _ hSl' HR3.out).mono ?_
                rintro e w5 ⟨rfl, rfl⟩
                go_wp2
                go_ret
                exact ⟨rfl, HB3.out⟩
            · go_wp2
              go_ret
              exact ⟨rfl, HB2.out⟩
          · go_wp2
            go_ret
            exact ⟨rfl, HB2.out⟩
/-- The law, at every input. -/
theorem lawA_any (n s : Int) (w : World) :
    Calls Try.prog 3 #[.int .i64 n, .int .i64 s] w fun e w' => e = .returned (.bool true) ∧ Below w.heap.size w w' := by
  by_cases hbig : 65536 < n ∨ 65536 < s
  · exact lawA_big n s hbig w
  · by_cases hn : n ≤ 0
    · exact lawA_neg n s hn (by omega) w
    · obtain ⟨N, rfl⟩ := Int.eq_ofNat_of_zero_le (show 0 ≤ n by omega)
      exact lawA_pos N s (by omega) (by omega) (by omega) w
end Go.Proofs.Qxb6627618a
