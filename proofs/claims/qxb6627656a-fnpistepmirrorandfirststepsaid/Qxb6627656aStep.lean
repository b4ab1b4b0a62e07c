/-
  The contract of (*PI).Step.
-/
import Derived.Test.Qxb6627656aResum
import Derived.Deep.CutBlock
import Derived.BigRegion
namespace Go.Proofs.Qxb6627656a
open Go.RowKit Fl
set_option linter.unusedSimpArgs false
set_option linter.unusedVariables false
attribute [local go_sem] run_fl_add run_fl_sub run_fl_mul run_fl_quo run_max_fl run_min_fl run_store_float

def restD (s wt fn : Ieee.Datum) : Ieee.Datum := subD wt (divD s fn)
def outD (p i t e rest : Ieee.Datum) : Ieee.Datum := addD (mulD p e) (mulD i (addD rest (mulD e t)))
/-- The term that is kept: cut to what holds the output at a bound ('iq': the gain's own datum). -/
def termB (o x p r lo hi iq : Ieee.Datum) : Ieee.Datum :=
  if (o.order hi == some .gt && x.order zer == some .gt) = true then maxD zer (subD (divD (subD hi p) iq) r)
  else if (o.order lo == some .lt && x.order zer == some .lt) = true then minD zer (subD (divD (subD lo p) iq) r)
  else x
def resD (lo hi out : Ieee.Datum) : Ieee.Datum := minD (maxD out lo) hi

theorem ab0 : ab 0 = zer := by decide

theorem term_hi {out x0 pe rest lo hi i : Nat} (h1 : (FloatKind.f64.format.order out hi == some Ordering.gt) = true) (h2 : (FloatKind.f64.format.order x0 0 == some Ordering.gt) = true) :
    termB (ab out) (ab x0) (ab pe) (ab rest) (ab lo) (ab hi) (Ieee.double.read i) = maxD (ab 0) (subD (divD (subD (ab hi) (ab pe)) (Ieee.double.read i)) (ab rest)) := by
  rw [order_ab] at h1 h2
  unfold termB
  rw [ab0] at h2 ⊢
  rw [if_pos (by rw [h1, h2]; rfl)]
theorem term_lo {out x0 pe rest lo hi i : Nat} (h1 : (FloatKind.f64.format.order out hi == some Ordering.gt) = false ∨ (FloatKind.f64.format.order x0 0 == some Ordering.gt) = false) (h3 : (FloatKind.f64.format.order out lo == some Ordering.lt) = true) (h4 : (FloatKind.f64.format.order x0 0 == some Ordering.lt) = true) :
    termB (ab out) (ab x0) (ab pe) (ab rest) (ab lo) (ab hi) (Ieee.double.read i) = minD (ab 0) (subD (divD (subD (ab lo) (ab pe)) (Ieee.double.read i)) (ab rest)) := by
  rw [order_ab, order_ab] at h1
  rw [order_ab] at h3 h4
  unfold termB
  rw [ab0] at h1 h4 ⊢
  rw [if_neg (by rcases h1 with h | h <;> rw [h] <;> simp), if_pos (by rw [h3, h4]; rfl)]
theorem term_no {out x0 pe rest lo hi i : Nat} (h1 : (FloatKind.f64.format.order out hi == some Ordering.gt) = false ∨ (FloatKind.f64.format.order x0 0 == some Ordering.gt) = false) (h3 : (FloatKind.f64.format.order out lo == some Ordering.lt) = false ∨ (FloatKind.f64.format.order x0 0 == some Ordering.lt) = false) :
    termB (ab out) (ab x0) (ab pe) (ab rest) (ab lo) (ab hi) (Ieee.double.read i) = ab x0 := by
  rw [order_ab, order_ab] at h1 h3
  unfold termB
  rw [ab0] at h1 h3
  rw [if_neg (by rcases h1 with h | h <;> rw [h] <;> simp), if_neg (by rcases h3 with h | h <;> rw [h] <;> simp)]

/-- What Step leaves. -/
def StepPost (b g n p i t lo hi k s wt pu e : Nat) (T : Nat → Nat) (w : World) (z : Ending) (w' : World) : Prop :=
  ∃ o x s' wt' rest out x0 pe, z = .returned (.float .f64 o) ∧ ab o = resD (ab lo) (ab hi) (ab out) ∧
    ab rest = restD (ab s) (ab wt) (Ieee.double.read (floatOfInt .f64 (n : Int))) ∧ ab x0 = mulD (ab e) (ab t) ∧ ab pe = mulD (ab p) (ab e) ∧
    ab out = addD (ab pe) (mulD (ab i) (addD (ab rest) (ab x0))) ∧ ab x = termB (ab out) (ab x0) (ab pe) (ab rest) (ab lo) (ab hi) (Ieee.double.read i) ∧
    ((pu + 1 ≠ n ∧ PI w' b g n p i t lo hi ((k + 1) % n) s' wt' (pu + 1) (fun j => if j = k then x else T j) ∧ ab s' = addD (ab s) (subD (ab x) (ab (T k))) ∧ ab wt' = addD (ab rest) (ab x)) ∨
     (pu + 1 = n ∧ PI w' b g n p i t lo hi ((k + 1) % n) s' wt' 0 (fun j => if j = k then x else T j) ∧ ab s' = rsD n ((k + 1) % n) (fun j => ab (if j = k then x else T j)) n ∧ ab wt' = rwD n ((k + 1) % n) (fun j => ab (if j = k then x else T j)) n)) ∧ Only b g w w'

set_option maxHeartbeats 4000000 in
set_option maxRecDepth 100000 in
theorem step_any (b g n p i t lo hi k s wt pu e : Nat) (T : Nat → Nat) (w : World) (hn1 : 1 ≤ n) (hn : n ≤ 65536) (hk : k < n) (hpu : pu < n) (h : PI w b g n p i t lo hi k s wt pu T) :
    Calls Try.prog 7 #[.pointer (some ⟨b, 0, none⟩), .float .f64 e] w fun z w' => StepPost b g n p i t lo hi k s wt pu e T w z w' := by
  have hc0 := h.c0
  have hc1 := h.c1
  have hc2 := h.c2
  have hc3 := h.c3
  have hc4 := h.c4
  have hc5 := h.c5
  have hc6 := h.c6
  have hc7 := h.c7
  have hc8 := h.c8
  have htk := h.tc k hk
  have HP : Hid _ := h
  clear h
  go_enter Try.func7, Try.ntmps7
  go_wp2
  go_cut [6] from 17 to 27 (fun v w' => ∃ r d, v = .float .f64 r ∧ Hid (ab r = restD (ab s) (ab wt) (Ieee.double.read (floatOfInt .f64 (n : Int)))) ∧ w' = w.drewN d)
  case first =>
    go_region
    go_wp2_with fail
    go_meet
    case rel => exact ⟨_, _, rfl, by show ab _ = _; rw [ab_sub, ab_quo]; rfl, rfl⟩
  case rest =>
    obtain ⟨rest, d1, rfl, hrest, rfl⟩ := hcut
    go_wp2
    go_quiet (fail)
    go_upto_region 4 with fail
    go_cut [8] from 38 to 43 (fun v w' => ∃ x d, v = .float .f64 x ∧ Hid (ab x = mulD (ab e) (ab t)) ∧ w' = w.drewN d)
    case first =>
      go_wp2_with fail
      go_meet
      case rel => exact ⟨_, _, rfl, by show ab _ = _; rw [ab_mul], rfl⟩
    case rest =>
      obtain ⟨x0, d2, rfl, hx0, rfl⟩ := hcut
      go_upto_region 5 with fail
      go_cut [9] from 44 to 49 (fun v w' => ∃ x d, v = .float .f64 x ∧ Hid (ab x = mulD (ab p) (ab e)) ∧ w' = w.drewN d)
      case first =>
        go_wp2_with fail
        go_meet
        case rel => exact ⟨_, _, rfl, by show ab _ = _; rw [ab_mul], rfl⟩
      case rest =>
        obtain ⟨pe, d3, rfl, hpe, rfl⟩ := hcut
        go_upto_region 6 with fail
        go_cut [10] from 50 to 59 (fun v w' => ∃ x d, v = .float .f64 x ∧ Hid (ab x = addD (ab pe) (mulD (ab i) (addD (ab rest) (ab x0)))) ∧ w' = w.drewN d)
        case first =>
          go_wp2_with fail
          go_meet
          case rel => exact ⟨_, _, rfl, by show ab _ = _; rw [ab_add, ab_mul, ab_add], rfl⟩
        case rest =>
          obtain ⟨out, d4, rfl, hout, rfl⟩ := hcut
          go_upto_block 0 with fail
          go_cut [8] from 60 to 109 (fun v w' => ∃ x d, v = .float .f64 x ∧ Hid (ab x = termB (ab out) (ab x0) (ab pe) (ab rest) (ab lo) (ab hi) (Ieee.double.read i)) ∧ w' = w.drewN d)
          case first =>
            cases b1 : (FloatKind.f64.format.order out hi == some Ordering.gt)
            case true =>
              cases b2 : (FloatKind.f64.format.order x0 0 == some Ordering.gt)
              case true =>
                have hT : Hid _ := term_hi (out := out) (x0 := x0) (hi := hi) (pe := pe) (rest := rest) (lo := lo) (i := i) b1 b2
                go_wp2_with fail
                go_region
                go_wp2_with fail
                go_meet
                case rel => exact ⟨_, _, rfl, by show ab _ = _; rw [hT.out, ab_max, ab_sub, ab_quo, ab_sub], rfl⟩
              case false =>
                cases b3 : (FloatKind.f64.format.order out lo == some Ordering.lt)
                case false =>
                  have hT : Hid _ := term_no (out := out) (x0 := x0) (lo := lo) (hi := hi) (pe := pe) (rest := rest) (i := i) (.inr b2) (.inl b3)
                  go_wp2_with fail
                  go_meet
                  case rel => exact ⟨_, _, rfl, by show ab _ = _; rw [hT.out], rfl⟩
                case true =>
                  cases b4 : (FloatKind.f64.format.order x0 0 == some Ordering.lt)
                  case false =>
                    have hT : Hid _ := term_no (out := out) (x0 := x0) (lo := lo) (hi := hi) (pe := pe) (rest := rest) (i := i) (.inr b2) (.inr b4)
                    go_wp2_with fail
                    go_meet
                    case rel => exact ⟨_, _, rfl, by show ab _ = _; rw [hT.out], rfl⟩
                  case true =>
                    have hT : Hid _ := term_lo (out := out) (x0 := x0) (lo := lo) (hi := hi) (pe := pe) (rest := rest) (i := i) (.inr b2) b3 b4
                    go_wp2_with fail
                    go_region
                    go_wp2_with fail
                    go_meet
                    case rel => exact ⟨_, _, rfl, by show ab _ = _; rw [hT.out, ab_min, ab_sub, ab_quo, ab_sub], rfl⟩
            case false =>
              cases b3 : (FloatKind.f64.format.order out lo == some Ordering.lt)
              case false =>
                have hT : Hid _ := term_no (out := out) (x0 := x0) (lo := lo) (hi := hi) (pe := pe) (rest := rest) (i := i) (.inl b1) (.inl b3)
                go_wp2_with fail
                go_meet
                case rel => exact ⟨_, _, rfl, by show ab _ = _; rw [hT.out], rfl⟩
              case true =>
                cases b4 : (FloatKind.f64.format.order x0 0 == some Ordering.lt)
                case false =>
                  have hT : Hid _ := term_no (out := out) (x0 := x0) (lo := lo) (hi := hi) (pe := pe) (rest := rest) (i := i) (.inl b1) (.inr b4)
                  go_wp2_with fail
                  go_meet
                  case rel => exact ⟨_, _, rfl, by show ab _ = _; rw [hT.out], rfl⟩
                case true =>
                  have hT : Hid _ := term_lo (out := out) (x0 := x0) (lo := lo) (hi := hi) (pe := pe) (rest := rest) (i := i) (.inl b1) b3 b4
                  go_wp2_with fail
                  go_region
                  go_wp2_with fail
                  go_meet
                  case rel => exact ⟨_, _, rfl, by show ab _ = _; rw [hT.out, ab_min, ab_sub, ab_quo, ab_sub], rfl⟩
          case rest =>
            obtain ⟨x, d5, rfl, hx, rfl⟩ := hcut
            have htf := HP.out.tf k hk
            go_upto_region 11 with fail
            go_cut [4] from 110 to 119 (fun v w' => v = .float .f64 0 ∧ Hid (PI w' b g n p i t lo hi k s wt pu (fun j => if j = k then x else T j)) ∧ Hid (Only b g w w'))
            case first =>
              go_region
              go_wp2_with fail
              go_meet
              case rel => exact ⟨rfl, (HP.out.drewN _).setT hk x, ((Only.refl b g w).drewN _).setG k _⟩
            case rest =>
              clear hc0 hc1 hc2 hc3 hc4 hc5 hc6 hc7 hc8 htk htf HP
              obtain ⟨rfl, HP, HO⟩ := hcut
              have hc5 := HP.out.c5
              have hc6 := HP.out.c6
              have hf6 := HP.out.f6
              have hkn : ((k : Int) + 1) % (n : Int) = (((k + 1) % n : Nat) : Int) := by rw [Int.natCast_emod]; rfl
              have hkm := Nat.mod_lt (k + 1) (show 0 < n by omega)
              generalize hk1 : (k + 1) % n = k1 at *
              have HK1 : Hid _ := hk1
              clear hk1
              go_upto_region 12 with fail
              go_cut [4] from 120 to 133 (fun v w' => v = .float .f64 0 ∧ Hid (PI w' b g n p i t lo hi k1 s wt pu (fun j => if j = k then x else T j)) ∧ Hid (Only b g w w'))
              case first =>
                go_region
                go_wp2_with fail
                go_meet
                case rel => exact ⟨rfl, (HP.out.drewN _).set6 k1, (HO.out.drewN _).setB 6 _⟩
              case rest =>
                clear hc5 hc6 hf6 HP HO hkn
                obtain ⟨rfl, HP, HO⟩ := hcut
                have hc7 := HP.out.c7
                have hf7 := HP.out.f7
                go_upto_region 13 with fail
                go_cut [4] from 134 to 143 (fun v w' => ∃ s', v = .float .f64 0 ∧ Hid (ab s' = addD (ab s) (subD (ab x) (ab (T k)))) ∧ Hid (PI w' b g n p i t lo hi k1 s' wt pu (fun j => if j = k then x else T j)) ∧ Hid (Only b g w w'))
                case first =>
                  go_wp2_with fail
                  go_meet
                  case rel => exact ⟨_, rfl, by show ab _ = _; rw [ab_add, ab_sub], (HP.out.drewN _).set7 _, (HO.out.drewN _).setB 7 _⟩
                case rest =>
                  clear hc7 hf7 HP HO
                  obtain ⟨s', rfl, hs', HP, HO⟩ := hcut
                  have hc8 := HP.out.c8
                  have hf8 := HP.out.f8
                  go_upto_region 14 with fail
                  go_cut [4] from 144 to 149 (fun v w' => ∃ wt', v = .float .f64 0 ∧ Hid (ab wt' = addD (ab rest) (ab x)) ∧ Hid (PI w' b g n p i t lo hi k1 s' wt' pu (fun j => if j = k then x else T j)) ∧ Hid (Only b g w w'))
                  case first =>
                    go_wp2_with fail
                    go_meet
                    case rel => exact ⟨_, rfl, by show ab _ = _; rw [ab_add], (HP.out.drewN _).set8 _, (HO.out.drewN _).setB 8 _⟩
                  case rest =>
                    clear hc8 hf8 HP HO
                    obtain ⟨wt', rfl, hwt', HP, HO⟩ := hcut
                    have hc9 := HP.out.c9
                    have hf9 := HP.out.f9
                    go_upto_region 15 with fail
                    go_cut [4] from 150 to 156 (fun v w' => v = .float .f64 0 ∧ Hid (PI w' b g n p i t lo hi k1 s' wt' (pu + 1) (fun j => if j = k then x else T j)) ∧ Hid (Only b g w w'))
                    case first =>
                      go_wp2_with fail
                      go_meet
                      case rel => exact ⟨rfl, HP.out.set9 (pu + 1), HO.out.setB 9 _⟩
                    case rest =>
                      clear hc9 hf9 HP HO
                      obtain ⟨rfl, HP, HO⟩ := hcut
                      have hc9 := HP.out.c9
                      have hc5 := HP.out.c5
                      by_cases hpn : pu + 1 = n
                      · have hbn : ((pu : Int) + 1 == (n : Int)) = true := by rw [beq_iff_eq]; omega
                        have HPN : Hid _ := hpn
                        clear hpn
                        go_upto_region 16 with fail
                        go_quiet (fail)
                        go_wp2_with fail
                        refine (resum_any b g n p i t lo hi k1 s' wt' (pu + 1) (fun j => if j = k then x else T j) _ hn1 hn hkm (HP.out.drewN _)).mono ?_
                        rintro z w2 ⟨s2, wt2, rfl, hP2, hs2, hw2, hO2⟩
                        have HP2 : Hid _ := hP2
                        have HO2 : Hid (Only b g w w2) := (HO.out.drewN nq).trans hO2
                        have HS2 : Hid _ := hs2
                        have HW2 : Hid _ := hw2
                        have hc3 := hP2.c3
                        have hc4 := hP2.c4
                        clear hP2 hs2 hw2 hO2 HP HO hc9 hc5
                        go_wp2_with fail
                        go_region
                        go_wp2
                        go_ret
                        refine ⟨_, x, s2, wt2, rest, out, x0, pe, rfl, ?_, hrest.out, hx0.out, hpe.out, hout.out, hx.out, .inr ⟨HPN.out, ?_, ?_, ?_⟩, HO2.out.drewN _⟩
                        · rw [ab_min, ab_max]; rfl
                        · rw [HK1.out]; exact HP2.out.drewN _
                        · rw [HK1.out]; exact HS2.out
                        · rw [HK1.out]; exact HW2.out
                      · have hbn : ((pu : Int) + 1 == (n : Int)) = false := by rw [beq_eq_false_iff_ne]; omega
                        have HPN : Hid _ := hpn
                        clear hpn
                        go_upto_region 16 with fail
                        go_quiet (fail)
                        go_wp2_with fail
                        have hc3 := HP.out.c3
                        have hc4 := HP.out.c4
                        go_region
                        go_wp2
                        go_ret
                        refine ⟨_, x, s', wt', rest, out, x0, pe, rfl, ?_, hrest.out, hx0.out, hpe.out, hout.out, hx.out, .inl ⟨HPN.out, ?_, hs'.out, hwt'.out⟩, HO.out.drewN _⟩
                        · rw [ab_min, ab_max]; rfl
                        · rw [HK1.out]; exact HP.out.drewN _
end Go.Proofs.Qxb6627656a
