/-
  The contract of (*PI).resum.
-/
import Derived.Test.Qxb6627656aSmall
namespace Go.Proofs.Qxb6627656a
open Go.RowKit Fl
set_option linter.unusedSimpArgs false
set_option linter.unusedVariables false
attribute [local go_sem] run_fl_add run_fl_sub run_fl_mul run_fl_quo run_max_fl run_min_fl run_store_float

theorem PI.set6 {w : World} {b g n p i t lo hi k s wt pu : Nat} {T : Nat → Nat} (h : PI w b g n p i t lo hi k s wt pu T) (k' : Nat) : PI (w.setCell ⟨b, 6, none⟩ (.int .i64 (k' : Int))) b g n p i t lo hi k' s wt pu T := by
  have e : ∀ o, o ≠ 6 → (w.setCell ⟨b, 6, none⟩ (.int .i64 (k' : Int))).cell? ⟨b, o, none⟩ = w.cell? ⟨b, o, none⟩ := fun o ho => World.cell?_setCell_other _ _ _ _ (by simp only [ne_eq, Addr.mk.injEq, true_and, and_true]; omega)
  have eg : ∀ o, (w.setCell ⟨b, 6, none⟩ (.int .i64 (k' : Int))).cell? ⟨g, o, none⟩ = w.cell? ⟨g, o, none⟩ := fun o => World.cell?_setCell_other _ _ _ _ (by have := h.bg; simp only [ne_eq, Addr.mk.injEq, and_true]; omega)
  exact ⟨(e 0 (by omega)).trans h.c0, (e 1 (by omega)).trans h.c1, (e 2 (by omega)).trans h.c2, (e 3 (by omega)).trans h.c3, (e 4 (by omega)).trans h.c4, (e 5 (by omega)).trans h.c5, World.cell?_setCell_same _ _ _ h.c6, (e 7 (by omega)).trans h.c7, (e 8 (by omega)).trans h.c8, (e 9 (by omega)).trans h.c9, (World.frozen?_setCell _ _ _ _).trans h.f6, (World.frozen?_setCell _ _ _ _).trans h.f7, (World.frozen?_setCell _ _ _ _).trans h.f8, (World.frozen?_setCell _ _ _ _).trans h.f9, fun j hj => (eg j).trans (h.tc j hj), fun j hj => (World.frozen?_setCell _ _ _ _).trans (h.tf j hj), h.bg, by simpa [World.setCell] using h.bl, by simpa [World.setCell] using h.gl⟩

theorem PI.set7 {w : World} {b g n p i t lo hi k s wt pu : Nat} {T : Nat → Nat} (h : PI w b g n p i t lo hi k s wt pu T) (s' : Nat) : PI (w.setCell ⟨b, 7, none⟩ (.float .f64 s')) b g n p i t lo hi k s' wt pu T := by
  have e : ∀ o, o ≠ 7 → (w.setCell ⟨b, 7, none⟩ (.float .f64 s')).cell? ⟨b, o, none⟩ = w.cell? ⟨b, o, none⟩ := fun o ho => World.cell?_setCell_other _ _ _ _ (by simp only [ne_eq, Addr.mk.injEq, true_and, and_true]; omega)
  have eg : ∀ o, (w.setCell ⟨b, 7, none⟩ (.float .f64 s')).cell? ⟨g, o, none⟩ = w.cell? ⟨g, o, none⟩ := fun o => World.cell?_setCell_other _ _ _ _ (by have := h.bg; simp only [ne_eq, Addr.mk.injEq, and_true]; omega)
  exact ⟨(e 0 (by omega)).trans h.c0, (e 1 (by omega)).trans h.c1, (e 2 (by omega)).trans h.c2, (e 3 (by omega)).trans h.c3, (e 4 (by omega)).trans h.c4, (e 5 (by omega)).trans h.c5, (e 6 (by omega)).trans h.c6, World.cell?_setCell_same _ _ _ h.c7, (e 8 (by omega)).trans h.c8, (e 9 (by omega)).trans h.c9, (World.frozen?_setCell _ _ _ _).trans h.f6, (World.frozen?_setCell _ _ _ _).trans h.f7, (World.frozen?_setCell _ _ _ _).trans h.f8, (World.frozen?_setCell _ _ _ _).trans h.f9, fun j hj => (eg j).trans (h.tc j hj), fun j hj => (World.frozen?_setCell _ _ _ _).trans (h.tf j hj), h.bg, by simpa [World.setCell] using h.bl, by simpa [World.setCell] using h.gl⟩

theorem PI.set8 {w : World} {b g n p i t lo hi k s wt pu : Nat} {T : Nat → Nat} (h : PI w b g n p i t lo hi k s wt pu T) (wt' : Nat) : PI (w.setCell ⟨b, 8, none⟩ (.float .f64 wt')) b g n p i t lo hi k s wt' pu T := by
  have e : ∀ o, o ≠ 8 → (w.setCell ⟨b, 8, none⟩ (.float .f64 wt')).cell? ⟨b, o, none⟩ = w.cell? ⟨b, o, none⟩ := fun o ho => World.cell?_setCell_other _ _ _ _ (by simp only [ne_eq, Addr.mk.injEq, true_and, and_true]; omega)
  have eg : ∀ o, (w.setCell ⟨b, 8, none⟩ (.float .f64 wt')).cell? ⟨g, o, none⟩ = w.cell? ⟨g, o, none⟩ := fun o => World.cell?_setCell_other _ _ _ _ (by have := h.bg; simp only [ne_eq, Addr.mk.injEq, and_true]; omega)
  exact ⟨(e 0 (by omega)).trans h.c0, (e 1 (by omega)).trans h.c1, (e 2 (by omega)).trans h.c2, (e 3 (by omega)).trans h.c3, (e 4 (by omega)).trans h.c4, (e 5 (by omega)).trans h.c5, (e 6 (by omega)).trans h.c6, (e 7 (by omega)).trans h.c7, World.cell?_setCell_same _ _ _ h.c8, (e 9 (by omega)).trans h.c9, (World.frozen?_setCell _ _ _ _).trans h.f6, (World.frozen?_setCell _ _ _ _).trans h.f7, (World.frozen?_setCell _ _ _ _).trans h.f8, (World.frozen?_setCell _ _ _ _).trans h.f9, fun j hj => (eg j).trans (h.tc j hj), fun j hj => (World.frozen?_setCell _ _ _ _).trans (h.tf j hj), h.bg, by simpa [World.setCell] using h.bl, by simpa [World.setCell] using h.gl⟩

theorem PI.set9 {w : World} {b g n p i t lo hi k s wt pu : Nat} {T : Nat → Nat} (h : PI w b g n p i t lo hi k s wt pu T) (pu' : Nat) : PI (w.setCell ⟨b, 9, none⟩ (.int .i64 (pu' : Int))) b g n p i t lo hi k s wt pu' T := by
  have e : ∀ o, o ≠ 9 → (w.setCell ⟨b, 9, none⟩ (.int .i64 (pu' : Int))).cell? ⟨b, o, none⟩ = w.cell? ⟨b, o, none⟩ := fun o ho => World.cell?_setCell_other _ _ _ _ (by simp only [ne_eq, Addr.mk.injEq, true_and, and_true]; omega)
  have eg : ∀ o, (w.setCell ⟨b, 9, none⟩ (.int .i64 (pu' : Int))).cell? ⟨g, o, none⟩ = w.cell? ⟨g, o, none⟩ := fun o => World.cell?_setCell_other _ _ _ _ (by have := h.bg; simp only [ne_eq, Addr.mk.injEq, and_true]; omega)
  exact ⟨(e 0 (by omega)).trans h.c0, (e 1 (by omega)).trans h.c1, (e 2 (by omega)).trans h.c2, (e 3 (by omega)).trans h.c3, (e 4 (by omega)).trans h.c4, (e 5 (by omega)).trans h.c5, (e 6 (by omega)).trans h.c6, (e 7 (by omega)).trans h.c7, (e 8 (by omega)).trans h.c8, World.cell?_setCell_same _ _ _ h.c9, (World.frozen?_setCell _ _ _ _).trans h.f6, (World.frozen?_setCell _ _ _ _).trans h.f7, (World.frozen?_setCell _ _ _ _).trans h.f8, (World.frozen?_setCell _ _ _ _).trans h.f9, fun j hj => (eg j).trans (h.tc j hj), fun j hj => (World.frozen?_setCell _ _ _ _).trans (h.tf j hj), h.bg, by simpa [World.setCell] using h.bl, by simpa [World.setCell] using h.gl⟩

theorem PI.setT {w : World} {b g n p i t lo hi k s wt pu : Nat} {T : Nat → Nat} (h : PI w b g n p i t lo hi k s wt pu T) {j : Nat} (hj : j < n) (x : Nat) : PI (w.setCell ⟨g, j, none⟩ (.float .f64 x)) b g n p i t lo hi k s wt pu (fun v => if v = j then x else T v) := by
  have e : ∀ o, (w.setCell ⟨g, j, none⟩ (.float .f64 x)).cell? ⟨b, o, none⟩ = w.cell? ⟨b, o, none⟩ := fun o => World.cell?_setCell_other _ _ _ _ (by have := h.bg; simp only [ne_eq, Addr.mk.injEq, and_true]; omega)
  refine ⟨(e 0).trans h.c0, (e 1).trans h.c1, (e 2).trans h.c2, (e 3).trans h.c3, (e 4).trans h.c4, (e 5).trans h.c5, (e 6).trans h.c6, (e 7).trans h.c7, (e 8).trans h.c8, (e 9).trans h.c9,
    (World.frozen?_setCell _ _ _ _).trans h.f6, (World.frozen?_setCell _ _ _ _).trans h.f7, (World.frozen?_setCell _ _ _ _).trans h.f8, (World.frozen?_setCell _ _ _ _).trans h.f9, fun v hv => ?_, fun v hv => (World.frozen?_setCell _ _ _ _).trans (h.tf v hv), h.bg, by simpa [World.setCell] using h.bl, by simpa [World.setCell] using h.gl⟩
  by_cases e1 : v = j
  · subst e1
    rw [if_pos rfl]
    exact World.cell?_setCell_same _ _ _ (h.tc v hv)
  · rw [if_neg e1, World.cell?_setCell_other _ _ _ _ (by simp only [ne_eq, Addr.mk.injEq, true_and, and_true]; omega)]
    exact h.tc v hv


/-- The sums afresh: of the terms, newest first. -/
def rsD (n k : Nat) (TA : Nat → Ieee.Datum) : Nat → Ieee.Datum
  | 0 => zer
  | a + 1 => addD (rsD n k TA a) (TA ((k + n - 1 - a) % n))
def rwD (n k : Nat) (TA : Nat → Ieee.Datum) : Nat → Ieee.Datum
  | 0 => zer
  | a + 1 => addD (rwD n k TA a) (divD (mulD (TA ((k + n - 1 - a) % n)) (ab (floatOfInt .f64 ((n : Int) - (a : Int))))) (Ieee.double.read (floatOfInt .f64 (n : Int))))

def ResPost (b g n p i t lo hi k : Nat) (T : Nat → Nat) (w : World) (e : Ending) (w' : World) : Prop :=
  ∃ s' wt', e = .returned (.tuple #[]) ∧ PI w' b g n p i t lo hi k s' wt' 0 T ∧ ab s' = rsD n k (fun j => ab (T j)) n ∧ ab wt' = rwD n k (fun j => ab (T j)) n ∧ Only b g w w'

set_option maxHeartbeats 2000000 in
set_option maxRecDepth 100000 in
theorem resum_any (b g n p i t lo hi k s wt pu : Nat) (T : Nat → Nat) (w : World) (hn1 : 1 ≤ n) (hn : n ≤ 65536) (hk : k < n) (h : PI w b g n p i t lo hi k s wt pu T) :
    Calls Try.prog 16 #[.pointer (some ⟨b, 0, none⟩)] w fun e w' => ResPost b g n p i t lo hi k T w e w' := by
  have hc5 := h.c5
  have hc7 := h.c7
  have hc8 := h.c8
  have hc9 := h.c9
  have hf7 := h.f7
  have hf8 := h.f8
  have hf9 := h.f9
  have H0 : Hid (PI (((w.setCell ⟨b, 7, none⟩ (.float .f64 0)).setCell ⟨b, 8, none⟩ (.float .f64 0)).setCell ⟨b, 9, none⟩ (.int .i64 ((0 : Nat) : Int))) b g n p i t lo hi k 0 0 0 T) := ((h.set7 0).set8 0).set9 0
  have HO0 : Hid (Only b g w (((w.setCell ⟨b, 7, none⟩ (.float .f64 0)).setCell ⟨b, 8, none⟩ (.float .f64 0)).setCell ⟨b, 9, none⟩ (.int .i64 ((0 : Nat) : Int)))) := (((Only.refl b g w).setB 7 _).setB 8 _).setB 9 _
  clear h
  go_enter Try.func16, Try.ntmps16
  go_wp2
  go_loopw [3, 4, 20] (fun _ _ j wr => ∃ a s' wt' : Nat, a ≤ n ∧ j = .int .i64 a ∧ Hid (PI wr b g n p i t lo hi k s' wt' 0 T) ∧ Hid (ab s' = rsD n k (fun j => ab (T j)) a) ∧ Hid (ab wt' = rwD n k (fun j => ab (T j)) a) ∧ Hid (Only b g w wr)) (fun _ _ j _ => n - (intOf j).toNat)
  case atStart => exact ⟨0, 0, 0, Nat.zero_le _, rfl, H0, rfl, rfl, HO0⟩
  case round =>
    clear hc5 hc7 hc8 hc9 hf7 hf8 hf9 H0 HO0
    obtain ⟨a, s', wt', ha, rfl, hP, hs, hw, hO⟩ := hrel
    by_cases hlt : a < n
    · have hc5 := hP.out.c5
      have hc6 := hP.out.c6
      have hc7 := hP.out.c7
      have hc8 := hP.out.c8
      have hf7 := hP.out.f7
      have hf8 := hP.out.f8
      have hixn := Nat.mod_lt (k + n - 1 - a) (show 0 < n by omega)
      have hct := hP.out.tc _ hixn
      have hix : ((k : Int) - 1 - (a : Int) + (n : Int)) % (n : Int) = (((k + n - 1 - a) % n : Nat) : Int) := by
        rw [Int.natCast_emod]; congr 1; omega
      have hs' := hs
      have hw' := hw
      have hsD : Hid (rsD n k (fun j => ab (T j)) (a + 1) = addD (ab s') (ab (T ((k + n - 1 - a) % n)))) := by show _ = _; rw [hs.out]; rfl
      have hwD : Hid (rwD n k (fun j => ab (T j)) (a + 1) = addD (ab wt') (divD (mulD (ab (T ((k + n - 1 - a) % n))) (ab (floatOfInt .f64 ((n : Int) - (a : Int))))) (Ieee.double.read (floatOfInt .f64 (n : Int))))) := by show _ = _; rw [hw.out]; rfl
      generalize (k + n - 1 - a) % n = ix at *
      have q1 : (0 : Int) ≤ (ix : Int) := by omega
      have q2 : (ix : Int) < (n : Int) := by omega
      go_wp2
      go_quiet (fail)
      go_wp2
      go_roundw
      case rel =>
        refine ⟨a + 1, _, _, by omega, by go_num, (((hP.out.drewN _).set7 _).drewN _).set8 _, ?_, ?_, (((hO.out.drewN _).setB 7 _).drewN _).setB 8 _⟩
        · show ab _ = _
          rw [hsD.out, ab_add]
        · show ab _ = _
          rw [hwD.out, ab_add, ab_quo, ab_mul]
      case measure => simp [intOf]; omega
    · obtain rfl : a = n := by omega
      go_wp2
      go_end0
      exact ⟨s', wt', rfl, hP.out, hs.out, hw.out, hO.out⟩
end Go.Proofs.Qxb6627656a
