/-
  The walk of FnValidMatchesShapeSpec.
-/
import Derived.Test.Qxb6627564aBase
namespace Go.Proofs.Qxb6627564a
open Go.RowKit
set_option linter.unusedSimpArgs false

/-- After k rounds of the first loop. -/
def wantB (s : ByteArray) (k : Nat) : Bool := decide (2 ≤ s.size) && decide (s.size ≤ 64) && (List.range k).all fun j => okB (bt s j)
theorem wantB_succ (s : ByteArray) (k : Nat) : wantB s (k + 1) = (wantB s k && okB (bt s k)) := by
  simp [wantB, List.range_succ, Bool.and_assoc]

theorem want_val {s : ByteArray} {lo hi : Nat} (hlo : lo ≤ hi) (hhi : hi ≤ s.size) (h1 : ∀ j, j < lo → seB (bt s j) = true) (h2 : ∀ j, hi ≤ j → j < s.size → seB (bt s j) = true)
    (h3 : lo = s.size ∨ seB (bt s lo) = false) (h4 : hi = lo ∨ seB (bt s (hi - 1)) = false) :
    valB s = (wantB s s.size && decide (lo = 0) && decide (hi = s.size)) := by
  rw [Bool.eq_iff_iff, valB_iff]
  simp only [wantB, Bool.and_eq_true, decide_eq_true_iff, List.all_eq_true, List.mem_range]
  constructor
  · rintro ⟨a1, a2, a3, a4, a5⟩
    have c1 : lo = 0 := by
      by_cases e : lo = 0
      · exact e
      · have := h1 0 (by omega); rw [al_not_se a3] at this; cases this
    have c2 : hi = s.size := by
      by_cases e : hi = s.size
      · exact e
      · have := h2 (s.size - 1) (by omega) (by omega); rw [al_not_se a4] at this; cases this
    exact ⟨⟨⟨⟨a1, a2⟩, a5⟩, c1⟩, c2⟩
  · rintro ⟨⟨⟨⟨a1, a2⟩, a5⟩, rfl⟩, rfl⟩
    have b3 : seB (bt s 0) = false := by
      rcases h3 with e | e
      · omega
      · exact e
    have b4 : seB (bt s (s.size - 1)) = false := by
      rcases h4 with e | e
      · omega
      · exact e
    have d3 := a5 0 (by omega)
    have d4 := a5 (s.size - 1) (by omega)
    simp only [okB, b3, b4, Bool.or_false] at d3 d4
    exact ⟨a1, a2, d3, d4, a5⟩

/-- The byte's ways through the first loop's test. -/
theorem in_ways (c : Int) : (alB c = true ∧ okB c = true) ∨ (alB c = false ∧ seB c = true ∧ okB c = true) ∨ (alB c = false ∧ seB c = false ∧ okB c = false) := by
  cases h1 : alB c <;> cases h2 : seB c <;> simp [okB, h1, h2]

set_option maxHeartbeats 2000000 in
theorem shape_walk (s : ByteArray) (hs : s.size ≤ maxLen) (w : World) :
    Calls Try.prog 3 #[.string s] w fun e w' => e = .returned (.bool true) ∧ Grown w w' := by
  by_cases hb : 1048576 < s.size
  · go_enter Try.func3, Try.ntmps3
    go_wp2_with (go_at_call 5; refine (bytes5_no s _ hb).mono ?_; rintro e w' ⟨rfl, rfl⟩)
    go_ret
    exact ⟨rfl, Grown.refl _⟩
  have hb' : ¬ (1048576 : Int) < (s.size : Int) := by omega
  have hb2 : s.size ≤ 1048576 := by omega
  have ways : ((2 : Int) ≤ (s.size : Int) ∧ Hid (wantB s 0 = decide ((s.size : Int) ≤ 64))) ∨ (¬ (2 : Int) ≤ (s.size : Int) ∧ Hid (wantB s 0 = false)) := by
    by_cases h2 : 2 ≤ s.size
    · have e : decide ((s.size : Int) ≤ 64) = decide (s.size ≤ 64) := by simp; omega
      exact .inl ⟨by omega, show _ = _ by rw [e]; simp [wantB, h2]⟩
    · exact .inr ⟨by omega, show _ = _ by simp [wantB, h2]⟩
  rcases ways with ⟨hn2, hw0⟩ | ⟨hn2, hw0⟩
  all_goals
    go_enter Try.func3, Try.ntmps3
    go_wp2_with (go_at_call 5; refine (bytes5 s _ hb2).mono ?_; rintro e w' ⟨rfl, rfl⟩)
    go_loop [4, 5] (fun v i => ∃ k : Nat, k ≤ s.size ∧ i = .int .i64 k ∧ v = .bool (wantB s k)) (fun _ i => s.size - (intOf i).toNat)
    case atStart => exact ⟨0, by omega, rfl, by rw [hw0.out]⟩
    case round =>
      obtain ⟨k, hk, rfl, rfl⟩ := hrel
      by_cases hlt : k < s.size
      · have ws : Hid (wantB s (k + 1) = (wantB s k && okB (bt s k))) := wantB_succ s k
        rw [← bt_eq hlt] at ws
        rcases in_ways (s[k].toNat : Int) with ⟨o1, o⟩ | ⟨o1, o2, o⟩ | ⟨o1, o2, o⟩
        all_goals
          rw [o] at ws
          clear o
          go_wp2_with (first | (go_at_call 6; refine (isAlnum_any _ _).mono ?_; rintro e w' ⟨rfl, rfl⟩) | (go_at_call 7; refine (isSep_any _ _).mono ?_; rintro e w' ⟨rfl, rfl⟩))
          go_round
          case rel => exact ⟨k + 1, by omega, by go_num, by rw [ws.out]; simp⟩
          case measure => simp [intOf]; omega
      · obtain rfl : k = s.size := by omega
        clear hk hlt
        go_wp2
        go_loop [6] (fun i => ∃ lo : Nat, lo ≤ s.size ∧ i = .int .i64 lo ∧ Hid (∀ j, j < lo → seB (bt s j) = true)) (fun i => s.size - (intOf i).toNat)
        case atStart => exact ⟨0, by omega, rfl, fun j h => by omega⟩
        case round =>
          obtain ⟨lo, hlo, rfl, h1⟩ := hrel
          by_cases hyes : ∃ h : lo < s.size, seB (s[lo].toNat : Int) = true
          · obtain ⟨hlt, ho⟩ := hyes
            have h1' : Hid (∀ j, j < lo + 1 → seB (bt s j) = true) := by
              intro j hj
              by_cases e : j = lo
              · subst e; rw [← bt_eq hlt]; exact ho
              · exact h1 j (by omega)
            go_wp2_with (go_at_call 7; refine (isSep_any _ _).mono ?_; rintro e w' ⟨rfl, rfl⟩)
            go_round
            case rel => exact ⟨lo + 1, by omega, by go_num, h1'⟩
            case measure => simp [intOf]; omega
          · have h3 : Hid (lo = s.size ∨ seB (bt s lo) = false) := by
              by_cases e : lo = s.size
              · exact .inl e
              · refine .inr ?_
                have hlt : lo < s.size := by omega
                cases h : seB (bt s lo)
                · rfl
                · exact absurd ⟨hlt, by rw [bt_eq hlt]; exact h⟩ hyes
            have ways : (¬ lo < s.size) ∨ (∃ h : lo < s.size, seB (s[lo].toNat : Int) = false) := by
              by_cases h : lo < s.size
              · refine .inr ⟨h, ?_⟩
                cases h' : seB (s[lo].toNat : Int)
                · rfl
                · exact absurd ⟨h, h'⟩ hyes
              · exact .inl h
            clear hyes
            rcases ways with hge | ⟨hlt, ho⟩
            all_goals
              go_wp2_with (go_at_call 7; refine (isSep_any _ _).mono ?_; rintro e w' ⟨rfl, rfl⟩)
              go_loop [7] (fun i => ∃ hi : Nat, lo ≤ hi ∧ hi ≤ s.size ∧ i = .int .i64 hi ∧ Hid (∀ j, hi ≤ j → j < s.size → seB (bt s j) = true)) (fun i => (intOf i).toNat)
              case atStart => exact ⟨s.size, by omega, by omega, rfl, fun j h h' => by omega⟩
              case round =>
                obtain ⟨hi, hlh, hhi, rfl, h2⟩ := hrel
                by_cases hyes : lo < hi ∧ ∃ h : hi - 1 < s.size, seB (s[hi - 1].toNat : Int) = true
                · obtain ⟨hll, hlt1, ho1⟩ := hyes
                  have g1 : (1 : Int) ≤ (hi : Int) := by omega
                  have g2 : (hi : Int) - 1 < (s.size : Int) := by omega
                  have h2' : Hid (∀ j, hi - 1 ≤ j → j < s.size → seB (bt s j) = true) := by
                    intro j hj hj2
                    by_cases e : j = hi - 1
                    · subst e; rw [← bt_eq hlt1]; exact ho1
                    · exact h2 j (by omega) hj2
                  go_wp2_with (go_at_call 7; refine (isSep_any _ _).mono ?_; rintro e w' ⟨rfl, rfl⟩)
                  go_round
                  case rel => exact ⟨hi - 1, by omega, by omega, by rw [Int.natCast_sub (by omega)]; rfl, h2'⟩
                  case measure => simp [intOf]; omega
                · have h4 : Hid (hi = lo ∨ seB (bt s (hi - 1)) = false) := by
                    by_cases e : hi = lo
                    · exact .inl e
                    · refine .inr ?_
                      have hlt1 : hi - 1 < s.size := by omega
                      cases h : seB (bt s (hi - 1))
                      · rfl
                      · exact absurd ⟨by omega, hlt1, by rw [bt_eq hlt1]; exact h⟩ hyes
                  have ways : (¬ (lo : Int) < (hi : Int)) ∨ ((lo : Int) < (hi : Int) ∧ ∃ h : hi - 1 < s.size, seB (s[hi - 1].toNat : Int) = false) := by
                    by_cases h : lo < hi
                    · have hlt1 : hi - 1 < s.size := by omega
                      refine .inr ⟨by omega, hlt1, ?_⟩
                      cases h' : seB (s[hi - 1].toNat : Int)
                      · rfl
                      · exact absurd ⟨h, hlt1, h'⟩ hyes
                    · exact .inl (by omega)
                  clear hyes
                  have hv := want_val hlh hhi h1 h2 h3 h4
                  have fin : (((lo : Int) != 0) = true ∧ valB s = false) ∨ (((lo : Int) != 0) = false ∧ ((hi : Int) != (s.size : Int)) = true ∧ valB s = false) ∨ (((lo : Int) != 0) = false ∧ ((hi : Int) != (s.size : Int)) = false ∧ valB s = wantB s s.size) := by
                    by_cases c1 : lo = 0
                    · by_cases c2 : hi = s.size
                      · exact .inr (.inr ⟨by simp [c1], by simp [c2], by rw [hv]; simp [c1, c2]⟩)
                      · exact .inr (.inl ⟨by simp [c1], by simp; omega, by rw [hv]; simp [c2]⟩)
                    · exact .inl ⟨by simp; omega, by rw [hv]; simp [c1]⟩
                  clear hv
                  rcases ways with hge1 | ⟨hll, hlt1, ho1⟩
                  all_goals
                    rcases fin with ⟨f1, f3⟩ | ⟨f1, f2, f3⟩ | ⟨f1, f2, f3⟩
                    all_goals
                      go_wp2_with (first | (go_at_call 7; refine (isSep_any _ _).mono ?_; rintro e w' ⟨rfl, rfl⟩) | (go_at_call 8; refine (valid_any _ _ hs).mono ?_; rintro e w' ⟨rfl, rfl⟩))
                      all_goals (go_ret; exact ⟨rfl, Grown.refl _⟩)
end Go.Proofs.Qxb6627564a
