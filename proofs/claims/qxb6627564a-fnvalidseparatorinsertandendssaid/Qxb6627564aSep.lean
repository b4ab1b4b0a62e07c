import Derived.Test.Qxb6627564aIns
import Derived.StillTactics
import Derived.RegionTactic
import Derived.ChangeAlike
import Derived.Deep.QuietTactic
import Derived.BigQuiet
import Derived.WalkLawsBesides
import Derived.Laws.IdiomStrings
namespace Go.Proofs.Qxb6627564a
open Go.RowKit
set_option linter.unusedSimpArgs false

theorem conv_two (x y : UInt8) (W : World) (b : Nat) (h0 : W.cell? ⟨b, 0, none⟩ = some (.int .u8 (x.toNat : Int))) (h1 : W.cell? ⟨b, 1, none⟩ = some (.int .u8 (y.toNat : Int))) :
    (convert 25 9 (.slice (some ⟨b, 0, none⟩) 2 2)).run Try.prog W = .ok (.string ⟨#[x, y]⟩) W := by
  refine run_convert_bytes_back W 25 9 5 ⟨b, 0, none⟩ 2 [x, y] Try.underlying25 Try.underlying5 Try.underlying9 ?_
  intro j hj
  match j, hj with
  | 0, _ => exact h0
  | 1, _ => exact h1

theorem conv_new (x y : UInt8) (W : World) (n : Nat) :
    (convert 25 9 (.slice (some ⟨W.heap.size, 0, none⟩) 2 2)).run Try.prog ((W.drewN n).alloc (.cells #[.int .u8 (x.toNat : Int), .int .u8 (y.toNat : Int)] 5)) = .ok (.string ⟨#[x, y]⟩) ((W.drewN n).alloc (.cells #[.int .u8 (x.toNat : Int), .int .u8 (y.toNat : Int)] 5)) := by
  have e : (W.drewN n).heap.size = W.heap.size := rfl
  refine conv_two x y _ _ ?_ ?_
  · rw [← e, World.cell?_alloc_mark]; rfl
  · rw [← e, World.cell?_alloc_mark]; rfl

theorem grown_drewN {W w' : World} (h : Grown W w') (n : Nat) : Grown W (w'.drewN n) := h

set_option maxHeartbeats 1000000 in
theorem sep_le_true (s : ByteArray) (k : Nat) (u : Bool) (w : World) (hs : s.size ≤ 1048576) (h2 : 2 ≤ s.size) (hk1 : 1 ≤ k) (hk2 : k < s.size) (hz0 : 0 < s.size) (hn : s.size ≤ 63) (ha : alB (s[0].toNat : Int) = true) :
    Calls Try.prog 4 #[.string s, .int .i64 k, .bool u] w fun e w' => e = .returned (.bool true) ∧ Grown w w' := by
  have h' : ¬ (1048576 : Int) < (s.size : Int) := by omega
  have h2' : ¬ (s.size : Int) < 2 := by omega
  have hk1' : ¬ (k : Int) < 1 := by omega
  have hk2' : ¬ (s.size : Int) - 1 < (k : Int) := by omega
  have hk3 : (k : Int) ≤ (s.size : Int) := by omega
  have hk0 : (0 : Int) ≤ (k : Int) := by omega
  have hz : (0 : Int) < (s.size : Int) := by omega
  have hA : (1 : Int) ≤ (s.size : Int) := by omega
  have hB : (s.size : Int) - 1 < (s.size : Int) := by omega
  have hcv := conv_new s[0] s[s.size - 1]
  have hss : s.size ≤ maxLen := by unfold maxLen; omega
  have hes : (ByteArray.mk #[s[0], s[s.size - 1]]).size ≤ maxLen := by unfold maxLen; show 2 ≤ _; omega
  have ht1 : (s.extract 0 k ++ ⟨#[45]⟩ ++ s.extract k s.size).size ≤ maxLen := by
    have := ins_size s k 45 (by omega); unfold ins at this; unfold maxLen; omega
  have ht2 : (s.extract 0 k ++ ⟨#[95]⟩ ++ s.extract k s.size).size ≤ maxLen := by
    have := ins_size s k 95 (by omega); unfold ins at this; unfold maxLen; omega
  have hv1 : valB (s.extract 0 k ++ ⟨#[45]⟩ ++ s.extract k s.size) = (decide (s.size ≤ 63) && valB s) := val_ins s k 45 (by decide) hk1 hk2
  have hv2 : valB (s.extract 0 k ++ ⟨#[95]⟩ ++ s.extract k s.size) = (decide (s.size ≤ 63) && valB s) := val_ins s k 95 (by decide) hk1 hk2
  have hve := val_ends s[0] s[s.size - 1]
  have hn' : (s.size : Int) ≤ 63 := by omega
  simp only [hn, decide_true, decide_false, Bool.true_and, Bool.false_and] at hv1 hv2
  simp only [ha, Bool.true_and, Bool.false_and] at hve
  cases u
  all_goals
    go_enter Try.func4, Try.ntmps4
    go_wp2_with (go_at_call 9; refine (bytes9 s _ _ _ hs).mono ?_; rintro e w' ⟨rfl, rfl⟩)
    go_quiet (fail)
    go_wp2_with fail
    go_region
    go_wp2_with (go_at_call 8; refine (valid_any _ _ (by first | exact hss | exact ht1 | exact ht2)).mono ?_; rintro e w' ⟨rfl, rfl⟩)
    refine wp_region_quiet_lit (by kernel_rfl) (by kernel_rfl) ?_
    repeat (any_goals (first | go_big_quiet_step ((first | (go_at_call 8; exact Calls.quiet_of_same (valid_any _ _ hes)) | (go_at_call 6; exact Calls.quiet_of_same (isAlnum_any _ _)))) | quiet_step (fail)))
    refine wpQuiet_nil ?_
    intro _ hw'
    obtain ⟨nq, hw''⟩ := hw'
    subst hw''
    go_wp2
    go_ret
    exact ⟨rfl, grown_drewN ((grown_drewN (Grown.refl _) _).alloc _ _) _⟩

set_option maxHeartbeats 1000000 in
theorem sep_le_false (s : ByteArray) (k : Nat) (u : Bool) (w : World) (hs : s.size ≤ 1048576) (h2 : 2 ≤ s.size) (hk1 : 1 ≤ k) (hk2 : k < s.size) (hz0 : 0 < s.size) (hn : s.size ≤ 63) (ha : alB (s[0].toNat : Int) = false) :
    Calls Try.prog 4 #[.string s, .int .i64 k, .bool u] w fun e w' => e = .returned (.bool true) ∧ Grown w w' := by
  have h' : ¬ (1048576 : Int) < (s.size : Int) := by omega
  have h2' : ¬ (s.size : Int) < 2 := by omega
  have hk1' : ¬ (k : Int) < 1 := by omega
  have hk2' : ¬ (s.size : Int) - 1 < (k : Int) := by omega
  have hk3 : (k : Int) ≤ (s.size : Int) := by omega
  have hk0 : (0 : Int) ≤ (k : Int) := by omega
  have hz : (0 : Int) < (s.size : Int) := by omega
  have hA : (1 : Int) ≤ (s.size : Int) := by omega
  have hB : (s.size : Int) - 1 < (s.size : Int) := by omega
  have hcv := conv_new s[0] s[s.size - 1]
  have hss : s.size ≤ maxLen := by unfold maxLen; omega
  have hes : (ByteArray.mk #[s[0], s[s.size - 1]]).size ≤ maxLen := by unfold maxLen; show 2 ≤ _; omega
  have ht1 : (s.extract 0 k ++ ⟨#[45]⟩ ++ s.extract k s.size).size ≤ maxLen := by
    have := ins_size s k 45 (by omega); unfold ins at this; unfold maxLen; omega
  have ht2 : (s.extract 0 k ++ ⟨#[95]⟩ ++ s.extract k s.size).size ≤ maxLen := by
    have := ins_size s k 95 (by omega); unfold ins at this; unfold maxLen; omega
  have hv1 : valB (s.extract 0 k ++ ⟨#[45]⟩ ++ s.extract k s.size) = (decide (s.size ≤ 63) && valB s) := val_ins s k 45 (by decide) hk1 hk2
  have hv2 : valB (s.extract 0 k ++ ⟨#[95]⟩ ++ s.extract k s.size) = (decide (s.size ≤ 63) && valB s) := val_ins s k 95 (by decide) hk1 hk2
  have hve := val_ends s[0] s[s.size - 1]
  have hn' : (s.size : Int) ≤ 63 := by omega
  simp only [hn, decide_true, decide_false, Bool.true_and, Bool.false_and] at hv1 hv2
  simp only [ha, Bool.true_and, Bool.false_and] at hve
  cases u
  all_goals
    go_enter Try.func4, Try.ntmps4
    go_wp2_with (go_at_call 9; refine (bytes9 s _ _ _ hs).mono ?_; rintro e w' ⟨rfl, rfl⟩)
    go_quiet (fail)
    go_wp2_with fail
    go_region
    go_wp2_with (go_at_call 8; refine (valid_any _ _ (by first | exact hss | exact ht1 | exact ht2)).mono ?_; rintro e w' ⟨rfl, rfl⟩)
    refine wp_region_quiet_lit (by kernel_rfl) (by kernel_rfl) ?_
    repeat (any_goals (first | go_big_quiet_step ((first | (go_at_call 8; exact Calls.quiet_of_same (valid_any _ _ hes)) | (go_at_call 6; exact Calls.quiet_of_same (isAlnum_any _ _)))) | quiet_step (fail)))
    refine wpQuiet_nil ?_
    intro _ hw'
    obtain ⟨nq, hw''⟩ := hw'
    subst hw''
    go_wp2
    go_ret
    exact ⟨rfl, grown_drewN ((grown_drewN (Grown.refl _) _).alloc _ _) _⟩

set_option maxHeartbeats 1000000 in
theorem sep_gt_true (s : ByteArray) (k : Nat) (u : Bool) (w : World) (hs : s.size ≤ 1048576) (h2 : 2 ≤ s.size) (hk1 : 1 ≤ k) (hk2 : k < s.size) (hz0 : 0 < s.size) (hn : ¬ s.size ≤ 63) (ha : alB (s[0].toNat : Int) = true) :
    Calls Try.prog 4 #[.string s, .int .i64 k, .bool u] w fun e w' => e = .returned (.bool true) ∧ Grown w w' := by
  have h' : ¬ (1048576 : Int) < (s.size : Int) := by omega
  have h2' : ¬ (s.size : Int) < 2 := by omega
  have hk1' : ¬ (k : Int) < 1 := by omega
  have hk2' : ¬ (s.size : Int) - 1 < (k : Int) := by omega
  have hk3 : (k : Int) ≤ (s.size : Int) := by omega
  have hk0 : (0 : Int) ≤ (k : Int) := by omega
  have hz : (0 : Int) < (s.size : Int) := by omega
  have hA : (1 : Int) ≤ (s.size : Int) := by omega
  have hB : (s.size : Int) - 1 < (s.size : Int) := by omega
  have hcv := conv_new s[0] s[s.size - 1]
  have hss : s.size ≤ maxLen := by unfold maxLen; omega
  have hes : (ByteArray.mk #[s[0], s[s.size - 1]]).size ≤ maxLen := by unfold maxLen; show 2 ≤ _; omega
  have ht1 : (s.extract 0 k ++ ⟨#[45]⟩ ++ s.extract k s.size).size ≤ maxLen := by
    have := ins_size s k 45 (by omega); unfold ins at this; unfold maxLen; omega
  have ht2 : (s.extract 0 k ++ ⟨#[95]⟩ ++ s.extract k s.size).size ≤ maxLen := by
    have := ins_size s k 95 (by omega); unfold ins at this; unfold maxLen; omega
  have hv1 : valB (s.extract 0 k ++ ⟨#[45]⟩ ++ s.extract k s.size) = (decide (s.size ≤ 63) && valB s) := val_ins s k 45 (by decide) hk1 hk2
  have hv2 : valB (s.extract 0 k ++ ⟨#[95]⟩ ++ s.extract k s.size) = (decide (s.size ≤ 63) && valB s) := val_ins s k 95 (by decide) hk1 hk2
  have hve := val_ends s[0] s[s.size - 1]
  have hn' : ¬ (s.size : Int) ≤ 63 := by omega
  simp only [hn, decide_true, decide_false, Bool.true_and, Bool.false_and] at hv1 hv2
  simp only [ha, Bool.true_and, Bool.false_and] at hve
  cases u
  all_goals
    go_enter Try.func4, Try.ntmps4
    go_wp2_with (go_at_call 9; refine (bytes9 s _ _ _ hs).mono ?_; rintro e w' ⟨rfl, rfl⟩)
    go_quiet (fail)
    go_wp2_with fail
    go_region
    go_wp2_with (go_at_call 8; refine (valid_any _ _ (by first | exact hss | exact ht1 | exact ht2)).mono ?_; rintro e w' ⟨rfl, rfl⟩)
    refine wp_region_quiet_lit (by kernel_rfl) (by kernel_rfl) ?_
    repeat (any_goals (first | go_big_quiet_step ((first | (go_at_call 8; exact Calls.quiet_of_same (valid_any _ _ hes)) | (go_at_call 6; exact Calls.quiet_of_same (isAlnum_any _ _)))) | quiet_step (fail)))
    refine wpQuiet_nil ?_
    intro _ hw'
    obtain ⟨nq, hw''⟩ := hw'
    subst hw''
    go_wp2
    go_ret
    exact ⟨rfl, grown_drewN ((grown_drewN (Grown.refl _) _).alloc _ _) _⟩

set_option maxHeartbeats 1000000 in
theorem sep_gt_false (s : ByteArray) (k : Nat) (u : Bool) (w : World) (hs : s.size ≤ 1048576) (h2 : 2 ≤ s.size) (hk1 : 1 ≤ k) (hk2 : k < s.size) (hz0 : 0 < s.size) (hn : ¬ s.size ≤ 63) (ha : alB (s[0].toNat : Int) = false) :
    Calls Try.prog 4 #[.string s, .int .i64 k, .bool u] w fun e w' => e = .returned (.bool true) ∧ Grown w w' := by
  have h' : ¬ (1048576 : Int) < (s.size : Int) := by omega
  have h2' : ¬ (s.size : Int) < 2 := by omega
  have hk1' : ¬ (k : Int) < 1 := by omega
  have hk2' : ¬ (s.size : Int) - 1 < (k : Int) := by omega
  have hk3 : (k : Int) ≤ (s.size : Int) := by omega
  have hk0 : (0 : Int) ≤ (k : Int) := by omega
  have hz : (0 : Int) < (s.size : Int) := by omega
  have hA : (1 : Int) ≤ (s.size : Int) := by omega
  have hB : (s.size : Int) - 1 < (s.size : Int) := by omega
  have hcv := conv_new s[0] s[s.size - 1]
  have hss : s.size ≤ maxLen := by unfold maxLen; omega
  have hes : (ByteArray.mk #[s[0], s[s.size - 1]]).size ≤ maxLen := by unfold maxLen; show 2 ≤ _; omega
  have ht1 : (s.extract 0 k ++ ⟨#[45]⟩ ++ s.extract k s.size).size ≤ maxLen := by
    have := ins_size s k 45 (by omega); unfold ins at this; unfold maxLen; omega
  have ht2 : (s.extract 0 k ++ ⟨#[95]⟩ ++ s.extract k s.size).size ≤ maxLen := by
    have := ins_size s k 95 (by omega); unfold ins at this; unfold maxLen; omega
  have hv1 : valB (s.extract 0 k ++ ⟨#[45]⟩ ++ s.extract k s.size) = (decide (s.size ≤ 63) && valB s) := val_ins s k 45 (by decide) hk1 hk2
  have hv2 : valB (s.extract 0 k ++ ⟨#[95]⟩ ++ s.extract k s.size) = (decide (s.size ≤ 63) && valB s) := val_ins s k 95 (by decide) hk1 hk2
  have hve := val_ends s[0] s[s.size - 1]
  have hn' : ¬ (s.size : Int) ≤ 63 := by omega
  simp only [hn, decide_true, decide_false, Bool.true_and, Bool.false_and] at hv1 hv2
  simp only [ha, Bool.true_and, Bool.false_and] at hve
  cases u
  all_goals
    go_enter Try.func4, Try.ntmps4
    go_wp2_with (go_at_call 9; refine (bytes9 s _ _ _ hs).mono ?_; rintro e w' ⟨rfl, rfl⟩)
    go_quiet (fail)
    go_wp2_with fail
    go_region
    go_wp2_with (go_at_call 8; refine (valid_any _ _ (by first | exact hss | exact ht1 | exact ht2)).mono ?_; rintro e w' ⟨rfl, rfl⟩)
    refine wp_region_quiet_lit (by kernel_rfl) (by kernel_rfl) ?_
    repeat (any_goals (first | go_big_quiet_step ((first | (go_at_call 8; exact Calls.quiet_of_same (valid_any _ _ hes)) | (go_at_call 6; exact Calls.quiet_of_same (isAlnum_any _ _)))) | quiet_step (fail)))
    refine wpQuiet_nil ?_
    intro _ hw'
    obtain ⟨nq, hw''⟩ := hw'
    subst hw''
    go_wp2
    go_ret
    exact ⟨rfl, grown_drewN ((grown_drewN (Grown.refl _) _).alloc _ _) _⟩

/-- The law, at every input. -/
theorem sep_walk (s : ByteArray) (i : Int) (u : Bool) (hs : s.size ≤ maxLen) (w : World) :
    Calls Try.prog 4 #[.string s, .int .i64 i, .bool u] w fun e w' => e = .returned (.bool true) ∧ Grown w w' := by
  by_cases hb : 1048576 < s.size
  · go_enter Try.func4, Try.ntmps4
    go_wp2_with (go_at_call 9; refine (bytes9_no s _ _ _ hb).mono ?_; rintro e w' ⟨rfl, rfl⟩)
    go_ret
    exact ⟨rfl, Grown.refl _⟩
  have hb' : ¬ (1048576 : Int) < (s.size : Int) := by omega
  by_cases hin : (s.size : Int) < 2 ∨ i < 1 ∨ (s.size : Int) - 1 < i
  · unfold maxLen at hs
    have h3 : (s.size : Int) < 2 ∨ (¬ (s.size : Int) < 2 ∧ i < 1) ∨ (¬ (s.size : Int) < 2 ∧ ¬ i < 1 ∧ (s.size : Int) - 1 < i) := by omega
    clear hin
    rcases h3 with h | ⟨h, h'⟩ | ⟨h, h', h''⟩
    all_goals
      go_enter Try.func4, Try.ntmps4
      go_wp2_with (go_at_call 9; refine (bytes9 s _ _ _ (by omega)).mono ?_; rintro e w' ⟨rfl, rfl⟩)
      go_ret
      exact ⟨rfl, Grown.refl _⟩
  · obtain ⟨k, rfl⟩ := Int.eq_ofNat_of_zero_le (show 0 ≤ i by omega)
    have hz0 : 0 < s.size := by omega
    by_cases hn : s.size ≤ 63
    · cases ha : alB (s[0].toNat : Int)
      · exact sep_le_false s k u w (by omega) (by omega) (by omega) (by omega) hz0 hn ha
      · exact sep_le_true s k u w (by omega) (by omega) (by omega) (by omega) hz0 hn ha
    · cases ha : alB (s[0].toNat : Int)
      · exact sep_gt_false s k u w (by omega) (by omega) (by omega) (by omega) hz0 hn ha
      · exact sep_gt_true s k u w (by omega) (by omega) (by omega) (by omega) hz0 hn ha
end Go.Proofs.Qxb6627564a
