/-
  The contracts of the small functions that both laws of this seat go through: alnum, zzIsAlnum, zzIsSep, Valid, the two bounds on length.
-/
import Derived.Test.Qxb6627564aRows
import Derived.WalkKit
import Derived.ProofKit
import Derived.WalkSpells
namespace Go.Proofs.Qxb6627564a
open Go.RowKit
set_option linter.unusedSimpArgs false

/-- An ASCII letter or digit. -/
def alB (c : Int) : Bool := (decide (97 ≤ c) && decide (c ≤ 122)) || (decide (65 ≤ c) && decide (c ≤ 90)) || (decide (48 ≤ c) && decide (c ≤ 57))
/-- One of the two separators. -/
def seB (c : Int) : Bool := c == 45 || c == 95

theorem alB_iff (c : Int) : alB c = true ↔ ((97 ≤ c ∧ c ≤ 122) ∨ (65 ≤ c ∧ c ≤ 90)) ∨ (48 ≤ c ∧ c ≤ 57) := by simp [alB]
theorem seB_iff (c : Int) : seB c = true ↔ c = 45 ∨ c = 95 := by simp [seB]
theorem al_not_se {c : Int} (h : alB c = true) : seB c = false := by
  have := (alB_iff c).1 h
  cases h2 : seB c with
  | false => rfl
  | true => have := (seB_iff c).1 h2; omega

theorem ret_bool {a b : Bool} (h : a = b) : Ending.returned (.bool a) = .returned (.bool b) := by rw [h]

set_option maxHeartbeats 400000 in
theorem alnum_any (c : Int) (w : World) :
    Calls Try.prog 10 #[.int .u8 c] w fun e w' => e = .returned (.bool (alB c)) ∧ w' = w := by
  go_enter Try.func10, Try.ntmps10
  go_wp2
  all_goals
    go_ret
    refine ⟨ret_bool ?_, rfl⟩
    rw [Bool.eq_iff_iff, alB_iff]
    simp only [Bool.or_eq_true, decide_eq_true_eq, Bool.false_eq_true, true_iff, false_iff]
    omega

set_option maxHeartbeats 400000 in
theorem isAlnum_any (c : Int) (w : World) :
    Calls Try.prog 6 #[.int .u8 c] w fun e w' => e = .returned (.bool (alB c)) ∧ w' = w := by
  go_enter Try.func6, Try.ntmps6
  go_wp2
  all_goals
    go_ret
    refine ⟨ret_bool ?_, rfl⟩
    rw [Bool.eq_iff_iff, alB_iff]
    simp only [Bool.or_eq_true, decide_eq_true_eq, Bool.false_eq_true, true_iff, false_iff]
    omega

set_option maxHeartbeats 400000 in
theorem isSep_any (c : Int) (w : World) :
    Calls Try.prog 7 #[.int .u8 c] w fun e w' => e = .returned (.bool (seB c)) ∧ w' = w := by
  go_enter Try.func7, Try.ntmps7
  go_wp2
  all_goals
    go_ret
    refine ⟨ret_bool ?_, rfl⟩
    rw [Bool.eq_iff_iff, seB_iff]
    simp only [Bool.or_eq_true, beq_iff_eq, true_iff]
    try omega

/-- The byte at k (0 beyond the end). -/
def bt (s : ByteArray) (k : Nat) : Int := ((s.data.toList.getD k 0).toNat : Int)
theorem bt_eq {s : ByteArray} {k : Nat} (h : k < s.size) : (s[k].toNat : Int) = bt s k := by
  unfold bt
  rw [List.getD_eq_getElem?_getD, List.getElem?_eq_getElem (by simpa using h)]
  rfl
/-- A byte that a name may hold inside. -/
def okB (c : Int) : Bool := alB c || seB c
/-- What Valid computes. -/
def valB (s : ByteArray) : Bool := decide (2 ≤ s.size) && decide (s.size ≤ 64) && alB (bt s 0) && alB (bt s (s.size - 1)) && (List.range s.size).all fun k => okB (bt s k)
theorem valB_iff (s : ByteArray) : valB s = true ↔ 2 ≤ s.size ∧ s.size ≤ 64 ∧ alB (bt s 0) = true ∧ alB (bt s (s.size - 1)) = true ∧ ∀ k, k < s.size → okB (bt s k) = true := by
  simp [valB, and_assoc]

theorem valB_no_len {s : ByteArray} (h : s.size < 2 ∨ 64 < s.size) : valB s = false := by
  cases h2 : valB s with
  | false => rfl
  | true => have := (valB_iff s).1 h2; omega
theorem valB_no_first {s : ByteArray} (h : alB (bt s 0) = false) : valB s = false := by
  cases h2 : valB s with
  | false => rfl
  | true => have := ((valB_iff s).1 h2).2.2.1; rw [h] at this; cases this
theorem valB_no_last {s : ByteArray} (h : alB (bt s (s.size - 1)) = false) : valB s = false := by
  cases h2 : valB s with
  | false => rfl
  | true => have := ((valB_iff s).1 h2).2.2.2.1; rw [h] at this; cases this
theorem valB_no_in {s : ByteArray} {k : Nat} (hk : k < s.size) (h : okB (bt s k) = false) : valB s = false := by
  cases h2 : valB s with
  | false => rfl
  | true => have := ((valB_iff s).1 h2).2.2.2.2 k hk; rw [h] at this; cases this
theorem valB_yes {s : ByteArray} (h1 : 2 ≤ s.size) (h2 : s.size ≤ 64) (h3 : alB (bt s 0) = true) (h4 : alB (bt s (s.size - 1)) = true) (h5 : ∀ k, 1 ≤ k → k < s.size - 1 → okB (bt s k) = true) : valB s = true := by
  refine (valB_iff s).2 ⟨h1, h2, h3, h4, fun k hk => ?_⟩
  by_cases e : k = 0
  · subst e; simp [okB, h3]
  · by_cases e2 : k = s.size - 1
    · subst e2; simp [okB, h4]
    · exact h5 k (by omega) (by omega)

theorem ok_ways {c : Int} (h : okB c = true) : alB c = true ∨ (alB c = false ∧ (c != 45) = false) ∨ (alB c = false ∧ (c != 45) = true ∧ (c != 95) = false) := by
  cases ha : alB c with
  | true => exact .inl rfl
  | false =>
    simp only [okB, ha, Bool.false_or, seB_iff] at h
    by_cases e : c = 45
    · exact .inr (.inl ⟨rfl, by simp [e]⟩)
    · have : c = 95 := by omega
      exact .inr (.inr ⟨rfl, by simp [e], by simp [this]⟩)

set_option maxHeartbeats 1000000 in
theorem valid_any (s : ByteArray) (w : World) (hs : s.size ≤ maxLen) :
    Calls Try.prog 8 #[.string s] w fun e w' => e = .returned (.bool (valB s)) ∧ w' = w := by
  unfold maxLen at hs
  by_cases h1 : s.size < 2
  · have h1' : (s.size : Int) < 2 := by omega
    go_enter Try.func8, Try.ntmps8
    go_wp2
    go_ret
    exact ⟨ret_bool (valB_no_len (.inl h1)).symm, rfl⟩
  by_cases h2 : 64 < s.size
  · have h1' : ¬ (s.size : Int) < 2 := by omega
    have h2' : (64 : Int) < s.size := by omega
    go_enter Try.func8, Try.ntmps8
    go_wp2
    go_ret
    exact ⟨ret_bool (valB_no_len (.inr h2)).symm, rfl⟩
  have h1' : ¬ (s.size : Int) < 2 := by omega
  have h2' : ¬ (64 : Int) < s.size := by omega
  have h00 : 0 < s.size := by omega
  have h0n : s.size - 1 < s.size := by omega
  cases ha : alB (bt s 0) with
  | false =>
    have ha' : alB (s[0].toNat : Int) = false := by rw [bt_eq h00]; exact ha
    have Ha : Hid _ := ha
    clear ha
    go_enter Try.func8, Try.ntmps8
    go_wp2_with (go_at_call 10; refine (alnum_any _ _).mono ?_; rintro e w' ⟨rfl, rfl⟩)
    go_ret
    exact ⟨ret_bool (valB_no_first Ha.out).symm, rfl⟩
  | true =>
    have ha' : alB (s[0].toNat : Int) = true := by rw [bt_eq h00]; exact ha
    have Ha : Hid _ := ha
    clear ha
    cases hb : alB (bt s (s.size - 1)) with
    | false =>
      have hb' : alB (s[s.size - 1].toNat : Int) = false := by rw [bt_eq h0n]; exact hb
      have Hb : Hid _ := hb
      clear hb
      go_enter Try.func8, Try.ntmps8
      go_wp2_with (go_at_call 10; refine (alnum_any _ _).mono ?_; rintro e w' ⟨rfl, rfl⟩)
      go_ret
      exact ⟨ret_bool (valB_no_last Hb.out).symm, rfl⟩
    | true =>
      have hb' : alB (s[s.size - 1].toNat : Int) = true := by rw [bt_eq h0n]; exact hb
      have Hb : Hid _ := hb
      clear hb
      go_enter Try.func8, Try.ntmps8
      go_wp2_with (go_at_call 10; refine (alnum_any _ _).mono ?_; rintro e w' ⟨rfl, rfl⟩)
      go_loop [3, 4] (fun i _ => ∃ k : Nat, 1 ≤ k ∧ k ≤ s.size - 1 ∧ i = .int .i64 k ∧ Hid (∀ j, 1 ≤ j → j < k → okB (bt s j) = true)) (fun i _ => s.size - (intOf i).toNat)
      case atStart => exact ⟨1, by omega, by omega, rfl, fun j h1 h2 => by omega⟩
      case round =>
        obtain ⟨k, hk1, hk2, rfl, hk⟩ := hrel
        by_cases hlt : k < s.size - 1
        · have hlt' : k < s.size := by omega
          cases ho : okB (bt s k) with
          | false =>
            have e1 := bt_eq hlt'
            obtain ⟨o1, o2⟩ : alB (bt s k) = false ∧ seB (bt s k) = false := by simpa [okB] using ho
            have ho1 : alB (s[k].toNat : Int) = false := by rw [e1]; exact o1
            have ho2 : ((s[k].toNat : Int) != 45) = true := by
              rw [e1]; simp [seB] at o2; simpa using o2.1
            have ho3 : ((s[k].toNat : Int) != 95) = true := by
              rw [e1]; simp [seB] at o2; simpa using o2.2
            have Ho : Hid _ := ho
            clear ho e1 o1 o2
            go_wp2_with (go_at_call 10; refine (alnum_any _ _).mono ?_; rintro e w' ⟨rfl, rfl⟩)
            go_ret
            exact ⟨ret_bool (valB_no_in hlt' Ho.out).symm, rfl⟩
          | true =>
            have Ho : Hid _ := ho
            clear ho
            have fin : ∀ j, 1 ≤ j → j < k + 1 → okB (bt s j) = true := by
              intro j h1 h2
              by_cases e : j = k
              · subst e; exact Ho.out
              · exact hk j h1 (by omega)
            have Fin : Hid _ := fin
            clear fin
            have ways : alB (s[k].toNat : Int) = true ∨ (alB (s[k].toNat : Int) = false ∧ ((s[k].toNat : Int) != 45) = false) ∨ (alB (s[k].toNat : Int) = false ∧ ((s[k].toNat : Int) != 45) = true ∧ ((s[k].toNat : Int) != 95) = false) := by
              rw [bt_eq hlt']; exact ok_ways Ho.out
            rcases ways with o1 | ⟨o1, o2⟩ | ⟨o1, o2, o3⟩
            all_goals
              go_wp2_with (go_at_call 10; refine (alnum_any _ _).mono ?_; rintro e w' ⟨rfl, rfl⟩)
              go_round
              case rel => exact ⟨k + 1, by omega, by omega, by go_num, Fin⟩
              case measure => simp [intOf]; omega
        · go_wp2
          go_ret
          refine ⟨ret_bool (valB_yes (by omega) (by omega) Ha.out Hb.out (fun j h1 h2 => hk j h1 (by omega))).symm, rfl⟩

/-- The two bounds on length. -/
theorem bytes5 (s : ByteArray) (w : World) (hs : s.size ≤ 1048576) :
    Calls Try.prog 5 #[.string s] w fun e w' => e = .returned (.bool true) ∧ w' = w := by
  have h' : ¬ (1048576 : Int) < (s.size : Int) := by omega
  go_enter Try.func5, Try.ntmps5
  go_wp2
  go_ret
  exact ⟨rfl, rfl⟩
theorem bytes5_no (s : ByteArray) (w : World) (hs : 1048576 < s.size) :
    Calls Try.prog 5 #[.string s] w fun e w' => e = .returned (.bool false) ∧ w' = w := by
  have h' : (1048576 : Int) < (s.size : Int) := by omega
  go_enter Try.func5, Try.ntmps5
  go_wp2
  go_ret
  exact ⟨rfl, rfl⟩
theorem bytes9 (s : ByteArray) (i : Int) (u : Bool) (w : World) (hs : s.size ≤ 1048576) :
    Calls Try.prog 9 #[.string s, .int .i64 i, .bool u] w fun e w' => e = .returned (.bool true) ∧ w' = w := by
  have h' : ¬ (1048576 : Int) < (s.size : Int) := by omega
  go_enter Try.func9, Try.ntmps9
  go_wp2
  go_ret
  exact ⟨rfl, rfl⟩
theorem bytes9_no (s : ByteArray) (i : Int) (u : Bool) (w : World) (hs : 1048576 < s.size) :
    Calls Try.prog 9 #[.string s, .int .i64 i, .bool u] w fun e w' => e = .returned (.bool false) ∧ w' = w := by
  have h' : (1048576 : Int) < (s.size : Int) := by omega
  go_enter Try.func9, Try.ntmps9
  go_wp2
  go_ret
  exact ⟨rfl, rfl⟩
end Go.Proofs.Qxb6627564a
