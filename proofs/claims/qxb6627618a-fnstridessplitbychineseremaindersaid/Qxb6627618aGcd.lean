/-
  The contracts of gcd and zzGcd.
-/
import Derived.Test.Qxb6627618aRows
import Derived.WalkKit
import Derived.ProofKit
import Derived.WalkSpells
import Derived.StillTactics
import Derived.RegionTactic
import Derived.ChangeAlike
import Derived.Deep.QuietTactic
import Derived.BigQuiet
namespace Go.Proofs.Qxb6627618a
open Go.RowKit
set_option linter.unusedSimpArgs false

theorem ret_int {k : IntKind} {a b : Int} (h : a = b) : Ending.returned (.int k a) = .returned (.int k b) := by rw [h]

set_option maxHeartbeats 400000 in
theorem gcd_any (a b : Nat) (ha : a ≤ 65536) (hb : b ≤ 65536) (w : World) :
    Calls Try.prog 11 #[.int .i64 a, .int .i64 b] w fun e w' => e = .returned (.int .i64 (Nat.gcd a b : Nat)) ∧ ∃ n, w' = w.drewN n := by
  go_enter Try.func11, Try.ntmps11
  go_wp2
  go_loopw [0, 1] (fun x y wr => ∃ p q : Nat, p ≤ 65536 ∧ q ≤ 65536 ∧ x = .int .i64 p ∧ y = .int .i64 q ∧ Hid (Nat.gcd p q = Nat.gcd a b) ∧ ∃ n, wr = w.drewN n) (fun _ y _ => (intOf y).toNat)
  case atStart => exact ⟨a, b, ha, hb, rfl, rfl, rfl, 0, rfl⟩
  case round =>
    obtain ⟨p, q, hp, hq, rfl, rfl, hg, n, rfl⟩ := hrel
    by_cases h0 : q = 0
    · subst h0
      go_wp2
      go_ret
      refine ⟨ret_int ?_, n, rfl⟩
      have := hg.out
      rw [Nat.gcd_zero_right] at this
      rw [this]
    · have hq0 : (0 : Int) < (q : Int) := by omega
      have hne : ((q : Int) != 0) = true := by simp; omega
      go_wp2
      go_quiet (fail)
      go_wp2
      go_roundw
      case rel =>
        refine ⟨q, p % q, by omega, by have := Nat.mod_lt p (show 0 < q by omega); omega, rfl, by go_num, ?_, n + nq, by simp⟩
        have := hg.out
        show Nat.gcd q (p % q) = _
        rw [← this, Nat.gcd_comm p q, Nat.gcd_rec q p, Nat.gcd_comm]
      case measure =>
        have := Nat.mod_lt p (show 0 < q by omega)
        simp [intOf]; omega

set_option maxHeartbeats 400000 in
theorem zzgcd_any (a b : Nat) (ha : a ≤ 65536) (hb : b ≤ 65536) (w : World) :
    Calls Try.prog 8 #[.int .i64 a, .int .i64 b] w fun e w' => e = .returned (.int .i64 (Nat.gcd a b : Nat)) ∧ ∃ n, w' = w.drewN n := by
  go_enter Try.func8, Try.ntmps8
  go_wp2
  go_loopw [0, 1] (fun x y wr => ∃ p q : Nat, p ≤ 65536 ∧ q ≤ 65536 ∧ x = .int .i64 p ∧ y = .int .i64 q ∧ Hid (Nat.gcd p q = Nat.gcd a b) ∧ ∃ n, wr = w.drewN n) (fun _ y _ => (intOf y).toNat)
  case atStart => exact ⟨a, b, ha, hb, rfl, rfl, rfl, 0, rfl⟩
  case round =>
    obtain ⟨p, q, hp, hq, rfl, rfl, hg, n, rfl⟩ := hrel
    by_cases h0 : q = 0
    · subst h0
      go_wp2
      go_ret
      refine ⟨ret_int ?_, n, rfl⟩
      have := hg.out
      rw [Nat.gcd_zero_right] at this
      rw [this]
    · have hq0 : (0 : Int) < (q : Int) := by omega
      have hne : ((q : Int) != 0) = true := by simp; omega
      go_wp2
      go_quiet (fail)
      go_wp2
      go_roundw
      case rel =>
        refine ⟨q, p % q, by omega, by have := Nat.mod_lt p (show 0 < q by omega); omega, rfl, by go_num, ?_, n + nq, by simp⟩
        have := hg.out
        show Nat.gcd q (p % q) = _
        rw [← this, Nat.gcd_comm p q, Nat.gcd_rec q p, Nat.gcd_comm]
      case measure =>
        have := Nat.mod_lt p (show 0 < q by omega)
        simp [intOf]; omega
theorem gcd_is (a b g : Int) (ha0 : 0 ≤ a) (ha : a ≤ 65536) (hb0 : 0 ≤ b) (hb : b ≤ 65536) (hg : ((Nat.gcd a.toNat b.toNat : Nat) : Int) = g) (w : World) :
    Calls Try.prog 11 #[.int .i64 a, .int .i64 b] w fun e w' => e = .returned (.int .i64 g) ∧ ∃ n, w' = w.drewN n := by
  obtain ⟨a, rfl⟩ := Int.eq_ofNat_of_zero_le ha0
  obtain ⟨b, rfl⟩ := Int.eq_ofNat_of_zero_le hb0
  subst hg
  exact gcd_any a b (by omega) (by omega) w
theorem zzgcd_is (a b g : Int) (ha0 : 0 ≤ a) (ha : a ≤ 65536) (hb0 : 0 ≤ b) (hb : b ≤ 65536) (hg : ((Nat.gcd a.toNat b.toNat : Nat) : Int) = g) (w : World) :
    Calls Try.prog 8 #[.int .i64 a, .int .i64 b] w fun e w' => e = .returned (.int .i64 g) ∧ ∃ n, w' = w.drewN n := by
  obtain ⟨a, rfl⟩ := Int.eq_ofNat_of_zero_le ha0
  obtain ⟨b, rfl⟩ := Int.eq_ofNat_of_zero_le hb0
  subst hg
  exact zzgcd_any a b (by omega) (by omega) w
end Go.Proofs.Qxb6627618a
