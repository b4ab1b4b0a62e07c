/-
  The contract of zzPrimeFactors.
-/
import Derived.Test.Qxb6627618aOrder
import Derived.Test.Qxb6627618aTrial
namespace Go.Proofs.Qxb6627618a
open Go.RowKit
set_option linter.unusedSimpArgs false
set_option linter.unusedVariables false

theorem d_le {d m : Nat} (h : d * d ≤ m) (hm : m ≤ 65536) : d ≤ 256 := by
  rcases Nat.lt_or_ge d 257 with h1 | h1
  · omega
  · have := Nat.mul_le_mul h1 h1; omega

/-- What zzPrimeFactors leaves: a slice of the primes of n, each once. -/
def PrimesPost (n : Nat) (w : World) (e : Ending) (w' : World) : Prop :=
  ∃ (ps : List Nat) (ao : Option Addr) (cap : Nat), e = .returned (.slice ao ps.length cap) ∧ Stl.PF n ps ∧ ps.length ≤ 65536 ∧ Row w' w.heap.size ao ps ∧ Below w.heap.size w w'

set_option maxHeartbeats 1000000 in
theorem primes_any (n : Nat) (hn1 : 1 ≤ n) (hn : n ≤ 65536) (w : World) :
    Calls Try.prog 6 #[.int .i64 n] w fun e w' => PrimesPost n w e w' := by
  obtain ⟨i0, hi, hz0, hz1, hz2⟩ := info_parts Try.info3
  go_enter Try.func6, Try.ntmps6
  go_wp2
  go_loopw [0, 3, 4] (fun x v t wr => ∃ (m d : Nat) (l : List Nat), x = .int .i64 m ∧ t = .int .i64 d ∧ d ≤ 257 ∧ Hid (Stl.Tr n m d l) ∧ wr.ownsRow w.heap.size 3 1 v l.length (vals l) ∧ Below w.heap.size w wr) (fun _ _ t _ => 258 - (intOf t).toNat)
  case atStart => exact ⟨n, 2, [], rfl, rfl, by omega, Stl.tr_start n hn1, World.ownsRow_nil _ _ _ _, Below.refl _ _⟩
  case round =>
    obtain ⟨m, d, l, rfl, rfl, hd257, hT, hown, hbel⟩ := hrel
    have hm1 := hT.out.m1
    have hmn := hT.out.mn
    have hd2 := hT.out.d2
    have hlen := hT.out.len
    have HO : Hid (wr.ownsRow w.heap.size 3 1 u3 l.length (vals l)) := hown
    have HB : Hid _ := hbel
    have hsz := hbel.size
    clear hown hbel
    have hp1 : (d : Int) * (d : Int) ≤ 66049 := by
      have := Nat.mul_le_mul hd257 hd257
      have h2 : ((d * d : Nat) : Int) ≤ ((257 * 257 : Nat) : Int) := by omega
      rw [Int.natCast_mul] at h2; omega
    have hp0 : (0 : Int) ≤ (d : Int) * (d : Int) := Int.mul_nonneg (by omega) (by omega)
    by_cases hdd : d * d ≤ m
    · have hle : (d : Int) * (d : Int) ≤ (m : Int) := by
        have h2 : ((d * d : Nat) : Int) ≤ (m : Int) := by omega
        rwa [Int.natCast_mul] at h2
      have hd256 := d_le hdd (by omega)
      by_cases hdv : m % d = 0
      · have hb : ((m : Int) % (d : Int) == 0) = true := by
          have : ((m % d : Nat) : Int) = 0 := by omega
          rw [Int.natCast_emod] at this; rw [this]; rfl
        have HV : Hid _ := hdv
        clear hdv
        go_wp2_with (at_builtin; refine wpList_append_own _ rfl _ _ 22 rfl w.heap.size 3 i0 (.int .i64 0) 1 8 Try.underlying22 hi hz0 hz1 hz2 rfl (by decide) _ _ _ rfl (HO.out.alloc _) ⟨wr.heap.size, 0, none⟩ 1 1 [.int .i64 (d : Int)] rfl rfl (cell_one_new _ _ _) ?s2 ?s3 ?s4 ?s5 ?_)
        case s2 => intro u hu; simp at hu; subst hu; rfl
        case s3 => unfold maxLen; omega
        case s4 => omega
        case s5 => simp; omega
        intro v' w2 hown' hgrow _
        have HO2 : Hid (w2.ownsRow w.heap.size 3 1 v' (l ++ [d]).length (vals (l ++ [d]))) := by
          show World.ownsRow _ _ _ _ _ _ _
          rw [vals_append]
          simpa [vals] using hown'
        have HB2 : Hid (Below w.heap.size w w2) := (HB.out.alloc hsz _).grown hgrow (by simp; omega) (own_base HO.out)
        clear hown' hgrow HO HB hsz
        go_wp2
        go_loop [0] (fun x => ∃ k : Nat, x = .int .i64 k ∧ k ≤ m ∧ Hid (Stl.Din m d k)) (fun x => (intOf x).toNat)
        case atStart => exact ⟨m, rfl, by omega, Stl.din_start hm1⟩
        case round =>
          obtain ⟨k, rfl, hkm, hD⟩ := hrel
          have hk1 := hD.out.k1
          by_cases hk : k % d = 0
          · have hbk : ((k : Int) % (d : Int) == 0) = true := by
              have : ((k % d : Nat) : Int) = 0 := by omega
              rw [Int.natCast_emod] at this; rw [this]; rfl
            obtain ⟨hD', hlt⟩ := Stl.Din.step (hT.out.d_prime HV.out) hD.out hk
            have HD' : Hid _ := hD'
            have hqe : ((k / d : Nat) : Int) = (k : Int) / (d : Int) := Int.natCast_ediv k d
            have hq0 : (0 : Int) ≤ (k : Int) / (d : Int) := by rw [← hqe]; exact Int.natCast_nonneg _
            have hq1 : (k : Int) / (d : Int) ≤ 65536 := by omega
            clear hk hD' hqe
            go_wp2
            go_round
            case rel => exact ⟨k / d, by go_num, by omega, HD'⟩
            case measure => simp [intOf]; omega
          · have hbk : ((k : Int) % (d : Int) == 0) = false := by
              have : ((k % d : Nat) : Int) ≠ 0 := by omega
              rw [Int.natCast_emod] at this; simpa using this
            have HT' : Hid _ := hT.out.took HV.out hD.out hk
            clear hk
            go_wp2
            go_roundw
            case rel => exact ⟨k, d + 1, l ++ [d], rfl, by go_num, by omega, HT', HO2.out, HB2.out⟩
            case measure => simp [intOf]; omega
      · have hb : ((m : Int) % (d : Int) == 0) = false := by
          have : ((m % d : Nat) : Int) ≠ 0 := by omega
          rw [Int.natCast_emod] at this; simpa using this
        have HT' : Hid _ := hT.out.skip hdv
        clear hdv
        go_wp2
        go_roundw
        case rel => exact ⟨m, d + 1, l, rfl, by go_num, by omega, HT', HO.out, HB.out⟩
        case measure => simp [intOf]; omega
    · have hle : ¬ (d : Int) * (d : Int) ≤ (m : Int) := by
        have h2 : ¬ ((d * d : Nat) : Int) ≤ (m : Int) := by omega
        rwa [Int.natCast_mul] at h2
      have hdd' : m < d * d := by omega
      clear hdd
      by_cases hm : 1 < m
      · have hm' : (1 : Int) < (m : Int) := by omega
        have HF : Hid _ := hT.out.fin_more hdd' hm
        go_wp2_with (at_builtin; refine wpList_append_own _ rfl _ _ 22 rfl w.heap.size 3 i0 (.int .i64 0) 1 8 Try.underlying22 hi hz0 hz1 hz2 rfl (by decide) _ _ _ rfl (HO.out.alloc _) ⟨wr.heap.size, 0, none⟩ 1 1 [.int .i64 (m : Int)] rfl rfl (cell_one_new _ _ _) ?r2 ?r3 ?r4 ?r5 ?_)
        case r2 => first | rfl | (intro u hu; simp at hu; subst hu; rfl)
        case r3 => unfold maxLen; omega
        case r4 => omega
        case r5 => first | omega | (simp; omega)
        intro v' w2 hown' hgrow _
        have HO2 : Hid (w2.ownsRow w.heap.size 3 1 v' (l ++ [m]).length (vals (l ++ [m]))) := by
          show World.ownsRow _ _ _ _ _ _ _
          rw [vals_append]
          simpa [vals] using hown'
        have HB2 : Hid (Below w.heap.size w w2) := (HB.out.alloc hsz _).grown hgrow (by simp; omega) (own_base HO.out)
        clear hown' hgrow HO HB hsz
        obtain ⟨ao, cap, rfl, hrow⟩ := row_of_own HO2.out
        have HR : Hid _ := hrow
        clear hrow HO2
        go_wp2
        go_ret
        exact ⟨_, ao, cap, rfl, HF.out, by simp; omega, HR.out, HB2.out⟩
      · have hm' : ¬ (1 : Int) < (m : Int) := by omega
        obtain rfl : m = 1 := by omega
        have HF : Hid _ := hT.out.fin_one
        obtain ⟨ao, cap, rfl, hrow⟩ := row_of_own HO.out
        have HR : Hid _ := hrow
        clear hrow HO
        go_wp2
        go_ret
        exact ⟨_, ao, cap, rfl, HF.out, by omega, HR.out, HB.out⟩
end Go.Proofs.Qxb6627618a
