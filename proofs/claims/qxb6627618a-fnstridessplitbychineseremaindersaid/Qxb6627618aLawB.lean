/-
  The walk of FnStridesSplitByChineseRemainder.
-/
import Derived.Test.Qxb6627618aPos
import Derived.Test.Qxb6627618aCrt
import Derived.Lib.SliceRun
namespace Go.Proofs.Qxb6627618a
open Go.RowKit
set_option linter.unusedSimpArgs false
set_option linter.unusedVariables false

theorem Try.info4 : (Try.prog.info? 4).map (fun i => (i.zero, i.size, i.bytes)) = some (some (.bool false), 1, 1) := by kernel_rfl

/-- Nothing is asked: a number out of range. -/
theorem lawB_out (a b : Int) (h : a < 1 ∨ b < 1 ∨ 65536 < a ∨ 65536 < b) (w : World) :
    Calls Try.prog 4 #[.int .i64 a, .int .i64 b] w fun e w' => e = .returned (.bool true) ∧ Below w.heap.size w w' := by
  have h3 : a < 1 ∨ (¬ a < 1 ∧ b < 1) ∨ (¬ a < 1 ∧ ¬ b < 1 ∧ 65536 < a) ∨ (¬ a < 1 ∧ ¬ b < 1 ∧ ¬ 65536 < a ∧ 65536 < b) := by omega
  clear h
  rcases h3 with h | ⟨h, h'⟩ | ⟨h, h', h''⟩ | ⟨h, h', h'', h'''⟩
  all_goals
    go_enter Try.func4, Try.ntmps4
    go_wp2
    go_ret
    exact ⟨rfl, Below.refl _ _⟩

theorem lawB_wide (A B : Nat) (hA1 : 1 ≤ A) (hB1 : 1 ≤ B) (hA : A ≤ 65536) (hB : B ≤ 65536) (h : 65536 / (B : Int) < (A : Int)) (w : World) :
    Calls Try.prog 4 #[.int .i64 A, .int .i64 B] w fun e w' => e = .returned (.bool true) ∧ Below w.heap.size w w' := by
  have h1 : ¬ (A : Int) < 1 := by omega
  have h2 : ¬ (B : Int) < 1 := by omega
  have h3 : ¬ 65536 < (A : Int) := by omega
  have h4 : ¬ 65536 < (B : Int) := by omega
  have hq0 : (0 : Int) ≤ 65536 / (B : Int) := Int.ediv_nonneg (by omega) (by omega)
  have hq1 : 65536 / (B : Int) ≤ 65536 := Int.ediv_le_self _ (by omega)
  go_enter Try.func4, Try.ntmps4
  go_wp2
  go_ret
  exact ⟨rfl, Below.refl _ _⟩

theorem lawB_common (A B : Nat) (hA1 : 1 ≤ A) (hB1 : 1 ≤ B) (hA : A ≤ 65536) (hB : B ≤ 65536) (h : ¬ 65536 / (B : Int) < (A : Int)) (hg : ¬ Nat.gcd A B = 1) (w : World) :
    Calls Try.prog 4 #[.int .i64 A, .int .i64 B] w fun e w' => e = .returned (.bool true) ∧ Below w.heap.size w w' := by
  have h1 : ¬ (A : Int) < 1 := by omega
  have h2 : ¬ (B : Int) < 1 := by omega
  have h3 : ¬ 65536 < (A : Int) := by omega
  have h4 : ¬ 65536 < (B : Int) := by omega
  have hq0 : (0 : Int) ≤ 65536 / (B : Int) := Int.ediv_nonneg (by omega) (by omega)
  have hq1 : 65536 / (B : Int) ≤ 65536 := Int.ediv_le_self _ (by omega)
  obtain ⟨d, hd⟩ : ∃ d : Int, ((Nat.gcd A B : Nat) : Int) = d := ⟨_, rfl⟩
  have hd1 : (d != 1) = true := by rw [← hd]; simp; omega
  have Hd : Hid _ := hd
  clear hd hg
  go_enter Try.func4, Try.ntmps4
  go_wp2_with fail
  refine (zzgcd_is _ _ d (by omega) (by omega) (by omega) (by omega) (by rw [Int.toNat_natCast, Int.toNat_natCast]; exact Hd) _).mono ?_
  rintro e w1 ⟨rfl, hw1⟩
  go_wp2
  go_ret
  exact ⟨rfl, by obtain ⟨n1, rfl⟩ := hw1; exact ⟨rfl, rfl, rfl, Nat.le_refl _, fun _ _ => rfl⟩⟩

theorem key_exN {A B N x : Nat} (hA : 1 ≤ A) (hB : 1 ≤ B) (hN : N = A * B) (hx : x ∈ Stl.strides N) : ∃ i j, i < (Stl.strides A).length ∧ j < (Stl.strides B).length ∧ (Stl.strides A).getD i 0 = rd x A ∧ (Stl.strides B).getD j 0 = rd x B := by
  subst hN
  exact key_ex hA hB hx

theorem rd_le {x a : Nat} (ha : 1 ≤ a) : rd x a ≤ a := by
  have := Nat.mod_lt x (show 0 < a by omega)
  unfold rd; split <;> omega

theorem rd_ways (x a : Nat) (ha : 1 ≤ a) : ((x : Int) % (a : Int) = 0 ∧ rd x a = a) ∨ ∃ r : Nat, (x : Int) % (a : Int) = (r : Int) ∧ rd x a = r ∧ ((r : Int) == 0) = false ∧ r < a := by
  have hlt := Nat.mod_lt x (show 0 < a by omega)
  by_cases h0 : x % a = 0
  · refine .inl ⟨?_, by rw [rd, if_pos h0]⟩
    have : ((x % a : Nat) : Int) = 0 := by omega
    rwa [Int.natCast_emod] at this
  · exact .inr ⟨x % a, (Int.natCast_emod x a).symm, by rw [rd, if_neg h0], by simpa using (show ((x % a : Nat) : Int) ≠ 0 by omega), hlt⟩

/-- The marks: block g holds L bools; where one is true some earlier stride has that key. -/
structure Seen (w : World) (g A B N k : Nat) : Prop where
  lt : g < w.heap.size
  cell : ∀ d, d < (Stl.strides N).length → ∃ b, w.cell? ⟨g, d, none⟩ = some (.bool b) ∧ w.frozen? ⟨g, d, none⟩ = false ∧ (b = true → ∃ j, j < k ∧ Key A B ((Stl.strides N).getD j 0) d)

theorem seen_made {w : World} {base g A B N : Nat} (hN : 1 ≤ N) (h : w.ownsRow base 4 1 (.slice (some ⟨g, 0, none⟩) (Stl.strides N).length (Stl.strides N).length) (Stl.strides N).length (madeCells #[Value.bool false] (Stl.strides N).length).toList) : Seen w g A B N 0 := by
  refine ⟨?_, fun d hd => ⟨false, ?_, h.frozenAt d, fun e => by cases e⟩⟩
  · rcases h.2 with ⟨h', _⟩ | ⟨g', cap', cur, h', _, hg, _⟩
    · simp at h'
    · simp only [Value.slice.injEq, Option.some.injEq, Addr.mk.injEq, and_true, true_and] at h'
      obtain ⟨rfl, rfl⟩ := h'
      exact (Array.getElem?_eq_some_iff.1 hg).1
  · rw [h.cellAt d (by omega), toList_madeCells_one]
    simp [hd]

theorem Seen.mark {w : World} {g A B N k d : Nat} (h : Seen w g A B N k) (hd : d < (Stl.strides N).length) (hk : Key A B ((Stl.strides N).getD k 0) d) : Seen (w.setCell ⟨g, d, none⟩ (.bool true)) g A B N (k + 1) := by
  refine ⟨by simpa [World.setCell] using h.lt, fun d' hd' => ?_⟩
  obtain ⟨b, h1, h2, h3⟩ := h.cell d' hd'
  by_cases e : d' = d
  · subst e
    exact ⟨true, World.cell?_setCell_same _ _ _ h1, by rw [World.frozen?_setCell]; exact h2, fun _ => ⟨k, by omega, hk⟩⟩
  · refine ⟨b, ?_, by rw [World.frozen?_setCell]; exact h2, fun hb => ?_⟩
    · rw [World.cell?_setCell_other _ _ _ _ (by simp only [ne_eq, Addr.mk.injEq, true_and, and_true]; omega)]; exact h1
    · obtain ⟨j, hj, hj'⟩ := h3 hb
      exact ⟨j, by omega, hj'⟩

/-- A mark that is not yet there. -/
theorem Seen.fresh {w : World} {g A B N k d : Nat} (h : Seen w g A B N k) (hA : 1 ≤ A) (hB : 1 ≤ B) (hg : Nat.gcd A B = 1) (hN : N = A * B) (hk : k < (Stl.strides N).length) (hd : d < (Stl.strides N).length) (hK : Key A B ((Stl.strides N).getD k 0) d) :
    w.cell? ⟨g, d, none⟩ = some (.bool false) ∧ w.frozen? ⟨g, d, none⟩ = false := by
  obtain ⟨b, h1, h2, h3⟩ := h.cell d hd
  cases b with
  | false => exact ⟨h1, h2⟩
  | true =>
    obtain ⟨j, hj, hj'⟩ := h3 rfl
    exfalso
    have e := key_tells hA hB hg (hN ▸ getD_mem (show j < (Stl.strides N).length by omega)) (hN ▸ getD_mem hk) hj' hK
    have := strides_lt hj hk
    omega

set_option maxHeartbeats 4000000 in
set_option maxRecDepth 100000 in
theorem lawB_pos (A B N : Nat) (hA1 : 1 ≤ A) (hB1 : 1 ≤ B) (hA : A ≤ 65536) (hB : B ≤ 65536) (hN : N = A * B) (hN6 : N ≤ 65536) (h : ¬ 65536 / (B : Int) < (A : Int)) (hg : Nat.gcd A B = 1) (w : World) :
    Calls Try.prog 4 #[.int .i64 A, .int .i64 B] w fun e w' => e = .returned (.bool true) ∧ Below w.heap.size w w' := by
  have h1 : ¬ (A : Int) < 1 := by omega
  have h2 : ¬ (B : Int) < 1 := by omega
  have h3 : ¬ 65536 < (A : Int) := by omega
  have h4 : ¬ 65536 < (B : Int) := by omega
  have hq0 : (0 : Int) ≤ 65536 / (B : Int) := Int.ediv_nonneg (by omega) (by omega)
  have hq1 : 65536 / (B : Int) ≤ 65536 := Int.ediv_le_self _ (by omega)
  have hN1 : 1 ≤ N := by rw [hN]; exact Nat.mul_pos hA1 hB1
  have hAB : (A : Int) * (B : Int) = (N : Int) := by rw [hN, Int.natCast_mul]
  have hlm : (Stl.strides N).length = (Stl.strides A).length * (Stl.strides B).length := by rw [hN]; exact Stl.strides_len_mul hA1 hB1 hg
  have hLL : ((Stl.strides A).length : Int) * ((Stl.strides B).length : Int) = ((Stl.strides N).length : Int) := by rw [hlm, Int.natCast_mul]
  have lN : (Stl.strides N).length ≤ N := str_length_le N N
  have lA : (Stl.strides A).length ≤ A := str_length_le A A
  have lB : (Stl.strides B).length ≤ B := str_length_le B B
  obtain ⟨i4, bi, bz0, bz1, bz2⟩ := info_parts Try.info4
  have HN : Hid _ := hN
  have HG : Hid _ := hg
  have HLM : Hid _ := hlm
  clear hN hg hlm
  go_enter Try.func4, Try.ntmps4
  go_wp2_with fail
  refine (zzgcd_is _ _ 1 (by omega) (by omega) (by omega) (by omega) (by rw [Int.toNat_natCast, Int.toNat_natCast, HG.out]; rfl) _).mono ?_
  rintro e w1 ⟨rfl, hw1⟩
  have HB1 : Hid (Below w.heap.size w w1) := by obtain ⟨n1, rfl⟩ := hw1; exact ⟨rfl, rfl, rfl, Nat.le_refl _, fun _ _ => rfl⟩
  clear hw1
  go_wp2_with fail
  refine (zzorder_nat N hN6 _).mono ?_
  rintro e w2 ⟨aoN, capN, rfl, hrow, hb⟩
  have HRN : Hid _ := hrow
  have HB2 : Hid (Below w.heap.size w w2) := HB1.out.trans (hb.mono HB1.out.size)
  clear hrow hb HB1
  go_wp2_with fail
  refine (zzorder_nat A hA _).mono ?_
  rintro e w3 ⟨aoA, capA, rfl, hrow, hb⟩
  have HRN3 : Hid _ := HRN.out.below hb
  have HRA : Hid _ := hrow
  have HB3 : Hid (Below w.heap.size w w3) := HB2.out.trans (hb.mono HB2.out.size)
  clear hrow hb HB2 HRN
  go_wp2_with fail
  refine (zzorder_nat B hB _).mono ?_
  rintro e w4 ⟨aoB, capB, rfl, hrow, hb⟩
  have HRN4 : Hid _ := HRN3.out.below hb
  have HRA4 : Hid _ := HRA.out.below hb
  have HRB : Hid _ := hrow
  have HB4 : Hid (Below w.heap.size w w4) := HB3.out.trans (hb.mono HB3.out.size)
  clear hrow hb HB3 HRN3 HRA
  have hs1 := has_one N hN1
  have sA : ∀ x ∈ Stl.strides A, 1 ≤ x ∧ x ≤ A := fun x hx => ⟨(Stl.strides_mem.1 hx).1, (Stl.strides_mem.1 hx).2.1⟩
  have sB : ∀ x ∈ Stl.strides B, 1 ≤ x ∧ x ≤ B := fun x hx => ⟨(Stl.strides_mem.1 hx).1, (Stl.strides_mem.1 hx).2.1⟩
  have HsA : Hid _ := sA
  have HsB : Hid _ := sB
  clear sA sB
  have ways : (¬ (2 : Int) ≤ (N : Int)) ∨ ((2 : Int) ≤ (N : Int) ∧ hasB (Stl.strides N) ((N : Int) - 1) = true) := by
    by_cases h2N : 2 ≤ N
    · exact .inr ⟨by omega, has_last N h2N⟩
    · exact .inl (by omega)
  have hnil := fun (W : World) (g n c : Nat) => Lib.run_eql_slice_nil (P := Try.prog) W 22 3 (some ⟨g, 0, none⟩) n c 0 0 Try.underlying22
  go_wp2_with fail
  refine (has_any _ _ _ _ _ _ (by omega) HRN4.out).mono ?_
  rintro e w5 ⟨rfl, hw5⟩
  subst hw5
  rcases ways with h2N | ⟨h2N, hs2⟩
  · go_wp2_with fail
    refine (positions_any _ A _ _ _ _ hA (by omega) HsA.out (Stl.strides_nodup A) HRA4.out).mono ?_
    rintro e w6 ⟨gA, rfl, hTA, hb6⟩
    have HRN6 : Hid _ := HRN4.out.below hb6
    have HRB6 : Hid _ := HRB.out.below hb6
    have HTA : Hid _ := hTA
    have HB6 : Hid (Below w.heap.size w w6) := HB4.out.trans (hb6.mono HB4.out.size)
    clear hTA hb6 HRN4 HRB HB4 HRA4
    go_wp2_with fail
    refine (positions_any _ B _ _ _ _ hB (by omega) HsB.out (Stl.strides_nodup B) HRB6.out).mono ?_
    rintro e w7 ⟨gB, rfl, hTB, hb7⟩
    have HRN7 : Hid _ := HRN6.out.below hb7
    have HTA7 : Hid _ := HTA.out.below hb7
    have HTB : Hid _ := hTB
    have HB7 : Hid (Below w.heap.size w w7) := HB6.out.trans (hb7.mono HB6.out.size)
    clear hTB hb7 HRN6 HRB6 HB6 HTA
    go_wp2_with (at_make; refine wpList_make_full _ rfl _ _ 30 rfl w7.heap.size 4 i4 (.bool false) 1 Try.underlying30 bi bz0 bz1 .i64 .i64 _ _ (Stl.strides N).length rfl rfl rfl rfl (by rw [bz2]; omega) (by unfold maxLen; omega) (by simp) ?_)
    intro w8 hown hgrow
    have HS : Hid (Seen w8 w7.heap.size A B N 0) := seen_made hN1 hown
    have hb8 : Below w7.heap.size w7 w8 := (Below.refl _ _).grown hgrow (Nat.le_refl _) (fun k h => by cases h)
    have HB8 : Hid (Below w7.heap.size w7 w8) := hb8
    clear hown hgrow hb8 hnil bi bz0 bz1 bz2
    go_wp2
    go_loopw [16, 102] (fun _ i wr => ∃ k : Nat, k ≤ (Stl.strides N).length ∧ i = .int .i64 k ∧ Hid (Seen wr w7.heap.size A B N k) ∧ Hid (Below w7.heap.size w7 wr)) (fun _ i _ => (Stl.strides N).length - (intOf i).toNat)
    case atStart => exact ⟨0, Nat.zero_le _, rfl, HS, HB8⟩
    case round =>
      obtain ⟨k, hk, rfl, hS, hB9⟩ := hrel
      by_cases hlt : k < (Stl.strides N).length
      · obtain ⟨g, rfl, hg1, hg2, hc⟩ := (HRN7.out.below hB9.out).at_ (by intro h; rw [h] at hlt; simp at hlt)
        have hck := hc k hlt
        have hxm := getD_mem hlt
        obtain ⟨hx1, hx2, _⟩ := Stl.strides_mem.1 hxm
        obtain ⟨i, j, hi, hj, ei, ej⟩ := key_exN hA1 hB1 HN.out hxm
        have hd := key_lt hi hj
        rw [← HLM.out] at hd
        have hK : Key A B ((Stl.strides N).getD k 0) (i * (Stl.strides B).length + j) := ⟨i, j, hi, hj, ei, ej, rfl⟩
        obtain ⟨hcS, hfS⟩ := hS.out.fresh hA1 hB1 HG.out HN.out hlt hd hK
        have HS' : Hid _ := hS.out.mark hd hK
        have HB' : Hid (Below w7.heap.size w7 (wr.setCell ⟨w7.heap.size, i * (Stl.strides B).length + j, none⟩ (.bool true))) := hB9.out.setCell (by simp) _
        have pA := pl_at (Stl.strides_nodup A) _ (Nat.le_refl _) i hi
        have pB := pl_at (Stl.strides_nodup B) _ (Nat.le_refl _) j hj
        rw [ei] at pA
        rw [ej] at pB
        have rA : rd ((Stl.strides N).getD k 0) A < A + 1 := by have := rd_le (x := (Stl.strides N).getD k 0) hA1; omega
        have rB : rd ((Stl.strides N).getD k 0) B < B + 1 := by have := rd_le (x := (Stl.strides N).getD k 0) hB1; omega
        have hcA := (HTA7.out.below hB9.out).cell _ rA
        have hcB := (HTB.out.below hB9.out).cell _ rB
        rw [pA] at hcA
        rw [pB] at hcB
        have hq : (i : Int) * ((Stl.strides B).length : Int) = ((i * (Stl.strides B).length : Nat) : Int) := (Int.natCast_mul _ _).symm
        clear hc hxm ei ej hK hS hB9 pA pB rA rB
        generalize i * (Stl.strides B).length = q at *
        generalize (Stl.strides N).getD k 0 = x at *
        have t1 : ¬ (x : Int) < 1 := by omega
        have t2 : ¬ (N : Int) < (x : Int) := by omega
        rcases rd_ways x A hA1 with ⟨e1, e2⟩ | ⟨r1, e1, e2, e3, e4⟩
        all_goals
          rw [e2] at hcA
          clear e2
          rcases rd_ways x B hB1 with ⟨f1, f2⟩ | ⟨r2, f1, f2, f3, f4⟩
          all_goals
            rw [f2] at hcB
            clear f2
            go_wp2
            go_roundw
            case rel => exact ⟨k + 1, by omega, by go_num, HS', HB'⟩
            case measure => simp [intOf]; omega
      · go_wp2
        go_ret
        exact ⟨rfl, HB7.out.trans (hB9.out.mono HB7.out.size)⟩
  · go_wp2_with fail
    refine (has_any _ _ _ _ _ _ (by omega) HRN4.out).mono ?_
    rintro e w5' ⟨rfl, hw5⟩
    subst hw5
    go_wp2_with fail
    refine (positions_any _ A _ _ _ _ hA (by omega) HsA.out (Stl.strides_nodup A) HRA4.out).mono ?_
    rintro e w6 ⟨gA, rfl, hTA, hb6⟩
    have HRN6 : Hid _ := HRN4.out.below hb6
    have HRB6 : Hid _ := HRB.out.below hb6
    have HTA : Hid _ := hTA
    have HB6 : Hid (Below w.heap.size w w6) := HB4.out.trans (hb6.mono HB4.out.size)
    clear hTA hb6 HRN4 HRB HB4 HRA4
    go_wp2_with fail
    refine (positions_any _ B _ _ _ _ hB (by omega) HsB.out (Stl.strides_nodup B) HRB6.out).mono ?_
    rintro e w7 ⟨gB, rfl, hTB, hb7⟩
    have HRN7 : Hid _ := HRN6.out.below hb7
    have HTA7 : Hid _ := HTA.out.below hb7
    have HTB : Hid _ := hTB
    have HB7 : Hid (Below w.heap.size w w7) := HB6.out.trans (hb7.mono HB6.out.size)
    clear hTB hb7 HRN6 HRB6 HB6 HTA
    go_wp2_with (at_make; refine wpList_make_full _ rfl _ _ 30 rfl w7.heap.size 4 i4 (.bool false) 1 Try.underlying30 bi bz0 bz1 .i64 .i64 _ _ (Stl.strides N).length rfl rfl rfl rfl (by rw [bz2]; omega) (by unfold maxLen; omega) (by simp) ?_)
    intro w8 hown hgrow
    have HS : Hid (Seen w8 w7.heap.size A B N 0) := seen_made hN1 hown
    have hb8 : Below w7.heap.size w7 w8 := (Below.refl _ _).grown hgrow (Nat.le_refl _) (fun k h => by cases h)
    have HB8 : Hid (Below w7.heap.size w7 w8) := hb8
    clear hown hgrow hb8 hnil bi bz0 bz1 bz2
    go_wp2
    go_loopw [16, 102] (fun _ i wr => ∃ k : Nat, k ≤ (Stl.strides N).length ∧ i = .int .i64 k ∧ Hid (Seen wr w7.heap.size A B N k) ∧ Hid (Below w7.heap.size w7 wr)) (fun _ i _ => (Stl.strides N).length - (intOf i).toNat)
    case atStart => exact ⟨0, Nat.zero_le _, rfl, HS, HB8⟩
    case round =>
      obtain ⟨k, hk, rfl, hS, hB9⟩ := hrel
      by_cases hlt : k < (Stl.strides N).length
      · obtain ⟨g, rfl, hg1, hg2, hc⟩ := (HRN7.out.below hB9.out).at_ (by intro h; rw [h] at hlt; simp at hlt)
        have hck := hc k hlt
        have hxm := getD_mem hlt
        obtain ⟨hx1, hx2, _⟩ := Stl.strides_mem.1 hxm
        obtain ⟨i, j, hi, hj, ei, ej⟩ := key_exN hA1 hB1 HN.out hxm
        have hd := key_lt hi hj
        rw [← HLM.out] at hd
        have hK : Key A B ((Stl.strides N).getD k 0) (i * (Stl.strides B).length + j) := ⟨i, j, hi, hj, ei, ej, rfl⟩
        obtain ⟨hcS, hfS⟩ := hS.out.fresh hA1 hB1 HG.out HN.out hlt hd hK
        have HS' : Hid _ := hS.out.mark hd hK
        have HB' : Hid (Below w7.heap.size w7 (wr.setCell ⟨w7.heap.size, i * (Stl.strides B).length + j, none⟩ (.bool true))) := hB9.out.setCell (by simp) _
        have pA := pl_at (Stl.strides_nodup A) _ (Nat.le_refl _) i hi
        have pB := pl_at (Stl.strides_nodup B) _ (Nat.le_refl _) j hj
        rw [ei] at pA
        rw [ej] at pB
        have rA : rd ((Stl.strides N).getD k 0) A < A + 1 := by have := rd_le (x := (Stl.strides N).getD k 0) hA1; omega
        have rB : rd ((Stl.strides N).getD k 0) B < B + 1 := by have := rd_le (x := (Stl.strides N).getD k 0) hB1; omega
        have hcA := (HTA7.out.below hB9.out).cell _ rA
        have hcB := (HTB.out.below hB9.out).cell _ rB
        rw [pA] at hcA
        rw [pB] at hcB
        have hq : (i : Int) * ((Stl.strides B).length : Int) = ((i * (Stl.strides B).length : Nat) : Int) := (Int.natCast_mul _ _).symm
        clear hc hxm ei ej hK hS hB9 pA pB rA rB
        generalize i * (Stl.strides B).length = q at *
        generalize (Stl.strides N).getD k 0 = x at *
        have t1 : ¬ (x : Int) < 1 := by omega
        have t2 : ¬ (N : Int) < (x : Int) := by omega
        rcases rd_ways x A hA1 with ⟨e1, e2⟩ | ⟨r1, e1, e2, e3, e4⟩
        all_goals
          rw [e2] at hcA
          clear e2
          rcases rd_ways x B hB1 with ⟨f1, f2⟩ | ⟨r2, f1, f2, f3, f4⟩
          all_goals
            rw [f2] at hcB
            clear f2
            go_wp2
            go_roundw
            case rel => exact ⟨k + 1, by omega, by go_num, HS', HB'⟩
            case measure => simp [intOf]; omega
      · go_wp2
        go_ret
        exact ⟨rfl, HB7.out.trans (hB9.out.mono HB7.out.size)⟩

/-- The law, at every input. -/
theorem lawB_any (a b : Int) (w : World) :
    Calls Try.prog 4 #[.int .i64 a, .int .i64 b] w fun e w' => e = .returned (.bool true) ∧ Below w.heap.size w w' := by
  by_cases hout : a < 1 ∨ b < 1 ∨ 65536 < a ∨ 65536 < b
  · exact lawB_out a b hout w
  · obtain ⟨A, rfl⟩ := Int.eq_ofNat_of_zero_le (show 0 ≤ a by omega)
    obtain ⟨B, rfl⟩ := Int.eq_ofNat_of_zero_le (show 0 ≤ b by omega)
    by_cases hw : 65536 / (B : Int) < (A : Int)
    · exact lawB_wide A B (by omega) (by omega) (by omega) (by omega) hw w
    · by_cases hg : Nat.gcd A B = 1
      · refine lawB_pos A B (A * B) (by omega) (by omega) (by omega) (by omega) rfl ?_ hw hg w
        have h1 : (A : Int) * (B : Int) ≤ 65536 / (B : Int) * (B : Int) := Int.mul_le_mul_of_nonneg_right (by omega) (by omega)
        have h2 : 65536 / (B : Int) * (B : Int) ≤ 65536 := Int.ediv_mul_le _ (by omega)
        have h3 : ((A * B : Nat) : Int) = (A : Int) * (B : Int) := Int.natCast_mul A B
        omega
      · exact lawB_common A B (by omega) (by omega) (by omega) (by omega) hw hg w
end Go.Proofs.Qxb6627618a
