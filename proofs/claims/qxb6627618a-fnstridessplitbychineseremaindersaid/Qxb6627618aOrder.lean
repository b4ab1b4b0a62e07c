/-
  The contracts of newStealOrder and ZZnewStealOrder.
-/
import Derived.Test.Qxb6627618aGcd
import Derived.Test.Qxb6627618aNum
namespace Go.Proofs.Qxb6627618a
open Go.RowKit
set_option linter.unusedSimpArgs false
set_option linter.unusedVariables false

theorem Try.info3 : (Try.prog.info? 3).map (fun i => (i.zero, i.size, i.bytes)) = some (some (.int .i64 0), 1, 8) := by kernel_rfl

/-- A list of numbers as cells. -/
def vals (l : List Nat) : List Value := l.map fun x : Nat => Value.int .i64 (x : Int)
theorem vals_append (a b : List Nat) : vals (a ++ b) = vals a ++ vals b := List.map_append
theorem vals_length (a : List Nat) : (vals a).length = a.length := List.length_map _

theorem str_length_le (n k : Nat) : (Stl.str n k).length ≤ k := by
  induction k with
  | zero => simp [Stl.str]
  | succ k ih =>
    rw [Stl.str, List.length_append]
    split <;> simp <;> omega

/-- What the loop of newStealOrder holds at its head. -/
structure Ord (w wr : World) (N k : Nat) (v : Value) : Prop where
  own : wr.ownsRow (w.heap.size + 2) 3 1 v (Stl.str N k).length (vals (Stl.str N k))
  c0 : wr.cell? ⟨w.heap.size + 1, 0, none⟩ = some (.int .i64 N)
  c1 : wr.cell? ⟨w.heap.size + 1, 1, none⟩ = some v
  f1 : wr.frozen? ⟨w.heap.size + 1, 1, none⟩ = false
  r0 : wr.cell? ⟨w.heap.size, 0, none⟩ = some (.int .i64 0)
  r1 : wr.cell? ⟨w.heap.size, 1, none⟩ = some (.slice none 0 0)
  g0 : wr.frozen? ⟨w.heap.size, 0, none⟩ = false
  g1 : wr.frozen? ⟨w.heap.size, 1, none⟩ = false
  sz : w.heap.size + 2 ≤ wr.heap.size
  bel : Below w.heap.size w wr

/-- The row that v owns lies from 'base' on. -/
theorem own_base {w : World} {base e size n : Nat} {v : Value} {xs : List Value} (h : w.ownsRow base e size v n xs) : ∀ b, v.ownBlock = some b → base ≤ b := by
  intro b hb
  rcases h.2 with ⟨rfl, _⟩ | ⟨g, cap, cur, rfl, hg, _⟩
  · cases hb
  · simp [Value.ownBlock] at hb; omega

/-- Behind the append and the store into the field. -/
theorem Ord.step {w w1 w2 : World} {N k : Nat} {v v' : Value} {o : Obj} (h : Ord w w1 N k v) (hgrow : (w1.alloc o).grownBy w2 v.ownBlock)
    (hown : w2.ownsRow (w.heap.size + 2) 3 1 v' ((Stl.str N k).length + 1) (vals (Stl.str N k) ++ [.int .i64 ((k : Int) + 1)])) (hs : Stl.str N (k + 1) = Stl.str N k ++ [k + 1]) :
    Below (w.heap.size + 2) w1 w2 ∧ Ord w (w2.setCell ⟨w.heap.size + 1, 1, none⟩ v') N (k + 1) v' := by
  have hb : Below (w.heap.size + 2) w1 w2 := ((Below.refl _ w1).alloc h.sz o).grown hgrow (by have := h.sz; simp; omega) (own_base h.own)
  refine ⟨hb, ?_⟩
  have ex : ∃ y, w2.cell? ⟨w.heap.size + 1, 1, none⟩ = some y := ⟨v, by rw [hb.cell (by simp)]; exact h.c1⟩
  constructor
  · have := ownsRow_setCell_below hown (a := ⟨w.heap.size + 1, 1, none⟩) (by simp) v'
    rw [hs, List.length_append, vals_append]
    simpa [vals] using this
  · rw [World.cell?_setCell_other (h := (by simp)), hb.cell (by simp)]; exact h.c0
  · obtain ⟨y, hy⟩ := ex; exact World.cell?_setCell_same _ _ _ hy
  · rw [World.frozen?_setCell, hb.frozen (by simp)]; exact h.f1
  · rw [World.cell?_setCell_other (h := (by simp)), hb.cell (by simp)]; exact h.r0
  · rw [World.cell?_setCell_other (h := (by simp)), hb.cell (by simp)]; exact h.r1
  · rw [World.frozen?_setCell, hb.frozen (by simp)]; exact h.g0
  · rw [World.frozen?_setCell, hb.frozen (by simp)]; exact h.g1
  · have := h.sz; have := hb.size; simp [World.setCell]; omega
  · exact (h.bel.trans (hb.mono (by omega))).setCell (by simp) _

set_option maxHeartbeats 1000000 in
theorem order_nat (N : Nat) (hN : N ≤ 65536) (w : World) :
    Calls Try.prog 10 #[.int .i64 N] w fun e w' => ∃ v, e = .returned (.agg #[.int .i64 N, v]) ∧ w'.ownsRow (w.heap.size + 2) 3 1 v (Stl.strides N).length (vals (Stl.strides N)) ∧ Below w.heap.size w w' := by
  obtain ⟨i0, hi, hz0, hz1, hz2⟩ := info_parts Try.info3
  go_enter Try.func10, Try.ntmps10
  go_wp2
  go_loopw [4] (fun i wr => ∃ (k : Nat) (v : Value), k ≤ N ∧ i = .int .i64 (k + 1 : Nat) ∧ Hid (Ord w wr N k v)) (fun i _ => N + 1 - (intOf i).toNat)
  case atStart =>
    refine ⟨0, .slice none 0 0, by omega, rfl, ?_⟩
    constructor
    · exact World.ownsRow_nil _ _ _ _
    · simp [go_sem]
    · simp [go_sem]
    · simp [go_sem]
    · simp [go_sem]
    · simp [go_sem]
    · simp [go_sem]
    · simp [go_sem]
    · simp [go_sem]
    · exact ((Below.refl _ _).alloc (Nat.le_refl _) _).alloc (by simp) _
  case round =>
    obtain ⟨k, v, hk, rfl, hO⟩ := hrel
    by_cases hlt : k < N
    · cases hg : decide (Nat.gcd (k + 1) N = 1)
      · have hg' : ¬ Nat.gcd (k + 1) N = 1 := of_decide_eq_false hg
        clear hg
        have hs : Hid (Stl.str N (k + 1) = Stl.str N k) := by show _ = _; rw [Stl.str, if_neg hg', List.append_nil]
        obtain ⟨d, hd⟩ : ∃ d : Int, ((Nat.gcd (k + 1) N : Nat) : Int) = d := ⟨_, rfl⟩
        have hd1 : (d == 1) = false := by rw [← hd]; simp; omega
        have Hd : Hid _ := hd
        clear hd hg'
        go_wp2_with fail
        refine (gcd_is _ _ d (by omega) (by omega) (by omega) (by omega) (by rw [show ((k : Int) + 1).toNat = k + 1 by omega, Int.toNat_natCast]; exact Hd) _).mono ?_
        rintro e w1 ⟨rfl, hw1⟩
        have hO1 : Hid (Ord w w1 N (k + 1) v) := by obtain ⟨n1, rfl⟩ := hw1; exact ⟨by rw [hs.out]; exact hO.out.own, hO.out.c0, hO.out.c1, hO.out.f1, hO.out.r0, hO.out.r1, hO.out.g0, hO.out.g1, hO.out.sz, hO.out.bel.trans ⟨rfl, rfl, rfl, Nat.le_refl _, fun _ _ => rfl⟩⟩
        clear hw1 hO
        go_wp2
        go_roundw
        case rel => exact ⟨k + 1, v, by omega, by go_num, hO1⟩
        case measure => simp [intOf]; omega
      · have hg' : Nat.gcd (k + 1) N = 1 := of_decide_eq_true hg
        clear hg
        have hs : Hid (Stl.str N (k + 1) = Stl.str N k ++ [k + 1]) := by show _ = _; rw [Stl.str, if_pos hg']
        have hl := str_length_le N k
        go_wp2_with fail
        refine (gcd_is _ _ 1 (by omega) (by omega) (by omega) (by omega) (by rw [show ((k : Int) + 1).toNat = k + 1 by omega, Int.toNat_natCast, hg']; rfl) _).mono ?_
        rintro e w1 ⟨rfl, hw1⟩
        have hO1 : Hid (Ord w w1 N k v) := by obtain ⟨n1, rfl⟩ := hw1; exact ⟨hO.out.own, hO.out.c0, hO.out.c1, hO.out.f1, hO.out.r0, hO.out.r1, hO.out.g0, hO.out.g1, hO.out.sz, hO.out.bel.trans ⟨rfl, rfl, rfl, Nat.le_refl _, fun _ _ => rfl⟩⟩
        clear hw1 hO hg'
        have hc1 := hO1.out.c1
        have hf1 := hO1.out.f1
        have hsz := hO1.out.sz
        go_wp2_with (at_builtin; refine wpList_append_own _ rfl _ _ 22 rfl (w.heap.size + 2) 3 i0 (.int .i64 0) 1 8 Try.underlying22 hi hz0 hz1 hz2 rfl (by decide) _ _ _ rfl (hO1.out.own.alloc _) ⟨w1.heap.size, 0, none⟩ 1 1 [.int .i64 ((k : Int) + 1)] rfl rfl ?s1 ?s2 ?s3 ?s4 ?s5 ?_)
        case s1 =>
          intro j u hj
          match j, hj with
          | 0, hj => simp at hj; subst hj; simp [Addr.add]
        case s2 => intro u hu; simp at hu; subst hu; rfl
        case s3 => unfold maxLen; omega
        case s4 => omega
        case s5 => simp; omega
        intro v' w2 hown' hgrow _
        obtain ⟨hb2, hO2⟩ := Ord.step hO1.out hgrow hown' hs.out
        have HO2 : Hid _ := hO2
        clear hO2
        have k1 := (hb2.cell (p := ⟨w.heap.size + 1, 1, none⟩) (by simp)).trans hc1
        have k2 := (hb2.frozen (p := ⟨w.heap.size + 1, 1, none⟩) (by simp)).trans hf1
        obtain ⟨g, cap', rfl⟩ : ∃ g cap', v' = .slice (some ⟨g, 0, none⟩) ((Stl.str N k).length + 1) cap' := by
          rcases hown'.2 with ⟨_, h⟩ | ⟨g, cap', _, h, _⟩
          · omega
          · exact ⟨g, cap', h⟩
        clear hown' hgrow hc1 hf1 hb2 hO1 hs
        go_wp2
        go_roundw
        case rel => exact ⟨k + 1, _, by omega, by go_num, HO2⟩
        case measure => simp [intOf]; omega
    · obtain rfl : k = N := by omega
      obtain ⟨ho, hc0, hc1, hf1, hr0, hr1, hg0, hg1, hsz, hbel⟩ := hO.out
      clear hO
      have HO : Hid (wr.ownsRow (w.heap.size + 2) 3 1 v (Stl.str k k).length (vals (Stl.str k k))) := ho
      have HB : Hid _ := hbel
      have hv : v = .slice none 0 0 ∨ ∃ g c, v = .slice (some ⟨g, 0, none⟩) (Stl.str k k).length c := by
        rcases ho.2 with ⟨h, _⟩ | ⟨g, c, _, h, _⟩
        · exact .inl h
        · exact .inr ⟨g, c, h⟩
      clear ho hbel
      rcases hv with rfl | ⟨g, c, rfl⟩
      · go_wp2
        refine bodyPost_ret (v := .agg #[.int .i64 k, .slice none 0 0]) (by simp [results, Try.results10, go_sem, hr0, hr1]) rfl ⟨_, rfl, ?_, ?_⟩
        · exact ownsRow_setCell_below (ownsRow_setCell_below HO.out (by simp) _) (by simp) _
        · exact (HB.out.setCell (by simp) _).setCell (by simp) _
      · go_wp2
        refine bodyPost_ret (v := .agg #[.int .i64 k, .slice (some ⟨g, 0, none⟩) (Stl.str k k).length c]) (by simp [results, Try.results10, go_sem, hr0, hr1]) rfl ⟨_, rfl, ?_, ?_⟩
        · exact ownsRow_setCell_below (ownsRow_setCell_below HO.out (by simp) _) (by simp) _
        · exact (HB.out.setCell (by simp) _).setCell (by simp) _

/-- Of a number below nought there are no strides. -/
theorem order_neg (n : Int) (hn : n ≤ 0) (w : World) :
    Calls Try.prog 10 #[.int .i64 n] w fun e w' => e = .returned (.agg #[.int .i64 n, .slice none 0 0]) ∧ Below w.heap.size w w' := by
  have hn' : ¬ (1 : Int) ≤ n := by omega
  go_enter Try.func10, Try.ntmps10
  go_wp2
  refine wp_loop_rounds 1 ?_
  rw [rounds_succ]
  go_wp2
  refine bodyPost_ret (v := .agg #[.int .i64 n, .slice none 0 0]) (by simp [results, Try.results10, go_sem]) rfl ⟨rfl, ?_⟩
  exact ((Below.refl _ _).alloc (Nat.le_refl _) _).alloc (by simp) _

/-- A slice value that holds the numbers l in a world: it leads to a row whose first cells are l (or it is empty). -/
structure Row (w : World) (lo : Nat) (ao : Option Addr) (l : List Nat) : Prop where
  at_ : l ≠ [] → ∃ g, ao = some ⟨g, 0, none⟩ ∧ lo ≤ g ∧ g < w.heap.size ∧ ∀ j, j < l.length → w.cell? ⟨g, j, none⟩ = some (.int .i64 ((l.getD j 0 : Nat) : Int))

theorem Row.below {w w' : World} {lo : Nat} {ao : Option Addr} {l : List Nat} (h : Row w lo ao l) (hb : Below w.heap.size w w') : Row w' lo ao l := by
  constructor
  intro hne
  obtain ⟨g, h1, h2, h3, h4⟩ := h.at_ hne
  exact ⟨g, h1, h2, Nat.lt_of_lt_of_le h3 hb.size, fun j hj => (hb.cell (p := ⟨g, j, none⟩) h3).trans (h4 j hj)⟩

theorem row_of_own {w : World} {base : Nat} {v : Value} {l : List Nat} (h : w.ownsRow base 3 1 v l.length (vals l)) : ∃ ao cap, v = .slice ao l.length cap ∧ Row w base ao l := by
  rcases h.2 with ⟨hv, h0⟩ | ⟨g, cap, cur, hv, hg, hb, hle, hmx, hsz, hx⟩
  · exact ⟨none, 0, by rw [h0]; exact hv, ⟨fun hne => absurd (List.eq_nil_of_length_eq_zero h0) hne⟩⟩
  · refine ⟨some ⟨g, 0, none⟩, cap, hv, ⟨fun _ => ⟨g, rfl, hg, ?_, fun j hj => ?_⟩⟩⟩
    · exact (Array.getElem?_eq_some_iff.1 hb).1
    · have h2 : (vals l)[j]? = some (.int .i64 ((l.getD j 0 : Nat) : Int)) := by
        simp [vals, hj]
      rw [← hx, Nat.mul_one, List.getElem?_take_of_lt hj] at h2
      have hj2 : cur[j]? = some (.int .i64 ((l.getD j 0 : Nat) : Int)) := by simpa using h2
      simp [World.cell?, hb, hj2]

theorem Row.lower {w : World} {lo lo' : Nat} {ao : Option Addr} {l : List Nat} (h : Row w lo ao l) (hl : lo' ≤ lo) : Row w lo' ao l := by
  constructor
  intro hne
  obtain ⟨g, h1, h2, h3, h4⟩ := h.at_ hne
  exact ⟨g, h1, by omega, h3, h4⟩

set_option maxHeartbeats 400000 in
theorem zzorder_nat (N : Nat) (hN : N ≤ 65536) (w : World) :
    Calls Try.prog 5 #[.int .i64 N] w fun e w' => ∃ ao cap, e = .returned (.tuple #[.int .i64 N, .slice ao (Stl.strides N).length cap]) ∧ Row w' w.heap.size ao (Stl.strides N) ∧ Below w.heap.size w w' := by
  go_enter Try.func5, Try.ntmps5
  go_wp2_with fail
  refine (order_nat N hN _).mono ?_
  rintro e w1 ⟨v, rfl, hown, hbel⟩
  obtain ⟨ao, cap, rfl, hrow⟩ := row_of_own hown
  have HR : Hid _ := hrow
  have HB : Hid _ := hbel
  clear hown hrow hbel
  go_wp2
  go_quiet (fail)
  go_wp2
  go_ret2
  have hb2 : Below w1.heap.size w1 ((w1.alloc (.cells #[.int .i64 N, .slice ao (Stl.strides N).length cap] 32)).drewN nq) := ((Below.refl _ w1).alloc (Nat.le_refl _) _).trans ⟨rfl, rfl, rfl, Nat.le_refl _, fun _ _ => rfl⟩
  exact ⟨ao, cap, rfl, (HR.out.lower (by omega)).below hb2, HB.out.trans (hb2.mono HB.out.size)⟩

theorem zzorder_neg (n : Int) (hn : n ≤ 0) (w : World) :
    Calls Try.prog 5 #[.int .i64 n] w fun e w' => e = .returned (.tuple #[.int .i64 n, .slice none 0 0]) ∧ Below w.heap.size w w' := by
  go_enter Try.func5, Try.ntmps5
  go_wp2_with fail
  refine (order_neg n hn _).mono ?_
  rintro e w1 ⟨rfl, hbel⟩
  have HB : Hid _ := hbel
  clear hbel
  go_wp2
  go_quiet (fail)
  go_wp2
  go_ret2
  have hb2 : Below w1.heap.size w1 ((w1.alloc (.cells #[.int .i64 n, .slice none 0 0] 32)).drewN nq) := ((Below.refl _ w1).alloc (Nat.le_refl _) _).trans ⟨rfl, rfl, rfl, Nat.le_refl _, fun _ _ => rfl⟩
  exact ⟨rfl, HB.out.trans (hb2.mono HB.out.size)⟩

theorem ret_bool {a b : Bool} (h : a = b) : Ending.returned (.bool a) = .returned (.bool b) := by rw [h]

/-- zzHas: is v among the numbers? -/
def hasB (l : List Nat) (v : Int) : Bool := l.any fun x => (x : Int) == v

set_option maxHeartbeats 400000 in
theorem has_any (lo : Nat) (ao : Option Addr) (l : List Nat) (cap : Nat) (v : Int) (w : World) (hl : l.length ≤ 65536) (hr : Row w lo ao l) :
    Calls Try.prog 7 #[.slice ao l.length cap, .int .i64 v] w fun e w' => e = .returned (.bool (hasB l v)) ∧ w' = w := by
  have HR : Hid _ := hr
  clear hr
  go_enter Try.func7, Try.ntmps7
  go_wp2
  go_loop [6, 9] (fun _ i => ∃ k : Nat, k ≤ l.length ∧ i = .int .i64 k ∧ Hid (∀ j, j < k → ((l.getD j 0 : Nat) : Int) ≠ v)) (fun _ i => l.length - (intOf i).toNat)
  case atStart => exact ⟨0, Nat.zero_le _, rfl, fun j hj => by omega⟩
  case round =>
    obtain ⟨k, hk, rfl, hno⟩ := hrel
    by_cases hlt : k < l.length
    · obtain ⟨g, rfl, hg1, hg2, hc⟩ := HR.out.at_ (by intro h; rw [h] at hlt; simp at hlt)
      have hck := hc k hlt
      clear hc HR
      obtain ⟨x, hx⟩ : ∃ x : Int, ((l.getD k 0 : Nat) : Int) = x := ⟨_, rfl⟩
      rw [hx] at hck
      have HX : Hid _ := hx
      clear hx
      by_cases hxv : x = v
      · have hb : (x == v) = true := by simp [hxv]
        have fin : Hid (hasB l v = true) := by
          show _ = _
          unfold hasB
          rw [List.any_eq_true]
          refine ⟨l[k], List.getElem_mem hlt, ?_⟩
          have := HX.out
          rw [List.getD_eq_getElem?_getD, List.getElem?_eq_getElem hlt] at this
          simp at this ⊢
          omega
        clear hxv
        go_wp2
        go_ret
        exact ⟨ret_bool fin.out.symm, rfl⟩
      · have hb : (x == v) = false := by simp [hxv]
        have fin : Hid (∀ j, j < k + 1 → ((l.getD j 0 : Nat) : Int) ≠ v) := by
          intro j hj
          by_cases e : j = k
          · subst e; rw [HX.out]; exact hxv
          · exact hno.out j (by omega)
        clear hxv
        go_wp2
        go_round
        case rel => exact ⟨k + 1, by omega, by go_num, fin⟩
        case measure => simp [intOf]; omega
    · have fin : Hid (hasB l v = false) := by
        show _ = _
        unfold hasB
        rw [List.any_eq_false]
        intro x hx
        obtain ⟨j, hj, rfl⟩ := List.getElem_of_mem hx
        have := hno.out j (by omega)
        rw [List.getD_eq_getElem?_getD, List.getElem?_eq_getElem hj] at this
        simpa using this
      go_wp2
      go_ret
      exact ⟨ret_bool fin.out.symm, rfl⟩
end Go.Proofs.Qxb6627618a
