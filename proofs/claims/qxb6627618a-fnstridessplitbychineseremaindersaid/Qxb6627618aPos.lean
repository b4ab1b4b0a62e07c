/-
  The contract of zzPositions.
-/
import Derived.Test.Qxb6627618aUnits
namespace Go.Proofs.Qxb6627618a
open Go.RowKit
set_option linter.unusedSimpArgs false
set_option linter.unusedVariables false

/-- Block g holds n numbers, f of each place; none of its cells is frozen. -/
structure Tab (w : World) (g n : Nat) (f : Nat → Int) : Prop where
  lt : g < w.heap.size
  cell : ∀ v, v < n → w.cell? ⟨g, v, none⟩ = some (.int .i64 (f v))
  free : ∀ v, v < n → w.frozen? ⟨g, v, none⟩ = false

theorem Tab.set {w : World} {g n : Nat} {f : Nat → Int} (h : Tab w g n f) {i : Nat} (hi : i < n) (x : Int) : Tab (w.setCell ⟨g, i, none⟩ (.int .i64 x)) g n (fun v => if v = i then x else f v) := by
  refine ⟨by simpa [World.setCell] using h.lt, fun v hv => ?_, fun v hv => ?_⟩
  · by_cases e : v = i
    · subst e
      rw [if_pos rfl]
      exact World.cell?_setCell_same _ _ _ (h.cell v hv)
    · rw [if_neg e, World.cell?_setCell_other _ _ _ _ (by simp only [ne_eq, Addr.mk.injEq, true_and, and_true]; omega)]
      exact h.cell v hv
  · rw [World.frozen?_setCell]; exact h.free v hv

theorem Tab.congr {w : World} {g n : Nat} {f f' : Nat → Int} (h : Tab w g n f) (he : ∀ v, v < n → f v = f' v) : Tab w g n f' :=
  ⟨h.lt, fun v hv => by rw [h.cell v hv, he v hv], h.free⟩

theorem Tab.below {w w' : World} {g n : Nat} {f : Nat → Int} (h : Tab w g n f) (hb : Below w.heap.size w w') : Tab w' g n f :=
  ⟨Nat.lt_of_lt_of_le h.lt hb.size, fun v hv => (hb.cell (p := ⟨g, v, none⟩) h.lt).trans (h.cell v hv), fun v hv => (hb.frozen (p := ⟨g, v, none⟩) h.lt).trans (h.free v hv)⟩

theorem tab_made {w : World} {base g n : Nat} (h : w.ownsRow base 3 1 (.slice (some ⟨g, 0, none⟩) n n) n (madeCells #[Value.int .i64 0] n).toList) : n ≠ 0 → Tab w g n (fun _ => 0) := by
  intro h0
  refine ⟨?_, fun v hv => ?_, fun v hv => h.frozenAt v⟩
  · rcases h.2 with ⟨h', _⟩ | ⟨g', cap', cur, h', _, hg, _⟩
    · simp at h'
    · simp only [Value.slice.injEq, Option.some.injEq, Addr.mk.injEq, and_true, true_and] at h'
      obtain ⟨rfl, rfl⟩ := h'
      exact (Array.getElem?_eq_some_iff.1 hg).1
  · rw [h.cellAt v (by omega)]
    rw [toList_madeCells_one]
    simp [hv]

/-- The place of v among the first k numbers of l; -1 where it is not there. -/
def pl (l : List Nat) : Nat → Nat → Int
  | 0, _ => -1
  | k + 1, v => if v = l.getD k 0 then (k : Int) else pl l k v

theorem nodup_inj {l : List Nat} (h : l.Nodup) {i j : Nat} {hi : i < l.length} {hj : j < l.length} (e : l[i] = l[j]) : i = j := by
  have hp := List.pairwise_iff_getElem.1 h
  rcases Nat.lt_trichotomy i j with h1 | h1 | h1
  · exact absurd e (hp i j hi hj h1)
  · exact h1
  · exact absurd e.symm (hp j i hj hi h1)

theorem pl_not {l : List Nat} (hn : l.Nodup) : ∀ k, k < l.length → pl l k (l.getD k 0) = -1 := by
  intro k hk
  have aux : ∀ j, j ≤ k → pl l j (l.getD k 0) = -1 := by
    intro j
    induction j with
    | zero => intro _; rfl
    | succ j ih =>
      intro hj
      rw [pl, if_neg, ih (by omega)]
      intro e
      rw [List.getD_eq_getElem?_getD, List.getElem?_eq_getElem hk, List.getD_eq_getElem?_getD, List.getElem?_eq_getElem (by omega)] at e
      have := nodup_inj hn (show l[k] = l[j] from e)
      omega
  exact aux k (Nat.le_refl _)

theorem pl_at {l : List Nat} (hn : l.Nodup) : ∀ k, k ≤ l.length → ∀ i, i < k → pl l k (l.getD i 0) = (i : Int) := by
  intro k
  induction k with
  | zero => intro _ i hi; omega
  | succ k ih =>
    intro hk i hi
    rw [pl]
    by_cases e : i = k
    · subst e; rw [if_pos rfl]
    · rw [if_neg, ih (by omega) i (by omega)]
      intro e2
      rw [List.getD_eq_getElem?_getD, List.getElem?_eq_getElem (by omega), List.getD_eq_getElem?_getD, List.getElem?_eq_getElem (by omega)] at e2
      have := nodup_inj hn (show l[i] = l[k] from e2)
      omega

/-- What zzPositions leaves. -/
def PosPost (l : List Nat) (M : Nat) (w : World) (e : Ending) (w' : World) : Prop :=
  ∃ g, e = .returned (.slice (some ⟨g, 0, none⟩) (M + 1) (M + 1)) ∧ Tab w' g (M + 1) (pl l l.length) ∧ Below w.heap.size w w'

set_option maxHeartbeats 1000000 in
theorem positions_any (l : List Nat) (M lo : Nat) (ao : Option Addr) (cap : Nat) (w : World) (hM : M ≤ 65536) (hln : l.length ≤ 65536) (hl : ∀ x ∈ l, 1 ≤ x ∧ x ≤ M) (hnd : l.Nodup) (hr : Row w lo ao l) :
    Calls Try.prog 9 #[.slice ao l.length cap, .int .i64 M] w fun e w' => PosPost l M w e w' := by
  obtain ⟨i0, hi, hz0, hz1, hz2⟩ := info_parts Try.info3
  have HR : Hid _ := hr
  have HL : Hid _ := hl
  have HN : Hid _ := hnd
  clear hr hl hnd
  go_enter Try.func9, Try.ntmps9
  go_wp2_with (at_make; refine wpList_make_full _ rfl _ _ 22 rfl w.heap.size 3 i0 (.int .i64 0) 1 Try.underlying22 hi hz0 hz1 .i64 .i64 _ _ (M + 1) rfl rfl (by omega) (by omega) (by rw [hz2]; omega) (by unfold maxLen; omega) (by simp) ?_)
  intro w1 hown hgrow
  have HT : Hid _ := tab_made hown (by omega)
  have HB : Hid (Below w.heap.size w w1) := (Below.refl _ _).grown hgrow (Nat.le_refl _) (fun k h => by cases h)
  clear hown hgrow
  go_wp2
  go_loopw [6, 14] (fun _ i wr => ∃ k : Nat, k ≤ M + 1 ∧ i = .int .i64 k ∧ Hid (Tab wr w.heap.size (M + 1) (fun v => if v < k then -1 else 0)) ∧ Hid (Below w.heap.size w wr)) (fun _ i _ => M + 1 - (intOf i).toNat)
  case atStart => exact ⟨0, by omega, rfl, HT.out.congr (fun v _ => by simp), HB⟩
  case round =>
    obtain ⟨k, hk, rfl, hT, hB⟩ := hrel
    by_cases hlt : k < M + 1
    · have hck := hT.out.cell k hlt
      have hfk := hT.out.free k hlt
      simp only [Nat.lt_irrefl, if_false] at hck
      have HT' : Hid (Tab (wr.setCell ⟨w.heap.size, k, none⟩ (.int .i64 (-1))) w.heap.size (M + 1) (fun v => if v < k + 1 then -1 else 0)) := by
        refine (hT.out.set hlt (-1)).congr (fun v _ => ?_)
        by_cases e : v = k
        · subst e; simp
        · simp only [if_neg e]
          by_cases e2 : v < k
          · rw [if_pos e2, if_pos (by omega)]
          · rw [if_neg e2, if_neg (by omega)]
      have HB' : Hid (Below w.heap.size w (wr.setCell ⟨w.heap.size, k, none⟩ (.int .i64 (-1)))) := hB.out.setCell (by simp) _
      clear hT hB
      go_wp2
      go_roundw
      case rel => exact ⟨k + 1, by omega, by go_num, HT', HB'⟩
      case measure => simp [intOf]; omega
    · obtain rfl : k = M + 1 := by omega
      have hT0 : Hid (Tab wr w.heap.size (M + 1) (pl l 0)) := hT.out.congr (fun v hv => by simp [hv, pl])
      clear hT
      obtain ⟨wo, rfl⟩ : ∃ wo : World, wo = wr := ⟨_, rfl⟩
      go_wp2
      go_loopw [7, 8, 23] (fun _ _ i wr => ∃ k : Nat, k ≤ l.length ∧ i = .int .i64 k ∧ Hid (Tab wr w.heap.size (M + 1) (pl l k)) ∧ Hid (Below w.heap.size w wr)) (fun _ _ i _ => l.length - (intOf i).toNat)
      case atStart => exact ⟨0, by omega, rfl, hT0, hB⟩
      case round =>
        obtain ⟨k, hk2, rfl, hT, hB⟩ := hrel
        clear hT0
        by_cases hlt2 : k < l.length
        · obtain ⟨g, rfl, hg1, hg2, hc⟩ := (HR.out.below hB.out).at_ (by intro h; rw [h] at hlt2; simp at hlt2)
          have hck := hc k hlt2
          have hxm := HL.out _ (getD_mem hlt2)
          have hpn := pl_not HN.out k hlt2
          have hpx := hT.out.cell (l.getD k 0) (by omega)
          have hfx := hT.out.free (l.getD k 0) (by omega)
          rw [hpn] at hpx
          have HT' : Hid (Tab (wr.setCell ⟨w.heap.size, l.getD k 0, none⟩ (.int .i64 (k : Int))) w.heap.size (M + 1) (pl l (k + 1))) := hT.out.set (by omega) _
          have HB' : Hid (Below w.heap.size w (wr.setCell ⟨w.heap.size, l.getD k 0, none⟩ (.int .i64 (k : Int)))) := hB.out.setCell (by simp) _
          clear hc hT hB hpn
          generalize l.getD k 0 = x at *
          obtain ⟨hx1, hx2⟩ := hxm
          have t1 : ¬ (x : Int) < 1 := by omega
          have t2 : ¬ (M : Int) < (x : Int) := by omega
          have t3 : (x : Int) < (M : Int) + 1 := by omega
          go_wp2
          go_roundw
          case rel => exact ⟨k + 1, by omega, by go_num, HT', HB'⟩
          case measure => simp [intOf]; omega
        · obtain rfl : k = l.length := by omega
          go_wp2
          go_ret
          exact ⟨_, rfl, hT.out, hB.out⟩
end Go.Proofs.Qxb6627618a
