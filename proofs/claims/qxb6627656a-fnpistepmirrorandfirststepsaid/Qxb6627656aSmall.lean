/-
  The contracts of the small functions: piSameFloat, piClamp, the bounds on length, ZZNewPI, the readers of the fields.
-/
import Derived.Test.Qxb6627656aRun
namespace Go.Proofs.Qxb6627656a
open Go.RowKit Fl
set_option linter.unusedSimpArgs false
set_option linter.unusedVariables false

theorem ret_float {a b : Nat} (h : a = b) : Ending.returned (.float .f64 a) = .returned (.float .f64 b) := by rw [h]

theorem same_any (x y : Nat) (h : ab x = ab y) (w : World) :
    Calls Try.prog 8 #[.float .f64 x, .float .f64 y] w fun e w' => e = .returned (.bool true) ∧ w' = w := by
  rcases order_self (ab x) with h0 | h0
  · have e1 : FloatKind.f64.format.order x y = none := by rw [order_ab, ← h, h0]
    have e2 : FloatKind.f64.format.order x x = none := by rw [order_ab, h0]
    have e3 : FloatKind.f64.format.order y y = none := by rw [order_ab, ← h, h0]
    have b1 : (FloatKind.f64.format.order x y == some Ordering.eq) = false := by rw [e1]; rfl
    have b2 : (FloatKind.f64.format.order x x != some Ordering.eq) = true := by rw [e2]; rfl
    have b3 : (FloatKind.f64.format.order y y != some Ordering.eq) = true := by rw [e3]; rfl
    clear e1 e2 e3 h h0
    go_enter Try.func8, Try.ntmps8
    go_wp2
    go_ret
    exact ⟨rfl, rfl⟩
  · have e1 : FloatKind.f64.format.order x y = some .eq := by rw [order_ab, ← h, h0]
    have b1 : (FloatKind.f64.format.order x y == some Ordering.eq) = true := by rw [e1]; rfl
    clear e1 h h0
    go_enter Try.func8, Try.ntmps8
    go_wp2
    go_ret
    exact ⟨rfl, rfl⟩

/-- x held within [lo, hi]. -/
def clampD (x lo hi : Ieee.Datum) : Ieee.Datum := if (x.order lo == some .lt) = true then lo else if (x.order hi == some .gt) = true then hi else x

theorem clamp_any (x lo hi : Nat) (w : World) :
    Calls Try.prog 9 #[.float .f64 x, .float .f64 lo, .float .f64 hi] w fun e w' => ∃ r, e = .returned (.float .f64 r) ∧ ab r = clampD (ab x) (ab lo) (ab hi) ∧ w' = w := by
  unfold clampD
  rw [← order_ab, ← order_ab]
  cases h1 : (FloatKind.f64.format.order x lo == some Ordering.lt)
  · cases h2 : (FloatKind.f64.format.order x hi == some Ordering.gt)
    · go_enter Try.func9, Try.ntmps9
      go_wp2
      go_ret
      exact ⟨_, rfl, rfl, rfl⟩
    · go_enter Try.func9, Try.ntmps9
      go_wp2
      go_ret
      exact ⟨_, rfl, rfl, rfl⟩
  · go_enter Try.func9, Try.ntmps9
    go_wp2
    go_ret
    exact ⟨_, rfl, rfl, rfl⟩

theorem Try.info22 : (Try.prog.info? 22).map (fun i => (i.zero, i.size, i.bytes)) = some (some (.float .f64 0), 1, 8) := by kernel_rfl

/-- A controller in memory: the struct in block b, its terms in block g. -/
structure PI (w : World) (b g n : Nat) (p i t lo hi : Nat) (k s wt pu : Nat) (T : Nat → Nat) : Prop where
  c0 : w.cell? ⟨b, 0, none⟩ = some (.float .f64 p)
  c1 : w.cell? ⟨b, 1, none⟩ = some (.float .f64 i)
  c2 : w.cell? ⟨b, 2, none⟩ = some (.float .f64 t)
  c3 : w.cell? ⟨b, 3, none⟩ = some (.float .f64 lo)
  c4 : w.cell? ⟨b, 4, none⟩ = some (.float .f64 hi)
  c5 : w.cell? ⟨b, 5, none⟩ = some (.slice (some ⟨g, 0, none⟩) n n)
  c6 : w.cell? ⟨b, 6, none⟩ = some (.int .i64 k)
  c7 : w.cell? ⟨b, 7, none⟩ = some (.float .f64 s)
  c8 : w.cell? ⟨b, 8, none⟩ = some (.float .f64 wt)
  c9 : w.cell? ⟨b, 9, none⟩ = some (.int .i64 pu)
  f6 : w.frozen? ⟨b, 6, none⟩ = false
  f7 : w.frozen? ⟨b, 7, none⟩ = false
  f8 : w.frozen? ⟨b, 8, none⟩ = false
  f9 : w.frozen? ⟨b, 9, none⟩ = false
  tc : ∀ j, j < n → w.cell? ⟨g, j, none⟩ = some (.float .f64 (T j))
  tf : ∀ j, j < n → w.frozen? ⟨g, j, none⟩ = false
  bg : b ≠ g
  bl : b < w.heap.size
  gl : g < w.heap.size

/-- What w' is where only blocks b and g may have turned. -/
structure Only (b g : Nat) (w w' : World) : Prop where
  os : w'.os = w.os
  tape : w'.tape = w.tape
  output : w'.output = w.output
  size : w.heap.size ≤ w'.heap.size
  block : ∀ k, k ≠ b → k ≠ g → w'.heap[k]? = w.heap[k]?

theorem Only.refl (b g : Nat) (w : World) : Only b g w w := ⟨rfl, rfl, rfl, Nat.le_refl _, fun _ _ _ => rfl⟩
theorem Only.trans {b g : Nat} {w w1 w2 : World} (h : Only b g w w1) (k : Only b g w1 w2) : Only b g w w2 :=
  ⟨k.os.trans h.os, k.tape.trans h.tape, k.output.trans h.output, Nat.le_trans h.size k.size, fun i h1 h2 => (k.block i h1 h2).trans (h.block i h1 h2)⟩
theorem Only.drewN {b g : Nat} {w w1 : World} (h : Only b g w w1) (n : Nat) : Only b g w (w1.drewN n) := ⟨h.os, h.tape, h.output, h.size, h.block⟩
theorem Only.setB {b g : Nat} {w w1 : World} (h : Only b g w w1) (o : Nat) (v : Value) : Only b g w (w1.setCell ⟨b, o, none⟩ v) :=
  ⟨h.os, h.tape, h.output, by simpa [World.setCell] using h.size, fun k h1 h2 => (Below.heap_setCell w1 ⟨b, o, none⟩ v k h1).trans (h.block k h1 h2)⟩
theorem Only.setG {b g : Nat} {w w1 : World} (h : Only b g w w1) (o : Nat) (v : Value) : Only b g w (w1.setCell ⟨g, o, none⟩ v) :=
  ⟨h.os, h.tape, h.output, by simpa [World.setCell] using h.size, fun k h1 h2 => (Below.heap_setCell w1 ⟨g, o, none⟩ v k h2).trans (h.block k h1 h2)⟩
theorem Only.below {b g : Nat} {w0 w w' : World} (h : Only b g w w') (hb : Below w0.heap.size w0 w) (h1 : w0.heap.size ≤ b) (h2 : w0.heap.size ≤ g) : Below w0.heap.size w0 w' :=
  hb.trans ⟨h.os, h.tape, h.output, h.size, fun k hk => h.block k (by omega) (by omega)⟩

theorem PI.drewN {w : World} {b g n p i t lo hi k s wt pu : Nat} {T : Nat → Nat} (h : PI w b g n p i t lo hi k s wt pu T) (d : Nat) : PI (w.drewN d) b g n p i t lo hi k s wt pu T :=
  ⟨h.c0, h.c1, h.c2, h.c3, h.c4, h.c5, h.c6, h.c7, h.c8, h.c9, h.f6, h.f7, h.f8, h.f9, h.tc, h.tf, h.bg, h.bl, h.gl⟩

/-- Another controller's blocks turn: this one stays. -/
theorem PI.other {w w' : World} {b g n p i t lo hi k s wt pu : Nat} {T : Nat → Nat} (h : PI w b g n p i t lo hi k s wt pu T) {b' g' : Nat} (ho : Only b' g' w w') (h1 : b ≠ b') (h2 : b ≠ g') (h3 : g ≠ b') (h4 : g ≠ g') : PI w' b g n p i t lo hi k s wt pu T := by
  have cb : ∀ o, w'.cell? ⟨b, o, none⟩ = w.cell? ⟨b, o, none⟩ := fun o => World.cell?_of_block (w := w) (ho.block b h1 h2)
  have cg : ∀ o, w'.cell? ⟨g, o, none⟩ = w.cell? ⟨g, o, none⟩ := fun o => World.cell?_of_block (w := w) (ho.block g h3 h4)
  have fb : ∀ o, w'.frozen? ⟨b, o, none⟩ = w.frozen? ⟨b, o, none⟩ := fun o => World.frozen?_of_block (w := w) (ho.block b h1 h2)
  have fg : ∀ o, w'.frozen? ⟨g, o, none⟩ = w.frozen? ⟨g, o, none⟩ := fun o => World.frozen?_of_block (w := w) (ho.block g h3 h4)
  exact ⟨(cb 0).trans h.c0, (cb 1).trans h.c1, (cb 2).trans h.c2, (cb 3).trans h.c3, (cb 4).trans h.c4, (cb 5).trans h.c5, (cb 6).trans h.c6, (cb 7).trans h.c7, (cb 8).trans h.c8, (cb 9).trans h.c9,
    (fb 6).trans h.f6, (fb 7).trans h.f7, (fb 8).trans h.f8, (fb 9).trans h.f9, fun j hj => (cg j).trans (h.tc j hj), fun j hj => (fg j).trans (h.tf j hj), h.bg, Nat.lt_of_lt_of_le h.bl ho.size, Nat.lt_of_lt_of_le h.gl ho.size⟩

theorem made_row {w : World} {base g n : Nat} (h : w.ownsRow base 22 1 (.slice (some ⟨g, 0, none⟩) n n) n (madeCells #[Value.float .f64 0] n).toList) : g < w.heap.size ∧ (∀ j, j < n → w.cell? ⟨g, j, none⟩ = some (.float .f64 0)) ∧ ∀ j, j < n → w.frozen? ⟨g, j, none⟩ = false := by
  refine ⟨?_, fun v hv => ?_, fun v hv => h.frozenAt v⟩
  · rcases h.2 with ⟨h', _⟩ | ⟨g', cap', cur, h', _, hg, _⟩
    · simp at h'
    · simp only [Value.slice.injEq, Option.some.injEq, Addr.mk.injEq, and_true, true_and] at h'
      obtain ⟨rfl, rfl⟩ := h'
      exact (Array.getElem?_eq_some_iff.1 hg).1
  · rw [h.cellAt v (by omega), toList_madeCells_one]
    simp [hv]

/-- What ZZNewPI leaves. -/
def NewPost (p i t lo hi n : Nat) (w : World) (e : Ending) (w' : World) : Prop :=
  ∃ b g, e = .returned (.pointer (some ⟨b, 0, none⟩)) ∧ PI w' b g n p i t lo hi 0 0 0 0 (fun _ => 0) ∧ w.heap.size ≤ b ∧ w.heap.size ≤ g ∧ Below w.heap.size w w'

set_option maxHeartbeats 400000 in
theorem new_any (p i t lo hi n : Nat) (hn : n ≤ 65536) (hn1 : 1 ≤ n) (w : World) :
    Calls Try.prog 6 #[.float .f64 p, .float .f64 i, .float .f64 t, .float .f64 lo, .float .f64 hi, .int .i64 n] w fun e w' => NewPost p i t lo hi n w e w' := by
  obtain ⟨i0, hi0, hz0, hz1, hz2⟩ := info_parts Try.info22
  go_enter Try.func6, Try.ntmps6
  go_wp2_with (at_make; refine wpList_make_full _ rfl _ _ 23 rfl w.heap.size 22 i0 (.float .f64 0) 1 Try.underlying23 hi0 hz0 hz1 .i64 .i64 _ _ n rfl rfl rfl rfl (by rw [hz2]; omega) (by unfold maxLen; omega) (Nat.le_refl _) ?_)
  intro w1 hown hgrow
  have hb1 : Below w.heap.size w w1 := (Below.refl _ _).grown hgrow (Nat.le_refl _) (fun k h => by cases h)
  have HB : Hid _ := hb1
  obtain ⟨r1, r2, r3⟩ := made_row hown
  have H1 : Hid _ := r1
  have H2 : Hid _ := r2
  have H3 : Hid _ := r3
  clear hb1 hown hgrow r1 r2 r3
  go_wp2
  go_ret
  have hne : w.heap.size ≠ w1.heap.size := by have := H1.out; omega
  refine ⟨w1.heap.size, w.heap.size, rfl, ⟨?_, ?_, ?_, ?_, ?_, ?_, ?_, ?_, ?_, ?_, ?_, ?_, ?_, ?_, fun j hj => ?_, fun j hj => ?_, hne.symm, by simp, by have := H1.out; simp; omega⟩, HB.out.size, Nat.le_refl _, HB.out.alloc HB.out.size _⟩
  · simp [go_sem]
  · simp [go_sem]
  · simp [go_sem]
  · simp [go_sem]
  · simp [go_sem]
  · simp [go_sem]
  · simp [go_sem]
  · simp [go_sem]
  · simp [go_sem]
  · simp [go_sem]
  · simp [go_sem]
  · simp [go_sem]
  · simp [go_sem]
  · simp [go_sem]
  · rw [World.cell?_alloc_past _ _ _ H1.out]; exact H2.out j hj
  · rw [World.frozen?_alloc_past _ _ _ H1.out]; exact H3.out j hj

/-- The readers of the fields. -/
theorem next_any {b g n p i t lo hi k s wt pu : Nat} {T : Nat → Nat} {w : World} (h : PI w b g n p i t lo hi k s wt pu T) :
    Calls Try.prog 10 #[.pointer (some ⟨b, 0, none⟩)] w fun e w' => e = .returned (.int .i64 k) ∧ w' = w := by
  have h6 := h.c6
  clear h
  go_enter Try.func10, Try.ntmps10
  go_wp2
  go_ret
  exact ⟨rfl, rfl⟩
theorem pushed_any {b g n p i t lo hi k s wt pu : Nat} {T : Nat → Nat} {w : World} (h : PI w b g n p i t lo hi k s wt pu T) :
    Calls Try.prog 11 #[.pointer (some ⟨b, 0, none⟩)] w fun e w' => e = .returned (.int .i64 pu) ∧ w' = w := by
  have h6 := h.c9
  clear h
  go_enter Try.func11, Try.ntmps11
  go_wp2
  go_ret
  exact ⟨rfl, rfl⟩
theorem sum_any {b g n p i t lo hi k s wt pu : Nat} {T : Nat → Nat} {w : World} (h : PI w b g n p i t lo hi k s wt pu T) :
    Calls Try.prog 12 #[.pointer (some ⟨b, 0, none⟩)] w fun e w' => e = .returned (.float .f64 s) ∧ w' = w := by
  have h6 := h.c7
  clear h
  go_enter Try.func12, Try.ntmps12
  go_wp2
  go_ret
  exact ⟨rfl, rfl⟩
theorem weighted_any {b g n p i t lo hi k s wt pu : Nat} {T : Nat → Nat} {w : World} (h : PI w b g n p i t lo hi k s wt pu T) :
    Calls Try.prog 13 #[.pointer (some ⟨b, 0, none⟩)] w fun e w' => e = .returned (.float .f64 wt) ∧ w' = w := by
  have h6 := h.c8
  clear h
  go_enter Try.func13, Try.ntmps13
  go_wp2
  go_ret
  exact ⟨rfl, rfl⟩
theorem terms_any {b g n p i t lo hi k s wt pu : Nat} {T : Nat → Nat} {w : World} (h : PI w b g n p i t lo hi k s wt pu T) :
    Calls Try.prog 14 #[.pointer (some ⟨b, 0, none⟩)] w fun e w' => e = .returned (.slice (some ⟨g, 0, none⟩) n n) ∧ w' = w := by
  have h6 := h.c5
  clear h
  go_enter Try.func14, Try.ntmps14
  go_wp2
  go_ret
  exact ⟨rfl, rfl⟩
end Go.Proofs.Qxb6627656a
