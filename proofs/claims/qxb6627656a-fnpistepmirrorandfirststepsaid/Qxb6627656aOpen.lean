/-
  A slice of floats that came in, opened: what the walks are told of it.
-/
import Derived.Test.Qxb6627656aLawN
import Derived.OpenShut
import Derived.Deep.Slices
namespace Go.Proofs.Qxb6627656a
open Go.ChangeShapes Go.WideShapes Go.ChangeAt Go.RowKit
set_option linter.unusedVariables false

section
variable {H : Type} {enc : TypeId × Value → H} {P : Program} {w : World} {base : Nat} {spare : Nat → Bool} {held : Bool}

theorem trod_float {t : TypeId} {k : FloatKind} {fuel : Nat} {v : Value} {x : DataW H × List MemPlace} (ht : P.underlying t = some (.float k)) (h : DataW.trod enc P w base spare held fuel t [v] = some x) : ∃ b, v = .float k b := by
  cases fuel with
  | zero => simp [DataW.trod] at h
  | succ m =>
    cases v <;> simp [DataW.trod, ht] at h
    rename_i k' b
    exact ⟨b, by rw [h.1.1]⟩
end

/-- The bits of a float value. -/
def bitsOfV : Value → Nat
  | .float _ b => b
  | _ => 0

theorem cell_block {w : World} {a : Addr} {v : Value} (h : w.cell? a = some v) : a.block < w.heap.size := by
  unfold World.cell? at h
  rcases Nat.lt_or_ge a.block w.heap.size with h1 | h1
  · exact h1
  · rw [Array.getElem?_eq_none h1] at h; cases h

/-- A slice of floats, by its reading: nil, or a row of floats. -/
theorem open_floats {H : Type} {enc : TypeId × Value → H} {W : World} {base : Nat} {spare : Nat → Bool} {held : Bool} {ao : Option Addr} {len cap : Nat} {d : DataW H} {ps : List MemPlace}
    (h : DataW.Trod enc Try.prog W base spare held 23 (.slice ao len cap) d ps) : ∃ z, ER W ao len z := by
  obtain ⟨fuel, hf⟩ := h
  rcases Deep.open_slice1 (P := Try.prog) Try.underlying23 (by kernel_rfl) hf with ⟨hcs, _⟩ | ⟨a, l, c, m, n, V, D, Pl, hcs, _, hl, hm, hmm, _, hx⟩
  · simp [Value.cells] at hcs
    obtain ⟨rfl, rfl, rfl⟩ := hcs
    exact ⟨fun _ => 0, ⟨fun h => absurd h (by omega)⟩⟩
  · simp [Value.cells] at hcs
    obtain ⟨rfl, rfl, rfl⟩ := hcs
    refine ⟨fun j => bitsOfV (V j), ⟨fun h0 => ?_⟩⟩
    have hlm : len ≤ m := by rw [hmm]; split <;> omega
    obtain ⟨eb, eo, spot⟩ := a
    have hc0 := (hx 0 (by omega)).1
    have hspot : spot = none := by simpa [Addr.add] using World.cell?_spot hc0
    subst hspot
    refine ⟨eb, eo, rfl, ?_, fun j hj => ?_⟩
    · have := cell_block hc0
      simpa [Addr.add] using this
    · obtain ⟨h1, h2⟩ := hx j (by omega)
      obtain ⟨b, hb⟩ := trod_float Try.underlying22 h2
      rw [add_plain] at h1
      rw [h1, hb]
      rfl
end Go.Proofs.Qxb6627656a
