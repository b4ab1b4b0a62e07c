/-
  The law's own walk.
-/
import Derived.Test.Qxb6627651aWalk
import Derived.RowKit3
import Derived.OpenShut
namespace Go.Proofs.Qxb6627651a
open Go.RowKit
set_option linter.unusedSimpArgs false
set_option linter.unusedVariables false

theorem grown_drewN {W w' : World} (h : Grown W w') (n : Nat) : Grown W (w'.drewN n) := h
theorem tgt_keep {w : World} {b : Nat} {q1 : ByteArray} {p1 : Bool} {q2 : ByteArray} {p2 : Bool} {q3 : ByteArray} {p3 : Bool} (h : Tgt w b q1 p1 q2 p2 q3 p3) (hb : b < w.heap.size) (C : Array Value) (n : Nat) : Tgt ((w.alloc (.cells C 29)).drewN n) b q1 p1 q2 p2 q3 p3 := by
  obtain ⟨c3, c4, c5, c6, c7, c8⟩ := h
  have e : ∀ o, ((w.alloc (.cells C 29)).drewN n).cell? ⟨b, o, none⟩ = w.cell? ⟨b, o, none⟩ := fun o => (((Below.refl w.heap.size w).alloc (Nat.le_refl _) _).cell (p := ⟨b, o, none⟩) hb)
  exact ⟨by rw [e]; exact c3, by rw [e]; exact c4, by rw [e]; exact c5, by rw [e]; exact c6, by rw [e]; exact c7, by rw [e]; exact c8⟩
theorem tgt_new (w : World) (a0 : Int) (a1 a2 a3 : ByteArray) (a4 : Bool) (a5 : ByteArray) (a6 : Bool) (a7 : ByteArray) (a8 : Bool) : Tgt (w.alloc (.cells #[.int .u8 a0, .string a1, .string a2, .string a3, .bool a4, .string a5, .bool a6, .string a7, .bool a8] 31)) w.heap.size a3 a4 a5 a6 a7 a8 := by
  refine ⟨?_, ?_, ?_, ?_, ?_, ?_⟩ <;> simp [go_sem]

theorem lt_keep {w : World} {b : Nat} (hb : b < w.heap.size) (C : Array Value) (n : Nat) : b < ((w.alloc (.cells C 29)).drewN n).heap.size := by
  simp; omega

set_option maxHeartbeats 1000000 in
theorem law_parse (a0 : Int) (a1 : ByteArray) (a2 : ByteArray) (a3 : ByteArray) (a4 : Bool) (a5 : ByteArray) (a6 : Bool) (a7 : ByteArray) (a8 : Bool) (a9 : Int) (w : World) (h : a1.size + a2.size + a3.size + a5.size + a7.size ≤ 1048576)
    (e1 : bits BinOp.and IntKind.u8 (bits BinOp.and IntKind.u8 a9 3) 1 = bits BinOp.and IntKind.u8 a9 1) (e2 : bits BinOp.and IntKind.u8 (bits BinOp.and IntKind.u8 a9 3) 2 = bits BinOp.and IntKind.u8 a9 2)
    (e3 : bits BinOp.and IntKind.u8 (bits BinOp.andNot IntKind.u8 a9 3) 1 = 0) (e4 : bits BinOp.and IntKind.u8 (bits BinOp.andNot IntKind.u8 a9 3) 2 = 0) (g1 : (bits BinOp.and IntKind.u8 a9 1 != 0) = true) :
    Calls Try.prog 3 #[.int .u8 a0, .string a1, .string a2, .string a3, .bool a4, .string a5, .bool a6, .string a7, .bool a8, .int .u8 a9] w fun e w' => e = .returned (.bool true) ∧ Grown w w' := by
  have h' : (a1.size : Int) + a2.size + a3.size + a5.size + a7.size ≤ 1048576 := by omega
  have t1 : ¬ (1048576 : Int) < a1.size := by omega
  have t2 : ¬ (1048576 : Int) < a2.size := by omega
  have t3 : ¬ (1048576 : Int) < a3.size := by omega
  have t5 : ¬ (1048576 : Int) < a5.size := by omega
  have t7 : ¬ (1048576 : Int) < a7.size := by omega
  have T0 := tgt_new w a0 a1 a2 a3 a4 a5 a6 a7 a8
  have B0 : w.heap.size < (w.alloc (.cells #[.int .u8 a0, .string a1, .string a2, .string a3, .bool a4, .string a5, .bool a6, .string a7, .bool a8] 31)).heap.size := by simp
  have G0 : Grown w (w.alloc (.cells #[.int .u8 a0, .string a1, .string a2, .string a3, .bool a4, .string a5, .bool a6, .string a7, .bool a8] 31)) := (Grown.refl _).alloc _ _
  go_enter Try.func3, Try.ntmps3
  go_wp2_with (first | (go_at_call 4; refine (bytes_yes _ _ _ _ _ _ _ _ _ _ _ h).mono ?_; rintro e w' ⟨rfl, rfl⟩) | (go_at_call 5; refine (newTarget_any _ _ _ _ _ _ _ _ _ _).mono ?_; rintro e w1 ⟨rfl, rfl⟩))
  refine (query_parse _ _ _ _ _ _ _ _ _ T0 B0 g1).mono ?_
  rintro e w1 ⟨rfl, C1, n1, rfl⟩
  have T1 := tgt_keep T0 B0 C1 n1
  have B1 := lt_keep B0 C1 n1
  have G1 := grown_drewN (G0.alloc C1 29) n1
  clear T0 B0 G0
  go_wp2_with fail
  refine (query_parse _ _ _ _ _ _ _ _ _ T1 B1 (by rw [e1]; exact g1)).mono ?_
  rintro e w2 ⟨rfl, C2, n2, rfl⟩
  have T2 := tgt_keep T1 B1 C2 n2
  have B2 := lt_keep B1 C2 n2
  have G2 := grown_drewN (G1.alloc C2 29) n2
  clear T1 B1 G1
  go_wp2_with fail
  refine (query_plain _ _ _ _ _ _ _ _ _ T2 B2 (by rw [e3]; rfl) (by rw [e4]; rfl)).mono ?_
  rintro e w3 ⟨rfl, C3, n3, rfl⟩
  have G3 := grown_drewN (G2.alloc C3 29) n3
  clear T2 B2 G2
  go_wp2
  go_ret
  exact ⟨rfl, G3⟩

set_option maxHeartbeats 1000000 in
theorem law_drop (a0 : Int) (a1 : ByteArray) (a2 : ByteArray) (a3 : ByteArray) (a4 : Bool) (a5 : ByteArray) (a6 : Bool) (a7 : ByteArray) (a8 : Bool) (a9 : Int) (w : World) (h : a1.size + a2.size + a3.size + a5.size + a7.size ≤ 1048576)
    (e1 : bits BinOp.and IntKind.u8 (bits BinOp.and IntKind.u8 a9 3) 1 = bits BinOp.and IntKind.u8 a9 1) (e2 : bits BinOp.and IntKind.u8 (bits BinOp.and IntKind.u8 a9 3) 2 = bits BinOp.and IntKind.u8 a9 2)
    (e3 : bits BinOp.and IntKind.u8 (bits BinOp.andNot IntKind.u8 a9 3) 1 = 0) (e4 : bits BinOp.and IntKind.u8 (bits BinOp.andNot IntKind.u8 a9 3) 2 = 0) (g1 : (bits BinOp.and IntKind.u8 a9 1 != 0) = false) (g2 : (bits BinOp.and IntKind.u8 a9 2 != 0) = true) :
    Calls Try.prog 3 #[.int .u8 a0, .string a1, .string a2, .string a3, .bool a4, .string a5, .bool a6, .string a7, .bool a8, .int .u8 a9] w fun e w' => e = .returned (.bool true) ∧ Grown w w' := by
  have h' : (a1.size : Int) + a2.size + a3.size + a5.size + a7.size ≤ 1048576 := by omega
  have t1 : ¬ (1048576 : Int) < a1.size := by omega
  have t2 : ¬ (1048576 : Int) < a2.size := by omega
  have t3 : ¬ (1048576 : Int) < a3.size := by omega
  have t5 : ¬ (1048576 : Int) < a5.size := by omega
  have t7 : ¬ (1048576 : Int) < a7.size := by omega
  have T0 := tgt_new w a0 a1 a2 a3 a4 a5 a6 a7 a8
  have B0 : w.heap.size < (w.alloc (.cells #[.int .u8 a0, .string a1, .string a2, .string a3, .bool a4, .string a5, .bool a6, .string a7, .bool a8] 31)).heap.size := by simp
  have G0 : Grown w (w.alloc (.cells #[.int .u8 a0, .string a1, .string a2, .string a3, .bool a4, .string a5, .bool a6, .string a7, .bool a8] 31)) := (Grown.refl _).alloc _ _
  go_enter Try.func3, Try.ntmps3
  go_wp2_with (first | (go_at_call 4; refine (bytes_yes _ _ _ _ _ _ _ _ _ _ _ h).mono ?_; rintro e w' ⟨rfl, rfl⟩) | (go_at_call 5; refine (newTarget_any _ _ _ _ _ _ _ _ _ _).mono ?_; rintro e w1 ⟨rfl, rfl⟩))
  refine (query_drop _ _ _ _ _ _ _ _ _ T0 B0 g1 g2).mono ?_
  rintro e w1 ⟨rfl, C1, n1, rfl⟩
  have T1 := tgt_keep T0 B0 C1 n1
  have B1 := lt_keep B0 C1 n1
  have G1 := grown_drewN (G0.alloc C1 29) n1
  clear T0 B0 G0
  go_wp2_with fail
  refine (query_drop _ _ _ _ _ _ _ _ _ T1 B1 (by rw [e1]; exact g1) (by rw [e2]; exact g2)).mono ?_
  rintro e w2 ⟨rfl, C2, n2, rfl⟩
  have T2 := tgt_keep T1 B1 C2 n2
  have B2 := lt_keep B1 C2 n2
  have G2 := grown_drewN (G1.alloc C2 29) n2
  clear T1 B1 G1
  go_wp2_with fail
  refine (query_plain _ _ _ _ _ _ _ _ _ T2 B2 (by rw [e3]; rfl) (by rw [e4]; rfl)).mono ?_
  rintro e w3 ⟨rfl, C3, n3, rfl⟩
  have G3 := grown_drewN (G2.alloc C3 29) n3
  clear T2 B2 G2
  go_wp2
  go_ret
  exact ⟨rfl, G3⟩

set_option maxHeartbeats 1000000 in
theorem law_plain (a0 : Int) (a1 : ByteArray) (a2 : ByteArray) (a3 : ByteArray) (a4 : Bool) (a5 : ByteArray) (a6 : Bool) (a7 : ByteArray) (a8 : Bool) (a9 : Int) (w : World) (h : a1.size + a2.size + a3.size + a5.size + a7.size ≤ 1048576)
    (e1 : bits BinOp.and IntKind.u8 (bits BinOp.and IntKind.u8 a9 3) 1 = bits BinOp.and IntKind.u8 a9 1) (e2 : bits BinOp.and IntKind.u8 (bits BinOp.and IntKind.u8 a9 3) 2 = bits BinOp.and IntKind.u8 a9 2)
    (e3 : bits BinOp.and IntKind.u8 (bits BinOp.andNot IntKind.u8 a9 3) 1 = 0) (e4 : bits BinOp.and IntKind.u8 (bits BinOp.andNot IntKind.u8 a9 3) 2 = 0) (g1 : (bits BinOp.and IntKind.u8 a9 1 != 0) = false) (g2 : (bits BinOp.and IntKind.u8 a9 2 != 0) = false) :
    Calls Try.prog 3 #[.int .u8 a0, .string a1, .string a2, .string a3, .bool a4, .string a5, .bool a6, .string a7, .bool a8, .int .u8 a9] w fun e w' => e = .returned (.bool true) ∧ Grown w w' := by
  have h' : (a1.size : Int) + a2.size + a3.size + a5.size + a7.size ≤ 1048576 := by omega
  have t1 : ¬ (1048576 : Int) < a1.size := by omega
  have t2 : ¬ (1048576 : Int) < a2.size := by omega
  have t3 : ¬ (1048576 : Int) < a3.size := by omega
  have t5 : ¬ (1048576 : Int) < a5.size := by omega
  have t7 : ¬ (1048576 : Int) < a7.size := by omega
  have T0 := tgt_new w a0 a1 a2 a3 a4 a5 a6 a7 a8
  have B0 : w.heap.size < (w.alloc (.cells #[.int .u8 a0, .string a1, .string a2, .string a3, .bool a4, .string a5, .bool a6, .string a7, .bool a8] 31)).heap.size := by simp
  have G0 : Grown w (w.alloc (.cells #[.int .u8 a0, .string a1, .string a2, .string a3, .bool a4, .string a5, .bool a6, .string a7, .bool a8] 31)) := (Grown.refl _).alloc _ _
  go_enter Try.func3, Try.ntmps3
  go_wp2_with (first | (go_at_call 4; refine (bytes_yes _ _ _ _ _ _ _ _ _ _ _ h).mono ?_; rintro e w' ⟨rfl, rfl⟩) | (go_at_call 5; refine (newTarget_any _ _ _ _ _ _ _ _ _ _).mono ?_; rintro e w1 ⟨rfl, rfl⟩))
  refine (query_plain _ _ _ _ _ _ _ _ _ T0 B0 g1 g2).mono ?_
  rintro e w1 ⟨rfl, C1, n1, rfl⟩
  have T1 := tgt_keep T0 B0 C1 n1
  have B1 := lt_keep B0 C1 n1
  have G1 := grown_drewN (G0.alloc C1 29) n1
  clear T0 B0 G0
  go_wp2_with fail
  refine (query_plain _ _ _ _ _ _ _ _ _ T1 B1 (by rw [e1]; exact g1) (by rw [e2]; exact g2)).mono ?_
  rintro e w2 ⟨rfl, C2, n2, rfl⟩
  have T2 := tgt_keep T1 B1 C2 n2
  have B2 := lt_keep B1 C2 n2
  have G2 := grown_drewN (G1.alloc C2 29) n2
  clear T1 B1 G1
  go_wp2_with fail
  refine (query_plain _ _ _ _ _ _ _ _ _ T2 B2 (by rw [e3]; rfl) (by rw [e4]; rfl)).mono ?_
  rintro e w3 ⟨rfl, C3, n3, rfl⟩
  have G3 := grown_drewN (G2.alloc C3 29) n3
  clear T2 B2 G2
  go_wp2
  go_ret
  exact ⟨rfl, G3⟩

/-- The law, at every input. -/
theorem law_any (a0 : Int) (a1 : ByteArray) (a2 : ByteArray) (a3 : ByteArray) (a4 : Bool) (a5 : ByteArray) (a6 : Bool) (a7 : ByteArray) (a8 : Bool) (a9 : Int) (w1 : a1.size ≤ maxLen) (w2 : a2.size ≤ maxLen) (w3 : a3.size ≤ maxLen) (w5 : a5.size ≤ maxLen) (w7 : a7.size ≤ maxLen) (w9 : (Lit.int .u8 a9).wf = true) (w : World) :
    Calls Try.prog 3 #[.int .u8 a0, .string a1, .string a2, .string a3, .bool a4, .string a5, .bool a6, .string a7, .bool a8, .int .u8 a9] w fun e w' => e = .returned (.bool true) ∧ Grown w w' := by
  by_cases h : a1.size + a2.size + a3.size + a5.size + a7.size ≤ 1048576
  · have b9 : 0 ≤ a9 ∧ a9 ≤ 255 := bounds_u8 w9
    obtain ⟨e1, e2, e3, e4⟩ := bits_facts a9 b9.1 b9.2
    cases g1 : bits BinOp.and IntKind.u8 a9 1 != 0
    · cases g2 : bits BinOp.and IntKind.u8 a9 2 != 0
      · exact law_plain a0 a1 a2 a3 a4 a5 a6 a7 a8 a9 w h e1 e2 e3 e4 g1 g2
      · exact law_drop a0 a1 a2 a3 a4 a5 a6 a7 a8 a9 w h e1 e2 e3 e4 g1 g2
    · exact law_parse a0 a1 a2 a3 a4 a5 a6 a7 a8 a9 w h e1 e2 e3 e4 g1
  · have h' : 1048576 < a1.size + a2.size + a3.size + a5.size + a7.size := by omega
    clear h
    go_enter Try.func3, Try.ntmps3
    go_wp2_with (go_at_call 4; refine (bytes_no _ _ _ _ _ _ _ _ _ _ _ h' w1 w2 w3 w5 w7).mono ?_; rintro e w' ⟨rfl, rfl⟩)
    go_ret
    exact ⟨rfl, Grown.refl _⟩
end Go.Proofs.Qxb6627651a
