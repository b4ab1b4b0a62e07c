/-
  The walks of FnQueryOnlyQueryBitsMatter and of what it calls.
-/
import Derived.Test.Qxb6627651aRows
import Derived.WalkKit
import Derived.ProofKit
import Derived.WalkSpells
import Derived.StillTactics
import Derived.RegionTactic
import Derived.ChangeAlike
import Derived.Deep.QuietTactic
import Derived.BigQuiet
import Derived.WalkLawsBesides
namespace Go.Proofs.Qxb6627651a
open Go.RowKit
set_option linter.unusedSimpArgs false

/-- The nine cells of a target. -/
def Tgt (w : World) (b : Nat) (q1 : ByteArray) (p1 : Bool) (q2 : ByteArray) (p2 : Bool) (q3 : ByteArray) (p3 : Bool) : Prop :=
  w.cell? ⟨b, 3, none⟩ = some (.string q1) ∧ w.cell? ⟨b, 4, none⟩ = some (.bool p1) ∧ w.cell? ⟨b, 5, none⟩ = some (.string q2) ∧ w.cell? ⟨b, 6, none⟩ = some (.bool p2) ∧ w.cell? ⟨b, 7, none⟩ = some (.string q3) ∧ w.cell? ⟨b, 8, none⟩ = some (.bool p3)

set_option maxHeartbeats 400000 in
theorem query_parse (b : Nat) (r : Int) (q1 : ByteArray) (p1 : Bool) (q2 : ByteArray) (p2 : Bool) (q3 : ByteArray) (p3 : Bool) (w : World) (ht : Tgt w b q1 p1 q2 p2 q3 p3) (hb : b < w.heap.size) (h1 : (bits BinOp.and IntKind.u8 r 1 != 0) = true) :
    Calls Try.prog 6 #[.pointer (some ⟨b, 0, none⟩), .int .u8 r] w fun e w' => e = .returned (.tuple #[.string q3, .bool p3]) ∧ ∃ C n, w' = (w.alloc (.cells C 29)).drewN n := by
  obtain ⟨c3, c4, c5, c6, c7, c8⟩ := ht
  go_enter Try.func6, Try.ntmps6
  go_wp2
  go_quiet (fail)
  go_wp2
  go_ret2
  exact ⟨rfl, _, _, rfl⟩

set_option maxHeartbeats 400000 in
theorem query_drop (b : Nat) (r : Int) (q1 : ByteArray) (p1 : Bool) (q2 : ByteArray) (p2 : Bool) (q3 : ByteArray) (p3 : Bool) (w : World) (ht : Tgt w b q1 p1 q2 p2 q3 p3) (hb : b < w.heap.size) (h1 : (bits BinOp.and IntKind.u8 r 1 != 0) = false) (h2 : (bits BinOp.and IntKind.u8 r 2 != 0) = true) :
    Calls Try.prog 6 #[.pointer (some ⟨b, 0, none⟩), .int .u8 r] w fun e w' => e = .returned (.tuple #[.string q2, .bool p2]) ∧ ∃ C n, w' = (w.alloc (.cells C 29)).drewN n := by
  obtain ⟨c3, c4, c5, c6, c7, c8⟩ := ht
  go_enter Try.func6, Try.ntmps6
  go_wp2
  go_quiet (fail)
  go_wp2
  go_ret2
  exact ⟨rfl, _, _, rfl⟩

set_option maxHeartbeats 400000 in
theorem query_plain (b : Nat) (r : Int) (q1 : ByteArray) (p1 : Bool) (q2 : ByteArray) (p2 : Bool) (q3 : ByteArray) (p3 : Bool) (w : World) (ht : Tgt w b q1 p1 q2 p2 q3 p3) (_hb : b < w.heap.size) (h1 : (bits BinOp.and IntKind.u8 r 1 != 0) = false) (h2 : (bits BinOp.and IntKind.u8 r 2 != 0) = false) :
    Calls Try.prog 6 #[.pointer (some ⟨b, 0, none⟩), .int .u8 r] w fun e w' => e = .returned (.tuple #[.string q1, .bool p1]) ∧ ∃ C n, w' = (w.alloc (.cells C 29)).drewN n := by
  obtain ⟨c3, c4, c5, c6, c7, c8⟩ := ht
  go_enter Try.func6, Try.ntmps6
  go_wp2
  go_quiet (fail)
  go_wp2
  go_ret2
  exact ⟨rfl, _, _, rfl⟩

/-- The new target. -/
theorem newTarget_any (a0 : Int) (a1 a2 a3 : ByteArray) (a4 : Bool) (a5 : ByteArray) (a6 : Bool) (a7 : ByteArray) (a8 : Bool) (w : World) :
    Calls Try.prog 5 #[.int .u8 a0, .string a1, .string a2, .string a3, .bool a4, .string a5, .bool a6, .string a7, .bool a8] w fun e w' => e = .returned (.pointer (some ⟨w.heap.size, 0, none⟩)) ∧ w' = w.alloc (.cells #[.int .u8 a0, .string a1, .string a2, .string a3, .bool a4, .string a5, .bool a6, .string a7, .bool a8] 31) := by
  go_enter Try.func5, Try.ntmps5
  go_wp2
  go_ret
  exact ⟨rfl, rfl⟩

set_option maxHeartbeats 400000 in
theorem bytes_yes (a0 : Int) (a1 a2 a3 : ByteArray) (a4 : Bool) (a5 : ByteArray) (a6 : Bool) (a7 : ByteArray) (a8 : Bool) (a9 : Int) (w : World) (h : a1.size + a2.size + a3.size + a5.size + a7.size ≤ 1048576) :
    Calls Try.prog 4 #[.int .u8 a0, .string a1, .string a2, .string a3, .bool a4, .string a5, .bool a6, .string a7, .bool a8, .int .u8 a9] w fun e w' => e = .returned (.bool true) ∧ w' = w := by
  have h' : (a1.size : Int) + a2.size + a3.size + a5.size + a7.size ≤ 1048576 := by omega
  have t1 : ¬ (1048576 : Int) < a1.size := by omega
  have t2 : ¬ (1048576 : Int) < a2.size := by omega
  have t3 : ¬ (1048576 : Int) < a3.size := by omega
  have t5 : ¬ (1048576 : Int) < a5.size := by omega
  have t7 : ¬ (1048576 : Int) < a7.size := by omega
  go_enter Try.func4, Try.ntmps4
  go_wp2
  go_ret
  exact ⟨rfl, rfl⟩

set_option maxHeartbeats 1000000 in
theorem bytes_no (a0 : Int) (a1 a2 a3 : ByteArray) (a4 : Bool) (a5 : ByteArray) (a6 : Bool) (a7 : ByteArray) (a8 : Bool) (a9 : Int) (w : World) (h : 1048576 < a1.size + a2.size + a3.size + a5.size + a7.size) (w1 : a1.size ≤ maxLen) (w2 : a2.size ≤ maxLen) (w3 : a3.size ≤ maxLen) (w5 : a5.size ≤ maxLen) (w7 : a7.size ≤ maxLen) :
    Calls Try.prog 4 #[.int .u8 a0, .string a1, .string a2, .string a3, .bool a4, .string a5, .bool a6, .string a7, .bool a8, .int .u8 a9] w fun e w' => e = .returned (.bool false) ∧ w' = w := by
  unfold maxLen at w1 w2 w3 w5 w7
  have h' : (1048576 : Int) < (a1.size : Int) + a2.size + a3.size + a5.size + a7.size := by omega
  clear h
  go_enter Try.func4, Try.ntmps4
  go_wp2
  all_goals (go_ret; exact ⟨rfl, rfl⟩)

/-- The bits of a reading. -/
theorem bits_facts (r : Int) (h0 : 0 ≤ r) (h1 : r ≤ 255) :
    bits BinOp.and IntKind.u8 (bits BinOp.and IntKind.u8 r 3) 1 = bits BinOp.and IntKind.u8 r 1 ∧ bits BinOp.and IntKind.u8 (bits BinOp.and IntKind.u8 r 3) 2 = bits BinOp.and IntKind.u8 r 2 ∧
    bits BinOp.and IntKind.u8 (bits BinOp.andNot IntKind.u8 r 3) 1 = 0 ∧ bits BinOp.and IntKind.u8 (bits BinOp.andNot IntKind.u8 r 3) 2 = 0 := by
  have all : ∀ k : Fin 256, bits BinOp.and IntKind.u8 (bits BinOp.and IntKind.u8 (k.val : Int) 3) 1 = bits BinOp.and IntKind.u8 (k.val : Int) 1 ∧ bits BinOp.and IntKind.u8 (bits BinOp.and IntKind.u8 (k.val : Int) 3) 2 = bits BinOp.and IntKind.u8 (k.val : Int) 2 ∧
    bits BinOp.and IntKind.u8 (bits BinOp.andNot IntKind.u8 (k.val : Int) 3) 1 = 0 ∧ bits BinOp.and IntKind.u8 (bits BinOp.andNot IntKind.u8 (k.val : Int) 3) 2 = 0 := by decide +kernel
  obtain ⟨n, rfl⟩ := Int.eq_ofNat_of_zero_le h0
  exact all ⟨n, by omega⟩
end Go.Proofs.Qxb6627651a
