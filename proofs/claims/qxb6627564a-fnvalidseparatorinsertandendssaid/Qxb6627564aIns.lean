/-
  Plain facts on bytes: a separator put inside a name; the name of the two end bytes.
-/
import Derived.Test.Qxb6627564aBase
namespace Go.Proofs.Qxb6627564a

theorem bt_list (l : List UInt8) (k : Nat) : bt ⟨l.toArray⟩ k = ((l.getD k 0).toNat : Int) := rfl

/-- The bytes of s with c put in before place k. -/
def ins (s : ByteArray) (k : Nat) (c : UInt8) : ByteArray := s.extract 0 k ++ ⟨#[c]⟩ ++ s.extract k s.size

theorem ins_toList (s : ByteArray) (k : Nat) (c : UInt8) : (ins s k c).data.toList = s.data.toList.take k ++ [c] ++ s.data.toList.drop k := by
  unfold ins
  simp [ByteArray.data_append, ByteArray.data_extract]
  refine List.take_of_length_le ?_
  simp

theorem ins_size (s : ByteArray) (k : Nat) (c : UInt8) (hk : k ≤ s.size) : (ins s k c).size = s.size + 1 := by
  have h : (ins s k c).size = (ins s k c).data.toList.length := by simp
  rw [h, ins_toList]
  have : s.data.toList.length = s.size := by simp
  simp only [List.length_append, List.length_take, List.length_drop, List.length_singleton, this]
  omega

theorem bt_ins (s : ByteArray) (k j : Nat) (c : UInt8) (hk : k ≤ s.size) : bt (ins s k c) j = if j < k then bt s j else if j = k then (c.toNat : Int) else bt s (j - 1) := by
  have hl : s.data.toList.length = s.size := by simp
  unfold bt
  rw [ins_toList]
  simp only [List.getD_eq_getElem?_getD]
  by_cases h1 : j < k
  · rw [if_pos h1, List.append_assoc, List.getElem?_append_left (by simp only [List.length_take, hl]; omega), List.getElem?_take_of_lt h1]
  · rw [if_neg h1, List.append_assoc, List.getElem?_append_right (by simp only [List.length_take, hl]; omega)]
    simp only [List.length_take, hl]
    rw [Nat.min_eq_left hk]
    by_cases h2 : j = k
    · subst h2; simp
    · rw [if_neg h2]
      obtain ⟨m, rfl⟩ : ∃ m, j = k + m + 1 := ⟨j - k - 1, by omega⟩
      have e1 : k + m + 1 - k = m + 1 := by omega
      have e2 : k + m + 1 - 1 = k + m := by omega
      rw [e1, e2]
      simp

theorem val_ins (s : ByteArray) (k : Nat) (c : UInt8) (hc : seB (c.toNat : Int) = true) (hk1 : 1 ≤ k) (hk2 : k < s.size) : valB (ins s k c) = (decide (s.size ≤ 63) && valB s) := by
  have hz := ins_size s k c (by omega)
  rw [Bool.eq_iff_iff, Bool.and_eq_true, decide_eq_true_iff, valB_iff, valB_iff, hz]
  have b0 : bt (ins s k c) 0 = bt s 0 := by rw [bt_ins _ _ _ _ (by omega), if_pos (by omega)]
  have bn : bt (ins s k c) (s.size + 1 - 1) = bt s (s.size - 1) := by
    rw [bt_ins _ _ _ _ (by omega), if_neg (by omega), if_neg (by omega)]; rfl
  rw [b0, bn]
  constructor
  · rintro ⟨h1, h2, h3, h4, h5⟩
    refine ⟨by omega, by omega, by omega, h3, h4, fun j hj => ?_⟩
    by_cases e : j < k
    · have := h5 j (by omega)
      rw [bt_ins _ _ _ _ (by omega), if_pos e] at this
      exact this
    · have := h5 (j + 1) (by omega)
      rw [bt_ins _ _ _ _ (by omega), if_neg (by omega), if_neg (by omega)] at this
      exact this
  · rintro ⟨h0, h1, h2, h3, h4, h5⟩
    refine ⟨by omega, by omega, h3, h4, fun j hj => ?_⟩
    rw [bt_ins _ _ _ _ (by omega)]
    split
    · exact h5 j (by omega)
    · split
      · simp [okB, hc]
      · exact h5 (j - 1) (by omega)

theorem val_ends (x y : UInt8) : valB ⟨#[x, y]⟩ = (alB (x.toNat : Int) && alB (y.toNat : Int)) := by
  have hs : (ByteArray.mk #[x, y]).size = 2 := rfl
  have b0 : bt ⟨#[x, y]⟩ 0 = (x.toNat : Int) := rfl
  have b1 : bt ⟨#[x, y]⟩ 1 = (y.toNat : Int) := rfl
  rw [Bool.eq_iff_iff, Bool.and_eq_true, valB_iff, hs]
  have e : 2 - 1 = 1 := rfl
  rw [e, b0, b1]
  constructor
  · rintro ⟨_, _, h3, h4, _⟩
    exact ⟨h3, h4⟩
  · rintro ⟨h3, h4⟩
    refine ⟨by omega, by omega, h3, h4, fun j hj => ?_⟩
    match j, hj with
    | 0, _ => rw [b0]; simp [okB, h3]
    | 1, _ => rw [b1]; simp [okB, h4]
end Go.Proofs.Qxb6627564a
