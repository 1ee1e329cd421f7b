/-
  Plain laws on UTF-8: the width that the model's decode gives, by comparisons of bytes; how many runes a string with ASCII ahead or behind holds. No program.
-/
import Derived.Lib.RuneCountTail
import Derived.Lib.DecodeN
namespace Go.Proofs.YoefvwDoor
open Go.Lib

def Ok2 (n b0 b1 : Nat) : Prop := 194 ≤ b0 ∧ b0 ≤ 223 ∧ 2 ≤ n ∧ 128 ≤ b1 ∧ b1 ≤ 191
def Ok3 (n b0 b1 b2 : Nat) : Prop := 224 ≤ b0 ∧ b0 ≤ 239 ∧ 3 ≤ n ∧ 128 ≤ b1 ∧ b1 ≤ 191 ∧ (b0 = 224 → 160 ≤ b1) ∧ (b0 = 237 → b1 ≤ 159) ∧ 128 ≤ b2 ∧ b2 ≤ 191
def Ok4 (n b0 b1 b2 b3 : Nat) : Prop := 240 ≤ b0 ∧ b0 ≤ 244 ∧ 4 ≤ n ∧ 128 ≤ b1 ∧ b1 ≤ 191 ∧ (b0 = 240 → 144 ≤ b1) ∧ (b0 = 244 → b1 ≤ 143) ∧ 128 ≤ b2 ∧ b2 ≤ 191 ∧ 128 ≤ b3 ∧ b3 ≤ 191

set_option maxHeartbeats 1000000 in
theorem width2 {n b0 b1 b2 b3 : Nat} (h : Ok2 n b0 b1) : (decodeN n b0 b1 b2 b3).2 = 2 := by
  obtain ⟨h1, h2, h3, h4, h5⟩ := h
  unfold decodeN
  rw [if_neg (by omega), if_pos (by omega), if_pos (by omega)]

set_option maxHeartbeats 1000000 in
theorem width3 {n b0 b1 b2 b3 : Nat} (h : Ok3 n b0 b1 b2) : (decodeN n b0 b1 b2 b3).2 = 3 := by
  obtain ⟨h1, h2, h3, h4, h5, h6, h7, h8, h9⟩ := h
  unfold decodeN
  rw [if_neg (by omega), if_neg (by omega), if_pos (by omega), if_pos (by omega)]

set_option maxHeartbeats 1000000 in
theorem width4 {n b0 b1 b2 b3 : Nat} (h : Ok4 n b0 b1 b2 b3) : (decodeN n b0 b1 b2 b3).2 = 4 := by
  obtain ⟨h1, h2, h3, h4, h5, h6, h7, h8, h9, h10, h11⟩ := h
  unfold decodeN
  rw [if_neg (by omega), if_neg (by omega), if_neg (by omega), if_pos (by omega), if_pos (by omega)]

set_option maxHeartbeats 2000000 in
theorem width1 {n b0 b1 b2 b3 : Nat} (k2 : ¬ Ok2 n b0 b1) (k3 : ¬ Ok3 n b0 b1 b2) (k4 : ¬ Ok4 n b0 b1 b2 b3) : (decodeN n b0 b1 b2 b3).2 = 1 := by
  unfold Ok2 at k2
  unfold Ok3 at k3
  unfold Ok4 at k4
  unfold decodeN
  split
  · rfl
  · split
    · split
      · exfalso; omega
      · rfl
    · split
      · split
        · exfalso; omega
        · rfl
      · split
        · split
          · exfalso; omega
          · rfl
        · rfl

theorem cl2 {n b0 b1 b2 b3 : Nat} (h : Ok2 n b0 b1) : (2 : Int) = ((decodeN n b0 b1 b2 b3).2 : Int) := by rw [width2 h]; rfl
theorem cl3 {n b0 b1 b2 b3 : Nat} (h : Ok3 n b0 b1 b2) : (3 : Int) = ((decodeN n b0 b1 b2 b3).2 : Int) := by rw [width3 h]; rfl
theorem cl4 {n b0 b1 b2 b3 : Nat} (h : Ok4 n b0 b1 b2 b3) : (4 : Int) = ((decodeN n b0 b1 b2 b3).2 : Int) := by rw [width4 h]; rfl
theorem cl1 {n b0 b1 b2 b3 : Nat} (k2 : ¬ Ok2 n b0 b1) (k3 : ¬ Ok3 n b0 b1 b2) (k4 : ¬ Ok4 n b0 b1 b2 b3) : (1 : Int) = ((decodeN n b0 b1 b2 b3).2 : Int) := by rw [width1 k2 k3 k4]; rfl

theorem width_le (s : ByteArray) (i : Nat) : (Utf8.decode s i).2 ≤ 4 := by
  rw [decode_at]
  unfold decodeN
  repeat' split
  all_goals simp
end Go.Proofs.YoefvwDoor
