/-
  Plain laws: how many runes a string with ASCII behind it holds. No program.
-/
import Derived.Test.YoefvwDoorRune
namespace Go.Proofs.YoefvwDoor
open Go.Lib

theorem width_same {n n' b0 b1 b2 b3 c1 c2 c3 : Nat} (hn : n ≤ n') (h1 : 1 < n → c1 = b1) (h2 : 2 < n → c2 = b2) (h3 : 3 < n → c3 = b3) (k1 : ¬ 1 < n → c1 < 128) (k2 : ¬ 2 < n → c2 < 128) (k3 : ¬ 3 < n → c3 < 128) :
    (decodeN n' b0 c1 c2 c3).2 = (decodeN n b0 b1 b2 b3).2 := by
  by_cases o2 : Ok2 n b0 b1
  · rw [width2 o2]
    unfold Ok2 at o2
    exact width2 (by unfold Ok2; omega)
  · by_cases o3 : Ok3 n b0 b1 b2
    · rw [width3 o3]
      unfold Ok3 at o3
      exact width3 (by unfold Ok3; omega)
    · by_cases o4 : Ok4 n b0 b1 b2 b3
      · rw [width4 o4]
        unfold Ok4 at o4
        exact width4 (by unfold Ok4; omega)
      · rw [width1 o2 o3 o4]
        unfold Ok2 at o2
        unfold Ok3 at o3
        unfold Ok4 at o4
        exact width1 (by unfold Ok2; omega) (by unfold Ok3; omega) (by unfold Ok4; omega)

theorem width_fit {n b0 b1 b2 b3 : Nat} (hn : 1 ≤ n) : (decodeN n b0 b1 b2 b3).2 ≤ n := by
  by_cases o2 : Ok2 n b0 b1
  · rw [width2 o2]; exact o2.2.2.1
  · by_cases o3 : Ok3 n b0 b1 b2
    · rw [width3 o3]; exact o3.2.2.1
    · by_cases o4 : Ok4 n b0 b1 b2 b3
      · rw [width4 o4]; exact o4.2.2.1
      · rw [width1 o2 o3 o4]; exact hn

theorem get_app (s p : List UInt8) (hp : ∀ c ∈ p, c.toNat < 128) (j : Nat) : (j < s.length → ((s ++ p).getD j 0).toNat = (s.getD j 0).toNat) ∧ (¬ j < s.length → ((s ++ p).getD j 0).toNat < 128) := by
  constructor
  · intro h
    rw [List.getD_eq_getElem?_getD, List.getD_eq_getElem?_getD, List.getElem?_append_left h]
  · intro h
    rw [List.getD_eq_getElem?_getD, List.getElem?_append_right (by omega)]
    cases hq : p[j - s.length]? with
    | none => decide
    | some c => exact hp c (List.mem_of_getElem? hq)

theorem decode_app (s p : List UInt8) (hp : ∀ c ∈ p, c.toNat < 128) (i : Nat) (hi : i < s.length) : (Utf8.decode (strOf (s ++ p)) i).2 = (Utf8.decode (strOf s) i).2 := by
  rw [decode_at, decode_at]
  simp only [strOf_get, strOf_size]
  rw [(get_app s p hp i).1 hi]
  refine width_same (by rw [List.length_append]; omega) ?_ ?_ ?_ ?_ ?_ ?_
  · exact fun h => (get_app s p hp (i + 1)).1 (by omega)
  · exact fun h => (get_app s p hp (i + 2)).1 (by omega)
  · exact fun h => (get_app s p hp (i + 3)).1 (by omega)
  · exact fun h => (get_app s p hp (i + 1)).2 (by omega)
  · exact fun h => (get_app s p hp (i + 2)).2 (by omega)
  · exact fun h => (get_app s p hp (i + 3)).2 (by omega)

theorem decode_fit (s : List UInt8) (i : Nat) (hi : i < s.length) : i + (Utf8.decode (strOf s) i).2 ≤ s.length := by
  have := width_fit (n := (strOf s).size - i) (b0 := ((strOf s).get! i).toNat) (b1 := ((strOf s).get! (i + 1)).toNat) (b2 := ((strOf s).get! (i + 2)).toNat) (b3 := ((strOf s).get! (i + 3)).toNat) (by rw [strOf_size]; omega)
  rw [← decode_at] at this
  rw [strOf_size] at this
  omega

theorem count_tail (s p : List UInt8) (hp : ∀ c ∈ p, c.toNat < 128) (fuel : Nat) : runeCountFrom (strOf (s ++ p)) (p.length + fuel) s.length = p.length := by
  have hsz : (strOf (s ++ p)).size = s.length + p.length := by rw [strOf_size, List.length_append]
  rw [head_count (strOf (s ++ p)) p.length fuel s.length (by omega) (fun j h1 _ => by rw [strOf_get]; exact (get_app s p hp j).2 (by omega)), runeCountFrom_end _ _ _ (by omega)]
  omega

theorem count_app (s p : List UInt8) (hp : ∀ c ∈ p, c.toNat < 128) : ∀ f i, s.length - i ≤ f → i ≤ s.length → runeCountFrom (strOf (s ++ p)) (f + p.length) i = runeCountFrom (strOf s) f i + p.length
  | 0, i, h1, h2 => by
    obtain rfl : i = s.length := by omega
    rw [Nat.zero_add, runeCountFrom_end _ 0 _ (by rw [strOf_size]; omega), Nat.zero_add]
    exact count_tail s p hp 0
  | f + 1, i, h1, h2 => by
    by_cases hi : i < s.length
    · have e : f + 1 + p.length = (f + p.length) + 1 := by omega
      rw [e]
      unfold runeCountFrom
      rw [if_pos (by rw [strOf_size, List.length_append]; omega), if_pos (by rw [strOf_size]; omega), decode_app s p hp i hi]
      have hf := decode_fit s i hi
      have hw := decode_width_pos (strOf s) i (by rw [strOf_size]; omega)
      rw [count_app s p hp f _ (by omega) hf]
      omega
    · obtain rfl : i = s.length := by omega
      rw [runeCountFrom_end (strOf s) (f + 1) _ (by rw [strOf_size]; omega), Nat.zero_add, Nat.add_comm]
      exact count_tail s p hp (f + 1)

/-- ASCII behind a string: so many runes more. -/
theorem runeCount_app (s p : List UInt8) (hp : ∀ c ∈ p, c.toNat < 128) : runeCount (strOf (s ++ p)) = runeCount (strOf s) + p.length := by
  unfold runeCount
  rw [strOf_size, strOf_size, List.length_append]
  exact count_app s p hp s.length 0 (by omega) (by omega)

/-- ASCII ahead of a string: so many runes more. -/
theorem runeCount_ahead (s p : List UInt8) (hp : ∀ c ∈ p, c.toNat < 128) : runeCount (strOf (p ++ s)) = p.length + runeCount (strOf s) := by
  rw [split_list (p ++ s) p.length (by rw [List.length_append]; omega) (fun j hj => ?_), List.drop_left]
  rw [List.getD_eq_getElem?_getD, List.getElem?_append_left hj, List.getElem?_eq_getElem hj]
  exact hp _ (List.getElem_mem hj)
end Go.Proofs.YoefvwDoor
