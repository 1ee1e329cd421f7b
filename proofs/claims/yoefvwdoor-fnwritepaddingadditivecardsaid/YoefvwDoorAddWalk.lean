/-
  The walk of FnWritePaddingAdditive.
-/
import Derived.Test.YoefvwDoorTop
namespace Go.Proofs.YoefvwDoor
open Go.RowKit

set_option maxHeartbeats 400000 in
theorem bytes23_no (ao : Option Addr) (n cap : Nat) (a b : Int) (z : Bool) (w : World) (h : 1048576 < n) :
    Calls Efvg.prog 23 #[.slice ao n cap, .int .i64 a, .int .i64 b, .bool z] w fun e w' => e = .returned (.bool false) ∧ w = w' := by
  go_enter Efvg.func23, Efvg.ntmps23
  go_wp2
  go_ret
  exact ⟨rfl, rfl⟩

set_option maxHeartbeats 400000 in
theorem bytes23_yes (ao : Option Addr) (n cap : Nat) (a b : Int) (z : Bool) (w : World) (h : n ≤ 1048576) :
    Calls Efvg.prog 23 #[.slice ao n cap, .int .i64 a, .int .i64 b, .bool z] w fun e w' => e = .returned (.bool true) ∧ w = w' := by
  go_enter Efvg.func23, Efvg.ntmps23
  go_wp2
  go_ret
  exact ⟨rfl, rfl⟩

set_option maxHeartbeats 800000 in
theorem add_out (ao : Option Addr) (cap : Nat) (l : List UInt8) (a b : Int) (z : Bool) (w : World) (hout : 1048576 < l.length ∨ (l.length ≤ 1048576 ∧ (a < 0 ∨ (0 ≤ a ∧ 65536 < a) ∨ (0 ≤ a ∧ a ≤ 65536 ∧ (b < 0 ∨ (0 ≤ b ∧ 65536 < b)))))) :
    Calls Efvg.prog 5 #[.slice ao l.length cap, .int .i64 a, .int .i64 b, .bool z] w fun e w' => e = .returned (.bool true) ∧ Below w.heap.size w w' := by
  rcases hout with h | ⟨hl, h | ⟨h1, h2⟩ | ⟨h1, h2, h3 | ⟨h3, h4⟩⟩⟩
  · go_enter Efvg.func5, Efvg.ntmps5
    go_wp2_with (go_at_call 23; refine (bytes23_no _ _ _ _ _ _ _ h).mono ?_; rintro e w' ⟨rfl, rfl⟩)
    go_ret
    exact ⟨rfl, Below.refl _ _⟩
  all_goals
    go_enter Efvg.func5, Efvg.ntmps5
    go_wp2_with (go_at_call 23; refine (bytes23_yes _ _ _ _ _ _ _ hl).mono ?_; rintro e w' ⟨rfl, rfl⟩)
    go_ret
    exact ⟨rfl, Below.refl _ _⟩

set_option maxHeartbeats 800000 in
theorem add_in (ao : Option Addr) (cap : Nat) (l : List UInt8) (a b : Int) (z : Bool) (w : World) (hr : Reads w (.slice ao l.length cap) l) (hmax : w.cell? ⟨0, 0, none⟩ = some (.int .i64 2147483647))
    (hl : l.length ≤ 1048576) (ha : 0 ≤ a) (ha2 : a ≤ 65536) (hb : 0 ≤ b) (hb2 : b ≤ 65536) :
    Calls Efvg.prog 5 #[.slice ao l.length cap, .int .i64 a, .int .i64 b, .bool z] w fun e w' => e = .returned (.bool true) ∧ Below w.heap.size w w' := by
  have h0s := World.block_lt_of_cell? w _ hmax
  go_enter Efvg.func5, Efvg.ntmps5
  go_wp2_with (go_at_call 23; refine (bytes23_yes _ _ _ _ _ _ _ hl).mono ?_; rintro e w' ⟨rfl, rfl⟩)
  refine (clone_any _ l _ hr hl).mono ?_
  rintro e w1 ⟨v1, rfl, ho1, hb1⟩
  obtain ⟨a1, c1, rfl⟩ := own_slice ho1
  go_wp2_with fail
  refine (clone_any _ l _ ho1.reads hl).mono ?_
  rintro e w2 ⟨v2, rfl, ho2, hb2⟩
  go_wp2_with fail
  refine (new_any w1.heap.size _ l _ ho2 hb2.size).mono ?_
  rintro e w3 ⟨rfl, f3, hf3, _, hb3⟩
  go_wp2_with fail
  refine (setFlags_any _ _ _ _ _ _ hf3.fa false false false false z).mono ?_
  rintro e w4 ⟨rfl, ha4, hg4⟩
  have hf4 := hf3.upd ha4 hg4
  have hz4 : upd (upd (upd (upd (upd f3 2 false) 3 false) 4 false) 5 false) 6 z 6 = z := rfl
  have hb4 : Below w1.heap.size w1 w4 := ((hb2.trans (hb3.mono hb2.size)).trans (hf3.low hg4))
  have hm4 := (hb1.trans (hb4.mono hb1.size)).cell (p := ⟨0, 0, none⟩) h0s |>.trans hmax
  generalize upd (upd (upd (upd (upd f3 2 false) 3 false) 4 false) 5 false) 6 z = f4 at hf4 hz4
  have Hz4 := hide hz4
  have Hf4 := hide hf4
  clear hz4 hf4 ha4 hg4 hf3 hb2 hb3 ho2
  go_wp2_with fail
  refine (wpadZZ_any _ _ _ _ _ _ _ _ (unhide Hf4) a hm4 (by omega) (by omega)).mono ?_
  rintro e w5 ⟨rfl, hf5, hb5⟩
  rw [unhide Hz4] at hf5
  have hb5' := hb4.trans hb5
  have hm5 := (hb1.trans (hb5'.mono hb1.size)).cell (p := ⟨0, 0, none⟩) h0s |>.trans hmax
  have Hf5 := hide hf5
  clear hf5 Hf4 hm4 hb4 hb5
  go_wp2_with fail
  refine (wpadZZ_any _ _ _ _ _ _ _ _ (unhide Hf5) b hm5 (by rw [List.length_append, pads_length]; omega) (by omega)).mono ?_
  rintro e w6 ⟨rfl, hf6, hb6⟩
  rw [unhide Hz4, List.append_assoc, ← pads_add, show a.toNat + b.toNat = (a + b).toNat by omega] at hf6
  have hb6' := hb5'.trans hb6
  have ho6 := ho1.below hb6' (Nat.le_refl _)
  have Hf6 := hide hf6
  clear hf6 Hf5 hm5 hb5' hb6 ho1
  go_wp2_with fail
  refine (clone_any _ l _ ho6.reads hl).mono ?_
  rintro e w7 ⟨v7, rfl, ho7, hb7⟩
  go_wp2_with fail
  refine (new_any w6.heap.size _ l _ ho7 hb7.size).mono ?_
  rintro e w8 ⟨rfl, f8, hf8, _, hb8⟩
  go_wp2_with fail
  refine (setFlags_any _ _ _ _ _ _ hf8.fa false false false false z).mono ?_
  rintro e w9 ⟨rfl, ha9, hg9⟩
  have hf9 := hf8.upd ha9 hg9
  have hz9 : upd (upd (upd (upd (upd f8 2 false) 3 false) 4 false) 5 false) 6 z 6 = z := rfl
  have hb9 : Below w6.heap.size w6 w9 := ((hb7.trans (hb8.mono hb7.size)).trans (hf8.low hg9))
  have hb19 : Below w.heap.size w w9 := (hb1.trans (hb6'.mono hb1.size)).trans (hb9.mono (Nat.le_trans hb1.size hb6'.size))
  have hm9 := hb19.cell (p := ⟨0, 0, none⟩) h0s |>.trans hmax
  generalize upd (upd (upd (upd (upd f8 2 false) 3 false) 4 false) 5 false) 6 z = f9 at hf9 hz9
  have Hz9 := hide hz9
  have Hf9 := hide hf9
  clear hz9 hf9 ha9 hg9 hf8 hb7 hb8 ho7
  go_wp2_with fail
  refine (wpadZZ_any _ _ _ _ _ _ _ _ (unhide Hf9) (a + b) hm9 (by omega) (by omega)).mono ?_
  rintro e w10 ⟨rfl, hf10, hb10⟩
  rw [unhide Hz9] at hf10
  have hb10' := hb9.trans hb10
  have hb110 : Below w.heap.size w w10 := hb19.trans (hb10.mono (Nat.le_trans hb1.size hb6'.size))
  have hf61 := (unhide Hf6).below hb10' (Nat.le_refl _)
  have ho61 := ho6.below hb10' (Nat.le_refl _)
  have hLl : (l ++ pads z (a + b).toNat).length = l.length + (a + b).toNat := by rw [List.length_append, pads_length]
  generalize hL : l ++ pads z (a + b).toNat = L at hf61 hf10 hLl
  have HL := hide hL
  have HLl := hide hLl
  have Hf10 := hide hf10
  have Hf61 := hide hf61
  clear hL hLl hf10 hf61 Hf9 Hf6 hm9 hb9 hb10 hb19 hb6' ho6 hb1
  go_wp2_with fail
  refine (buf_any _ _ _ _ _ _ _ _ (unhide Hf61)).mono ?_
  rintro e _ ⟨r1, rfl, hor1, rfl⟩
  go_wp2_with fail
  refine (buf_any _ _ _ _ _ _ _ _ (unhide Hf10)).mono ?_
  rintro e _ ⟨r2, rfl, hor2, rfl⟩
  go_wp2_with fail
  refine (equal_any _ _ _ _ hor1.reads hor2.reads (by rw [unhide HLl]; omega)).mono ?_
  rintro e w11 ⟨rfl, hb11⟩
  have hor := hor1.below hb11 (Nat.le_refl _)
  have hov := ho61.below hb11 (Nat.le_refl _)
  clear hor1 hor2 ho61 Hf10 Hf61
  have hfin : Below w.heap.size w w11 := hb110.trans (hb11.mono hb110.size)
  obtain ⟨x, c, rfl, hc1, hc2⟩ := own_form hor
  have hpre' : Reads w11 (.slice x l.length c) l := by
    have := hor.reads
    rw [← unhide HL] at this
    exact this.pre
  unfold maxLen at hc2
  have hn1 : (L.length : Int) ≤ l.length + a + b := by rw [unhide HLl]; omega
  have hn2 : (l.length : Int) + a + b ≤ L.length := by rw [unhide HLl]; omega
  clear hor HL HLl
  go_wp2_with fail
  refine (equal_any _ _ _ _ hpre' hov.reads (by omega)).mono ?_
  rintro e w12 ⟨rfl, hb12⟩
  go_wp2_with fail
  go_ret
  exact ⟨rfl, hfin.trans (hb12.mono hfin.size)⟩

theorem add_walk (ao : Option Addr) (cap : Nat) (l : List UInt8) (a b : Int) (z : Bool) (w : World) (hr : Reads w (.slice ao l.length cap) l) (hmax : w.cell? ⟨0, 0, none⟩ = some (.int .i64 2147483647)) :
    Calls Efvg.prog 5 #[.slice ao l.length cap, .int .i64 a, .int .i64 b, .bool z] w fun e w' => e = .returned (.bool true) ∧ Below w.heap.size w w' := by
  by_cases h1 : l.length ≤ 1048576
  · by_cases h2 : 0 ≤ a ∧ a ≤ 65536 ∧ 0 ≤ b ∧ b ≤ 65536
    · exact add_in ao cap l a b z w hr hmax h1 h2.1 h2.2.1 h2.2.2.1 h2.2.2.2
    · exact add_out ao cap l a b z w (by omega)
  · exact add_out ao cap l a b z w (by omega)
end Go.Proofs.YoefvwDoor
