/-
  The walk of FnWritePaddingExact.
-/
import Derived.Test.YoefvwDoorTop
namespace Go.Proofs.YoefvwDoor
open Go.RowKit

set_option maxHeartbeats 400000 in
theorem bytes20_no (ao : Option Addr) (n cap : Nat) (a : Int) (y z : Bool) (w : World) (h : 1048576 < n) :
    Calls Efvg.prog 20 #[.slice ao n cap, .int .i64 a, .bool y, .bool z] w fun e w' => e = .returned (.bool false) ∧ w = w' := by
  go_enter Efvg.func20, Efvg.ntmps20
  go_wp2
  go_ret
  exact ⟨rfl, rfl⟩

set_option maxHeartbeats 400000 in
theorem bytes20_yes (ao : Option Addr) (n cap : Nat) (a : Int) (y z : Bool) (w : World) (h : n ≤ 1048576) :
    Calls Efvg.prog 20 #[.slice ao n cap, .int .i64 a, .bool y, .bool z] w fun e w' => e = .returned (.bool true) ∧ w = w' := by
  go_enter Efvg.func20, Efvg.ntmps20
  go_wp2
  go_ret
  exact ⟨rfl, rfl⟩

set_option maxHeartbeats 800000 in
theorem exact_out (ao : Option Addr) (cap : Nat) (l : List UInt8) (n : Int) (z mi : Bool) (w : World) (hout : 1048576 < l.length ∨ (l.length ≤ 1048576 ∧ 65536 < n)) :
    Calls Efvg.prog 4 #[.slice ao l.length cap, .int .i64 n, .bool z, .bool mi] w fun e w' => e = .returned (.bool true) ∧ Below w.heap.size w w' := by
  rcases hout with h | ⟨hl, h⟩
  · go_enter Efvg.func4, Efvg.ntmps4
    go_wp2_with (go_at_call 20; refine (bytes20_no _ _ _ _ _ _ _ h).mono ?_; rintro e w' ⟨rfl, rfl⟩)
    go_ret
    exact ⟨rfl, Below.refl _ _⟩
  · go_enter Efvg.func4, Efvg.ntmps4
    go_wp2_with (go_at_call 20; refine (bytes20_yes _ _ _ _ _ _ _ hl).mono ?_; rintro e w' ⟨rfl, rfl⟩)
    go_ret
    exact ⟨rfl, Below.refl _ _⟩

set_option maxHeartbeats 800000 in
theorem exact_in (ao : Option Addr) (cap : Nat) (l : List UInt8) (n : Int) (z mi : Bool) (w : World) (hr : Reads w (.slice ao l.length cap) l) (hmax : w.cell? ⟨0, 0, none⟩ = some (.int .i64 2147483647))
    (hl : l.length ≤ 1048576) (hn : n ≤ 65536) :
    Calls Efvg.prog 4 #[.slice ao l.length cap, .int .i64 n, .bool z, .bool mi] w fun e w' => e = .returned (.bool true) ∧ Below w.heap.size w w' := by
  obtain ⟨i0, hi, hz0, hz1, hz2⟩ := info_parts Efvg.info5
  have h0s := World.block_lt_of_cell? w _ hmax
  go_enter Efvg.func4, Efvg.ntmps4
  go_wp2_with (go_at_call 20; refine (bytes20_yes _ _ _ _ _ _ _ hl).mono ?_; rintro e w' ⟨rfl, rfl⟩)
  refine (clone_any _ l _ hr hl).mono ?_
  rintro e w1 ⟨v1, rfl, ho1, hb1⟩
  obtain ⟨a1, c1, rfl⟩ := own_slice ho1
  have hsrc := src_of ho1.reads
  go_wp2_with (first
    | (at_make; refine wpList_make_own _ rfl _ _ 23 rfl w1.heap.size 5 i0 (.int .u8 0) 1 Efvg.underlying23 hi hz0 hz1 _ _ _ l.length rfl rfl (by omega) (by rw [hz2]; omega) (by unfold maxLen; omega) (by omega) ?_; intro w2 hown2 hgrow2; have hb2 := Below.of_grown hgrow2; clear hgrow2; replace hown2 := hide hown2)
    | (at_builtin; refine wpList_append_fits_any _ rfl (.tmp 27) (.tmp 28) 23 rfl w1.heap.size 5 i0 1 Efvg.underlying23 hi hz1 w1.heap.size 0 l.length [] rfl (unhide hown2) a1 l.length c1 (bcs l) rfl (by rw [bcs_length]; omega) (hsrc.1) (src_below hsrc.2 hb2 (Nat.le_refl _)) (bcs_oneCell l) (by omega) ?_; intro w3 hown3 hgrow3; replace hown3 := hide hown3))
  have ho3 : Own w1.heap.size w3 (.slice (some ⟨w1.heap.size, 0, none⟩) l.length l.length) l := by
    have := unhide hown3
    simpa [Own] using this
  have hb3 : Below w1.heap.size w1 w3 := hb2.grown hgrow3 hb2.size (fun k hk => by simp at hk; omega)
  clear hown3 hgrow3 hown2 hsrc
  refine (appendPadding_any w1.heap.size _ l n z _ ho3 hb3.size (by omega) (by omega)).mono ?_
  rintro e w4 ⟨v4, rfl, ho4, hb4⟩
  have hb14 : Below w1.heap.size w1 w4 := hb3.trans hb4
  have ho14 := ho1.below hb14 (Nat.le_refl _)
  clear ho3 hb3 hb4 hb2 ho1
  go_wp2_with fail
  refine (clone_any _ l _ ho14.reads hl).mono ?_
  rintro e w5 ⟨v5, rfl, ho5, hb5⟩
  go_wp2_with fail
  refine (new_any w4.heap.size _ l _ ho5 hb5.size).mono ?_
  rintro e w6 ⟨rfl, f6, hf6, _, hb6⟩
  go_wp2_with fail
  refine (setFlags_any _ _ _ _ _ _ hf6.fa mi false false false z).mono ?_
  rintro e w7 ⟨rfl, ha7, hg7⟩
  have hf7 := hf6.upd ha7 hg7
  have hz7 : upd (upd (upd (upd (upd f6 2 mi) 3 false) 4 false) 5 false) 6 z 6 = z := rfl
  have hb7 : Below w4.heap.size w4 w7 := ((hb5.trans (hb6.mono hb5.size)).trans (hf6.low hg7))
  have hbw7 : Below w.heap.size w w7 := (hb1.trans (hb14.mono hb1.size)).trans (hb7.mono (Nat.le_trans hb1.size hb14.size))
  have hm7 := hbw7.cell (p := ⟨0, 0, none⟩) h0s |>.trans hmax
  generalize upd (upd (upd (upd (upd f6 2 mi) 3 false) 4 false) 5 false) 6 z = f7 at hf7 hz7
  have Hz7 := hide hz7
  have Hf7 := hide hf7
  clear hz7 hf7 ha7 hg7 hf6 hb5 hb6 ho5
  go_wp2_with fail
  refine (wpadZZ_any _ _ _ _ _ _ _ _ (unhide Hf7) n hm7 (by omega) (by omega)).mono ?_
  rintro e w8 ⟨rfl, hf8, hb8⟩
  rw [unhide Hz7] at hf8
  have hb48 := hb7.trans hb8
  have ho8 := ho4.below hb48 (Nat.le_refl _)
  have hbw8 : Below w.heap.size w w8 := hbw7.trans (hb8.mono (Nat.le_trans hb1.size hb14.size))
  have Hf8 := hide hf8
  clear hf8 Hf7 hm7 hb7 hb8 hbw7 ho4 ho14
  go_wp2_with fail
  refine (buf_any _ _ _ _ _ _ _ _ (unhide Hf8)).mono ?_
  rintro e _ ⟨r, rfl, hor, rfl⟩
  go_wp2_with fail
  refine (equal_any _ _ _ _ hor.reads ho8.reads (by rw [List.length_append, pads_length]; omega)).mono ?_
  rintro e w9 ⟨rfl, hb9⟩
  go_wp2_with fail
  go_ret
  exact ⟨rfl, hbw8.trans (hb9.mono hbw8.size)⟩

theorem exact_walk (ao : Option Addr) (cap : Nat) (l : List UInt8) (n : Int) (z mi : Bool) (w : World) (hr : Reads w (.slice ao l.length cap) l) (hmax : w.cell? ⟨0, 0, none⟩ = some (.int .i64 2147483647)) :
    Calls Efvg.prog 4 #[.slice ao l.length cap, .int .i64 n, .bool z, .bool mi] w fun e w' => e = .returned (.bool true) ∧ Below w.heap.size w w' := by
  by_cases h1 : l.length ≤ 1048576
  · by_cases h2 : n ≤ 65536
    · exact exact_in ao cap l n z mi w hr hmax h1 h2
    · exact exact_out ao cap l n z mi w (by omega)
  · exact exact_out ao cap l n z mi w (by omega)
end Go.Proofs.YoefvwDoor
