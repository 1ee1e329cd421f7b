/-
  The walk of FnClearFlagsThenPadStringWritesPlain.
-/
import Derived.Test.YoefvwDoorModel
import Derived.Test.YoefvwDoorBytes
namespace Go.Proofs.YoefvwDoor
open Go.RowKit

set_option maxHeartbeats 800000 in
theorem cf_out (mk wid : Int) (ao : Option Addr) (cap : Nat) (l : List UInt8) (s : ByteArray) (w : World)
    (hout : 1048576 < l.length ∨ (l.length ≤ 1048576 ∧ 1048576 < s.size) ∨ (l.length ≤ 1048576 ∧ s.size ≤ 1048576 ∧ 1048576 < l.length + s.size)) :
    Calls Efvg.prog 3 #[.int .u16 mk, .int .i64 wid, .slice ao l.length cap, .string s] w fun e w' => e = .returned (.bool true) ∧ Below w.heap.size w w' := by
  have K := hide (bytes10_no mk wid ao l.length cap s w hout)
  clear hout
  go_enter Efvg.func3, Efvg.ntmps3
  go_wp2_with (go_at_call 10; refine (unhide K).mono ?_; rintro e w' ⟨rfl, rfl⟩)
  go_ret
  exact ⟨rfl, Below.refl _ _⟩

set_option maxHeartbeats 1600000 in
theorem cf_in (mk wid : Int) (ao : Option Addr) (cap : Nat) (l : List UInt8) (s : ByteArray) (w : World) (hr : Reads w (.slice ao l.length cap) l) (hmax : w.cell? ⟨0, 0, none⟩ = some (.int .i64 2147483647))
    (hl : l.length + s.size ≤ 1048576) :
    Calls Efvg.prog 3 #[.int .u16 mk, .int .i64 wid, .slice ao l.length cap, .string s] w fun e w' => e = .returned (.bool true) ∧ Below w.heap.size w w' := by
  have h0s := World.block_lt_of_cell? w _ hmax
  obtain ⟨i0, hi, hz0, hz1, hz2⟩ := info_parts Efvg.info5
  go_enter Efvg.func3, Efvg.ntmps3
  go_wp2_with (go_at_call 10; refine (bytes10_yes _ _ _ _ _ _ _ hl).mono ?_; rintro e w' ⟨rfl, rfl⟩)
  refine (clone_any _ l _ hr (by omega)).mono ?_
  rintro e w1 ⟨v1, rfl, ho1, hb1⟩
  obtain ⟨a1, c1, rfl⟩ := own_slice ho1
  go_wp2_with fail
  refine (clone_any _ l _ ho1.reads (by omega)).mono ?_
  rintro e w3 ⟨v3, rfl, ho3, hb3⟩
  go_wp2_with fail
  refine (new_any w1.heap.size _ l _ ho3 hb3.size).mono ?_
  rintro e w4 ⟨rfl, f4, hf4, _, hb4⟩
  go_wp2_with fail
  refine (setWidth_any _ _ _ _ _ _ hf4.fa _ wid).mono ?_
  rintro e w5 ⟨rfl, ha5, hg5⟩
  have hf5 := hf4.upd ha5 hg5
  have hb5 := hf4.low hg5
  clear ha5 hg5 hf4
  go_wp2_with fail
  refine (setPrec_any _ _ _ _ _ _ hf5.fa _ wid).mono ?_
  rintro e w6 ⟨rfl, ha6, hg6⟩
  have hf6 := hf5.upd ha6 hg6
  have hb6 := hf5.low hg6
  clear ha6 hg6 hf5
  go_wp2_with fail
  refine (setFlags_any _ _ _ _ _ _ hf6.fa _ _ _ _ _).mono ?_
  rintro e w7 ⟨rfl, ha7, hg7⟩
  have hf7 := hf6.upd ha7 hg7
  have hb7 := hf6.low hg7
  clear ha7 hg7 hf6
  go_wp2_with fail
  refine (zzClear_any _ _ _ _ _ _ hf7.fa).mono ?_
  rintro e w8 ⟨rfl, f8, ha8, hz8, hg8⟩
  have hf8 := hf7.upd ha8 hg8
  have hb8 := hf7.low hg8
  have hb18 : Below w1.heap.size w1 w8 := ((((hb3.trans (hb4.mono hb3.size)).trans hb5).trans hb6).trans hb7).trans hb8
  have hbw8 : Below w.heap.size w w8 := hb1.trans (hb18.mono hb1.size)
  have hm8 := hbw8.cell (p := ⟨0, 0, none⟩) h0s |>.trans hmax
  have hpos : 0 < w1.heap.size := Nat.lt_of_lt_of_le h0s hb1.size
  have Hz := hide (hz8 0 (by omega))
  have Hf8 := hide hf8
  clear ha8 hg8 hf7 hb3 hb4 hb5 hb6 hb7 hb8 ho3 hz8 hf8
  go_wp2_with fail
  refine (zzPadString_any _ _ _ _ _ _ _ _ (unhide Hf8) s hm8 (by omega) (by omega) (fun h => by rw [unhide Hz] at h; cases h) hpos).mono ?_
  rintro e w9 ⟨rfl, hf9, hb9⟩
  rw [padded_plain _ _ _ _ _ (fun h => by rw [unhide Hz] at h; cases h.1)] at hf9
  have hb19 := hb18.trans hb9
  have ho9 := ho1.below hb19 (Nat.le_refl _)
  have hbw9 : Below w.heap.size w w9 := hb1.trans (hb19.mono hb1.size)
  have hsrc := hide (src_of ho9.reads)
  have Hf9 := hide hf9
  clear hf9 Hf8 hm8 hb18 hb9 hbw8 Hz ho1 ho9 hb19 hpos
  go_wp2_with (first
    | (at_make; refine wpList_make_own _ rfl _ _ 23 rfl w9.heap.size 5 i0 (.int .u8 0) 1 Efvg.underlying23 hi hz0 hz1 _ _ _ (l.length + s.size) rfl rfl (by omega) (by rw [hz2]; omega) (by unfold maxLen; omega) (by omega) ?_; intro w10 hown10 hgrow10; have hb10 := Below.of_grown hgrow10; clear hgrow10; replace hown10 := hide hown10)
    | (at_builtin; refine wpList_append_fits_any _ rfl (.tmp 78) (.tmp 79) 23 rfl w9.heap.size 5 i0 1 Efvg.underlying23 hi hz1 w9.heap.size 0 (l.length + s.size) [] rfl (unhide hown10) a1 l.length c1 (bcs l) rfl (by rw [bcs_length]; omega) (unhide hsrc).1 (src_below (unhide hsrc).2 hb10 (Nat.le_refl _)) (bcs_oneCell l) (by omega) ?_; intro w11 hown11 hgrow11; have hb11 : Below w9.heap.size w9 w11 := hb10.grown hgrow11 hb10.size (fun k hk => by simp at hk; omega); clear hgrow11; have ho11 := hide (own_first (unhide hown10) hown11); clear hown11)
    | (at_builtin; refine Lib.wpList_append_own_string _ rfl (.tmp 81) (.tmp 82) 23 9 rfl w9.heap.size 5 i0 Efvg.underlying23 Efvg.underlying9 hi hz0 hz1 hz2 (.slice (some ⟨w9.heap.size, 0, none⟩) l.length (l.length + s.size)) l.length (bcs l) rfl (unhide ho11) s rfl (by unfold maxLen; omega) (by omega) (by exact hb11.size) ?_; intro v12 w12 hown12 hgrow12 hnil12; clear hnil12; have hb12 := hb11.grown hgrow12 hb11.size (fun k hk => ((unhide ho11).lt k hk).1); clear hgrow12; replace hown12 := hide (own_str hown12)))
  have hf12 := (unhide Hf9).below hb12 (Nat.le_refl _)
  have hsl : (l ++ s.data.toList).length ≤ 4194304 := by
    have hsl : s.data.toList.length = s.size := rfl
    rw [List.length_append, hsl]
    omega
  have ho12 := unhide hown12
  have hbw12 : Below w.heap.size w w12 := hbw9.trans (hb12.mono hbw9.size)
  generalize l ++ s.data.toList = L at hf12 hsl ho12
  have HA := hide hf12
  clear hf12 Hf9 hown12 ho11 hown10 hb10 hb11 hsrc
  refine (buf_any _ _ _ _ _ _ _ _ (unhide HA)).mono ?_
  rintro e _ ⟨r1, rfl, hor1, rfl⟩
  go_wp2_with fail
  refine (equal_any _ _ _ _ hor1.reads ho12.reads hsl).mono ?_
  rintro e w13 ⟨rfl, hb13⟩
  go_wp2_with fail
  go_ret
  exact ⟨rfl, hbw12.trans (hb13.mono hbw12.size)⟩

theorem cf_walk (mk wid : Int) (ao : Option Addr) (cap : Nat) (l : List UInt8) (s : ByteArray) (w : World) (hr : Reads w (.slice ao l.length cap) l) (_hs : s.size ≤ maxLen) (hmax : w.cell? ⟨0, 0, none⟩ = some (.int .i64 2147483647)) :
    Calls Efvg.prog 3 #[.int .u16 mk, .int .i64 wid, .slice ao l.length cap, .string s] w fun e w' => e = .returned (.bool true) ∧ Below w.heap.size w w' := by
  by_cases h1 : l.length + s.size ≤ 1048576
  · exact cf_in mk wid ao cap l s w hr hmax h1
  · exact cf_out mk wid ao cap l s w (by omega)
end Go.Proofs.YoefvwDoor
