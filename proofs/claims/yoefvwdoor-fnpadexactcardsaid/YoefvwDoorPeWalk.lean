/-
  The walk of FnPadExact.
-/
import Derived.Test.YoefvwDoorModel
import Derived.Test.YoefvwDoorBytes
namespace Go.Proofs.YoefvwDoor
open Go.RowKit

set_option maxHeartbeats 800000 in
theorem pe_out (ao : Option Addr) (cap : Nat) (l : List UInt8) (ap : Option Addr) (cp : Nat) (m : List UInt8) (wp : Bool) (wid : Int) (mi ze : Bool) (w : World)
    (hout : (1048576 < l.length ∨ (l.length ≤ 1048576 ∧ 1048576 < m.length) ∨ (l.length ≤ 1048576 ∧ m.length ≤ 1048576 ∧ 1048576 < l.length + m.length)) ∨ (l.length + m.length ≤ 1048576 ∧ (wid < -65536 ∨ (-65536 ≤ wid ∧ 65536 < wid)))) :
    Calls Efvg.prog 8 #[.slice ao l.length cap, .slice ap m.length cp, .bool wp, .int .i64 wid, .bool mi, .bool ze] w fun e w' => e = .returned (.bool true) ∧ Below w.heap.size w w' := by
  rcases hout with h | ⟨hl, h | ⟨h1, h2⟩⟩
  · have K := hide (bytes28_no ao l.length cap ap m.length cp wp wid mi ze w h)
    clear h
    go_enter Efvg.func8, Efvg.ntmps8
    go_wp2_with (go_at_call 28; refine (unhide K).mono ?_; rintro e w' ⟨rfl, rfl⟩)
    go_ret
    exact ⟨rfl, Below.refl _ _⟩
  all_goals
    go_enter Efvg.func8, Efvg.ntmps8
    go_wp2_with (go_at_call 28; refine (bytes28_yes _ _ _ _ _ _ _ _ _ _ _ hl).mono ?_; rintro e w' ⟨rfl, rfl⟩)
    go_ret
    exact ⟨rfl, Below.refl _ _⟩

set_option maxHeartbeats 1600000 in
theorem pe_in (ao : Option Addr) (cap : Nat) (l : List UInt8) (ap : Option Addr) (cp : Nat) (m : List UInt8) (wp : Bool) (wid : Int) (mi ze : Bool) (w : World) (hr : Reads w (.slice ao l.length cap) l) (hrm : Reads w (.slice ap m.length cp) m) (hmax : w.cell? ⟨0, 0, none⟩ = some (.int .i64 2147483647))
    (hl : l.length + m.length ≤ 1048576) (hw1 : -65536 ≤ wid) (hw2 : wid ≤ 65536) :
    Calls Efvg.prog 8 #[.slice ao l.length cap, .slice ap m.length cp, .bool wp, .int .i64 wid, .bool mi, .bool ze] w fun e w' => e = .returned (.bool true) ∧ Below w.heap.size w w' := by
  have h0s := World.block_lt_of_cell? w _ hmax
  go_enter Efvg.func8, Efvg.ntmps8
  go_wp2_with (go_at_call 28; refine (bytes28_yes _ _ _ _ _ _ _ _ _ _ _ hl).mono ?_; rintro e w' ⟨rfl, rfl⟩)
  refine (clone_any _ l _ hr (by omega)).mono ?_
  rintro e w0 ⟨v1, rfl, ho0, hb0⟩
  have hrm0 := hrm.below hb0 (Nat.le_refl _)
  go_wp2_with fail
  refine (clone_any _ m _ hrm0 (by omega)).mono ?_
  rintro e w1 ⟨vb, rfl, hob, hbb⟩
  have ho1 := ho0.below hbb (Nat.le_refl _)
  have hb1 : Below w.heap.size w w1 := hb0.trans (hbb.mono hb0.size)
  obtain ⟨a1, c1, rfl⟩ := own_slice ho1
  obtain ⟨ab, cb, rfl⟩ := own_slice hob
  have hcv := conv_own hob
  clear hrm hrm0 hr ho0 hb0 hbb
  go_wp2_with fail
  refine (model_any _ _ l (strOf m) wp wid mi ze _ ho1.reads (by omega) (by rw [strOf_size]; omega) hw1 hw2).mono ?_
  rintro e w2 ⟨v2, rfl, ho2, hb2⟩
  rw [strOf_data] at ho2
  have ho12 := ho1.below hb2 (Nat.le_refl _)
  have hob2 := hob.below hb2 (Nat.le_refl _)
  clear ho1 hob hcv
  go_wp2_with fail
  refine (clone_any _ l _ ho12.reads (by omega)).mono ?_
  rintro e w3 ⟨v3, rfl, ho3, hb3⟩
  go_wp2_with fail
  refine (new_any w2.heap.size _ l _ ho3 hb3.size).mono ?_
  rintro e w4 ⟨rfl, f4, hf4, _, hb4⟩
  go_wp2_with fail
  refine (setWidth_any _ _ _ _ _ _ hf4.fa wp wid).mono ?_
  rintro e w5 ⟨rfl, ha5, hg5⟩
  have hf5 := hf4.upd ha5 hg5
  have hb5 := hf4.low hg5
  clear ha5 hg5 hf4
  go_wp2_with fail
  refine (setFlags_any _ _ _ _ _ _ hf5.fa mi false false false ze).mono ?_
  rintro e w6 ⟨rfl, ha6, hg6⟩
  have hf6 := hf5.upd ha6 hg6
  have hb6 := hf5.low hg6
  have hb26 : Below w2.heap.size w2 w6 := ((hb3.trans (hb4.mono hb3.size)).trans hb5).trans hb6
  have hbw2 : Below w.heap.size w w2 := hb1.trans (hb2.mono hb1.size)
  have hbw6 : Below w.heap.size w w6 := hbw2.trans (hb26.mono hbw2.size)
  have hm6 := hbw6.cell (p := ⟨0, 0, none⟩) h0s |>.trans hmax
  have e0 : upd (upd (upd (upd (upd (upd f4 0 wp) 2 mi) 3 false) 4 false) 5 false) 6 ze 0 = wp := rfl
  have e2 : upd (upd (upd (upd (upd (upd f4 0 wp) 2 mi) 3 false) 4 false) 5 false) 6 ze 2 = mi := rfl
  have e6 : upd (upd (upd (upd (upd (upd f4 0 wp) 2 mi) 3 false) 4 false) 5 false) 6 ze 6 = ze := rfl
  generalize upd (upd (upd (upd (upd (upd f4 0 wp) 2 mi) 3 false) 4 false) 5 false) 6 ze = f6 at hf6 e0 e2 e6
  have He := hide (And.intro e0 (And.intro e2 e6))
  have Hf6 := hide hf6
  have hpos : 0 < w2.heap.size := Nat.lt_of_lt_of_le h0s hbw2.size
  have hlow := own_low hob2 (Nat.le_refl _)
  have hob6 := hob2.below hb26 (Nat.le_refl _)
  clear e0 e2 e6 hf6 ha6 hg6 hf5 hb3 hb4 hb5 hb6 ho3 ho12 hb1 hb2 hob2
  go_wp2_with fail
  refine (zzPad_any _ _ _ _ _ _ _ _ (unhide Hf6) _ m hob6.reads hm6 (by omega) (by omega) (fun _ => ⟨hw1, hw2⟩) hpos hlow).mono ?_
  rintro e w7 ⟨rfl, hf7, hb7⟩
  rw [(unhide He).1, (unhide He).2.1, (unhide He).2.2] at hf7
  have hb27 := hb26.trans hb7
  have ho7 := ho2.below hb27 (Nat.le_refl _)
  have hbw7 : Below w.heap.size w w7 := hbw2.trans (hb27.mono hbw2.size)
  have Hf7 := hide hf7
  have hlen : (l ++ padded wp mi ze wid m).length ≤ 4194304 := by
    have := padded_length wp mi ze wid m hw2
    rw [List.length_append]
    omega
  generalize l ++ padded wp mi ze wid m = L at Hf7 ho7 hlen
  clear hf7 Hf6 hm6 hb26 hb7 hbw6 ho2 He hob6 hlow
  go_wp2_with fail
  refine (buf_any _ _ _ _ _ _ _ _ (unhide Hf7)).mono ?_
  rintro e _ ⟨r, rfl, hor, rfl⟩
  go_wp2_with fail
  refine (equal_any _ _ _ _ hor.reads ho7.reads hlen).mono ?_
  rintro e w9 ⟨rfl, hb9⟩
  go_wp2_with fail
  go_ret
  exact ⟨rfl, hbw7.trans (hb9.mono hbw7.size)⟩

theorem pe_walk (ao : Option Addr) (cap : Nat) (l : List UInt8) (ap : Option Addr) (cp : Nat) (m : List UInt8) (wp : Bool) (wid : Int) (mi ze : Bool) (w : World) (hr : Reads w (.slice ao l.length cap) l) (hrm : Reads w (.slice ap m.length cp) m) (hmax : w.cell? ⟨0, 0, none⟩ = some (.int .i64 2147483647)) :
    Calls Efvg.prog 8 #[.slice ao l.length cap, .slice ap m.length cp, .bool wp, .int .i64 wid, .bool mi, .bool ze] w fun e w' => e = .returned (.bool true) ∧ Below w.heap.size w w' := by
  by_cases h1 : l.length + m.length ≤ 1048576
  · by_cases h2 : -65536 ≤ wid ∧ wid ≤ 65536
    · exact pe_in ao cap l ap cp m wp wid mi ze w hr hrm hmax h1 h2.1 h2.2
    · exact pe_out ao cap l ap cp m wp wid mi ze w (by omega)
  · exact pe_out ao cap l ap cp m wp wid mi ze w (by omega)
end Go.Proofs.YoefvwDoor
