/-
  The walk of FnPadAgreesWithPadString.
-/
import Derived.Test.YoefvwDoorModel
import Derived.Test.YoefvwDoorBytes
namespace Go.Proofs.YoefvwDoor
open Go.RowKit

set_option maxHeartbeats 800000 in
theorem pa_out (ao : Option Addr) (cap : Nat) (l : List UInt8) (ap : Option Addr) (cp : Nat) (m : List UInt8) (wp : Bool) (wid : Int) (mi ze : Bool) (w : World)
    (hout : (1048576 < l.length ∨ (l.length ≤ 1048576 ∧ 1048576 < m.length) ∨ (l.length ≤ 1048576 ∧ m.length ≤ 1048576 ∧ 1048576 < l.length + m.length)) ∨ (l.length + m.length ≤ 1048576 ∧ (wid < -65536 ∨ (-65536 ≤ wid ∧ 65536 < wid)))) :
    Calls Efvg.prog 9 #[.slice ao l.length cap, .slice ap m.length cp, .bool wp, .int .i64 wid, .bool mi, .bool ze] w fun e w' => e = .returned (.bool true) ∧ Below w.heap.size w w' := by
  rcases hout with h | ⟨hl, h | ⟨h1, h2⟩⟩
  · have K := hide (bytes30_no ao l.length cap ap m.length cp wp wid mi ze w h)
    clear h
    go_enter Efvg.func9, Efvg.ntmps9
    go_wp2_with (go_at_call 30; refine (unhide K).mono ?_; rintro e w' ⟨rfl, rfl⟩)
    go_ret
    exact ⟨rfl, Below.refl _ _⟩
  all_goals
    go_enter Efvg.func9, Efvg.ntmps9
    go_wp2_with (go_at_call 30; refine (bytes30_yes _ _ _ _ _ _ _ _ _ _ _ hl).mono ?_; rintro e w' ⟨rfl, rfl⟩)
    go_ret
    exact ⟨rfl, Below.refl _ _⟩

set_option maxHeartbeats 1600000 in
theorem pa_in (ao : Option Addr) (cap : Nat) (l : List UInt8) (ap : Option Addr) (cp : Nat) (m : List UInt8) (wp : Bool) (wid : Int) (mi ze : Bool) (w : World) (hr : Reads w (.slice ao l.length cap) l) (hrm : Reads w (.slice ap m.length cp) m) (hmax : w.cell? ⟨0, 0, none⟩ = some (.int .i64 2147483647))
    (hl : l.length + m.length ≤ 1048576) (hw1 : -65536 ≤ wid) (hw2 : wid ≤ 65536) :
    Calls Efvg.prog 9 #[.slice ao l.length cap, .slice ap m.length cp, .bool wp, .int .i64 wid, .bool mi, .bool ze] w fun e w' => e = .returned (.bool true) ∧ Below w.heap.size w w' := by
  have h0s := World.block_lt_of_cell? w _ hmax
  go_enter Efvg.func9, Efvg.ntmps9
  go_wp2_with (go_at_call 30; refine (bytes30_yes _ _ _ _ _ _ _ _ _ _ _ hl).mono ?_; rintro e w' ⟨rfl, rfl⟩)
  refine (clone_any _ l _ hr (by omega)).mono ?_
  rintro e w0 ⟨v1, rfl, ho0, hb0⟩
  have hrm0 := hrm.below hb0 (Nat.le_refl _)
  go_wp2_with fail
  refine (clone_any _ m _ hrm0 (by omega)).mono ?_
  rintro e w1 ⟨vb, rfl, hob, hbb⟩
  have ho1 := ho0.below hbb (Nat.le_refl _)
  have hb1 : Below w.heap.size w w1 := hb0.trans (hbb.mono hb0.size)
  obtain ⟨a1, c1, rfl⟩ := own_slice ho1
  obtain ⟨ab, cb, rfl⟩ := own_slice hob
  clear hrm hrm0 hr ho0 hb0 hbb
  go_wp2_with fail
  refine (clone_any _ l _ ho1.reads (by omega)).mono ?_
  rintro e w3 ⟨v3, rfl, ho3, hb3⟩
  go_wp2_with fail
  refine (new_any w1.heap.size _ l _ ho3 hb3.size).mono ?_
  rintro e w4 ⟨rfl, f4, hf4, _, hb4⟩
  go_wp2_with fail
  refine (setWidth_any _ _ _ _ _ _ hf4.fa wp wid).mono ?_
  rintro e w5 ⟨rfl, ha5, hg5⟩
  have hf5 := hf4.upd ha5 hg5
  have hb5 := hf4.low hg5
  clear ha5 hg5 hf4
  go_wp2_with fail
  refine (setFlags_any _ _ _ _ _ _ hf5.fa mi false false false ze).mono ?_
  rintro e w6 ⟨rfl, ha6, hg6⟩
  have hf6 := hf5.upd ha6 hg6
  have hb6 := hf5.low hg6
  have hb16 : Below w1.heap.size w1 w6 := ((hb3.trans (hb4.mono hb3.size)).trans hb5).trans hb6
  have hbw6 : Below w.heap.size w w6 := hb1.trans (hb16.mono hb1.size)
  have hm6 := hbw6.cell (p := ⟨0, 0, none⟩) h0s |>.trans hmax
  have e0 : upd (upd (upd (upd (upd (upd f4 0 wp) 2 mi) 3 false) 4 false) 5 false) 6 ze 0 = wp := rfl
  have e2 : upd (upd (upd (upd (upd (upd f4 0 wp) 2 mi) 3 false) 4 false) 5 false) 6 ze 2 = mi := rfl
  have e6 : upd (upd (upd (upd (upd (upd f4 0 wp) 2 mi) 3 false) 4 false) 5 false) 6 ze 6 = ze := rfl
  generalize upd (upd (upd (upd (upd (upd f4 0 wp) 2 mi) 3 false) 4 false) 5 false) 6 ze = f6 at hf6 e0 e2 e6
  have He := hide (And.intro e0 (And.intro e2 e6))
  have Hf6 := hide hf6
  have hpos : 0 < w1.heap.size := Nat.lt_of_lt_of_le h0s hb1.size
  have hlow := own_low hob (Nat.le_refl _)
  have hob6 := hob.below hb16 (Nat.le_refl _)
  clear e0 e2 e6 hf6 ha6 hg6 hf5 hb3 hb4 hb5 hb6 ho3
  go_wp2_with fail
  refine (zzPad_any _ _ _ _ _ _ _ _ (unhide Hf6) _ m hob6.reads hm6 (by omega) (by omega) (fun _ => ⟨hw1, hw2⟩) hpos hlow).mono ?_
  rintro e w7 ⟨rfl, hf7, hb7⟩
  rw [(unhide He).1, (unhide He).2.1, (unhide He).2.2] at hf7
  have hb17 := hb16.trans hb7
  have ho7 := ho1.below hb17 (Nat.le_refl _)
  have hbw7 : Below w.heap.size w w7 := hb1.trans (hb17.mono hb1.size)
  have Hf7 := hide hf7
  clear hf7 Hf6 hm6 hb16 hb7 hbw6 He hob6 hlow hpos
  go_wp2_with fail
  refine (clone_any _ l _ ho7.reads (by omega)).mono ?_
  rintro e w8 ⟨v8, rfl, ho8, hb8⟩
  go_wp2_with fail
  refine (new_any w7.heap.size _ l _ ho8 hb8.size).mono ?_
  rintro e w9 ⟨rfl, f9, hf9, _, hb9⟩
  go_wp2_with fail
  refine (setWidth_any _ _ _ _ _ _ hf9.fa wp wid).mono ?_
  rintro e w10 ⟨rfl, ha10, hg10⟩
  have hf10 := hf9.upd ha10 hg10
  have hb10 := hf9.low hg10
  clear ha10 hg10 hf9
  go_wp2_with fail
  refine (setFlags_any _ _ _ _ _ _ hf10.fa mi false false false ze).mono ?_
  rintro e w11 ⟨rfl, ha11, hg11⟩
  have hf11 := hf10.upd ha11 hg11
  have hb11 := hf10.low hg11
  have hb711 : Below w7.heap.size w7 w11 := ((hb8.trans (hb9.mono hb8.size)).trans hb10).trans hb11
  have hbw11 : Below w.heap.size w w11 := hbw7.trans (hb711.mono hbw7.size)
  have hm11 := hbw11.cell (p := ⟨0, 0, none⟩) h0s |>.trans hmax
  have e0 : upd (upd (upd (upd (upd (upd f9 0 wp) 2 mi) 3 false) 4 false) 5 false) 6 ze 0 = wp := rfl
  have e2 : upd (upd (upd (upd (upd (upd f9 0 wp) 2 mi) 3 false) 4 false) 5 false) 6 ze 2 = mi := rfl
  have e6 : upd (upd (upd (upd (upd (upd f9 0 wp) 2 mi) 3 false) 4 false) 5 false) 6 ze 6 = ze := rfl
  generalize upd (upd (upd (upd (upd (upd f9 0 wp) 2 mi) 3 false) 4 false) 5 false) 6 ze = f11 at hf11 e0 e2 e6
  have He := hide (And.intro e0 (And.intro e2 e6))
  have Hf11 := hide hf11
  have hpos : 0 < w7.heap.size := Nat.lt_of_lt_of_le h0s hbw7.size
  have hob11 := hob.below (hb17.trans (hb711.mono hb17.size)) (Nat.le_refl _)
  have hcv := conv_own hob11
  clear e0 e2 e6 hf11 ha11 hg11 hf10 hb8 hb9 hb10 hb11 ho8 ho7 hob11
  go_wp2_with fail
  refine (zzPadString_any _ _ _ _ _ _ _ _ (unhide Hf11) (strOf m) hm11 (by omega) (by rw [strOf_size]; omega) (fun _ => ⟨hw1, hw2⟩) hpos).mono ?_
  rintro e w12 ⟨rfl, hf12, hb12⟩
  rw [(unhide He).1, (unhide He).2.1, (unhide He).2.2, strOf_data] at hf12
  have hb712 := hb711.trans hb12
  have hf712 := (unhide Hf7).below hb712 (Nat.le_refl _)
  have hbw12 : Below w.heap.size w w12 := hbw7.trans (hb712.mono hbw7.size)
  have hlen : (l ++ padded wp mi ze wid m).length ≤ 4194304 := by
    have := padded_length wp mi ze wid m hw2
    rw [List.length_append]
    omega
  generalize l ++ padded wp mi ze wid m = L at hf12 hf712 hlen
  have HA := hide hf712
  have HB := hide hf12
  clear hf12 hf712 Hf7 Hf11 hm11 hb711 hb12 hbw11 He hcv hob ho1
  go_wp2_with fail
  refine (buf_any _ _ _ _ _ _ _ _ (unhide HA)).mono ?_
  rintro e _ ⟨r1, rfl, hor1, rfl⟩
  go_wp2_with fail
  refine (buf_any _ _ _ _ _ _ _ _ (unhide HB)).mono ?_
  rintro e _ ⟨r2, rfl, hor2, rfl⟩
  go_wp2_with fail
  refine (equal_any _ _ _ _ hor1.reads hor2.reads hlen).mono ?_
  rintro e w13 ⟨rfl, hb13⟩
  go_wp2_with fail
  go_ret
  exact ⟨rfl, hbw12.trans (hb13.mono hbw12.size)⟩

theorem pa_walk (ao : Option Addr) (cap : Nat) (l : List UInt8) (ap : Option Addr) (cp : Nat) (m : List UInt8) (wp : Bool) (wid : Int) (mi ze : Bool) (w : World) (hr : Reads w (.slice ao l.length cap) l) (hrm : Reads w (.slice ap m.length cp) m) (hmax : w.cell? ⟨0, 0, none⟩ = some (.int .i64 2147483647)) :
    Calls Efvg.prog 9 #[.slice ao l.length cap, .slice ap m.length cp, .bool wp, .int .i64 wid, .bool mi, .bool ze] w fun e w' => e = .returned (.bool true) ∧ Below w.heap.size w w' := by
  by_cases h1 : l.length + m.length ≤ 1048576
  · by_cases h2 : -65536 ≤ wid ∧ wid ≤ 65536
    · exact pa_in ao cap l ap cp m wp wid mi ze w hr hrm hmax h1 h2.1 h2.2
    · exact pa_out ao cap l ap cp m wp wid mi ze w (by omega)
  · exact pa_out ao cap l ap cp m wp wid mi ze w (by omega)
end Go.Proofs.YoefvwDoor
