/-
  The walk of FnPadStringWidthHonoured.
-/
import Derived.Test.YoefvwDoorModel
import Derived.Test.YoefvwDoorBytes
import Derived.Test.YoefvwDoorCount
namespace Go.Proofs.YoefvwDoor
open Go.RowKit

theorem pads_ascii (ze : Bool) (n : Nat) : ∀ c ∈ pads ze n, c.toNat < 128 := by
  intro c hc
  obtain rfl := List.eq_of_mem_replicate hc
  cases ze <;> decide

theorem padded_count (wp mi ze : Bool) (wid : Int) (s : List UInt8) : Lib.runeCount (strOf (padded wp mi ze wid s)) = Lib.runeCount (strOf s) + padN wp wid s := by
  unfold padded
  split
  · rw [runeCount_app _ _ (pads_ascii _ _), pads_length]
  · rw [runeCount_ahead _ _ (pads_ascii _ _), pads_length, Nat.add_comm]

/-- 'string(res[len(buf):])' of a row of the call's own that begins with buf. -/
theorem conv_tail {B : Nat} {w : World} {g c : Nat} {l P : List UInt8} (h : Own B w (.slice (some ⟨g, 0, none⟩) (l ++ P).length c) (l ++ P)) (c' : Nat) : (convert 23 9 (.slice (some ⟨g, l.length, none⟩) P.length c')).run Efvg.prog w = .ok (.string (strOf P)) w := by
  refine run_conv w _ c' P (by simp) (fun ad had j u hu => ?_)
  cases had
  have := World.ownsRow.cells h (g := g) rfl (l.length + j) u (by rw [bcs_append, List.getElem?_append_right (by rw [bcs_length]; omega), bcs_length, Nat.add_sub_cancel_left]; exact hu)
  rw [Addr.add_lit, Nat.zero_add] at this
  rw [Addr.add_lit]
  exact this

set_option maxHeartbeats 800000 in
theorem wh_out (ao : Option Addr) (cap : Nat) (l : List UInt8) (s : ByteArray) (wp : Bool) (wid : Int) (mi ze : Bool) (w : World) (_hcap : s.size ≤ maxLen)
    (hout : (1048576 < l.length ∨ (l.length ≤ 1048576 ∧ 1048576 < s.size) ∨ (l.length ≤ 1048576 ∧ s.size ≤ 1048576 ∧ 1048576 < l.length + s.size)) ∨ (l.length + s.size ≤ 1048576 ∧ (wid < -65536 ∨ (-65536 ≤ wid ∧ 65536 < wid)))) :
    Calls Efvg.prog 7 #[.slice ao l.length cap, .string s, .bool wp, .int .i64 wid, .bool mi, .bool ze] w fun e w' => e = .returned (.bool true) ∧ Below w.heap.size w w' := by
  rcases hout with h | ⟨hl, h | ⟨h1, h2⟩⟩
  · have K := hide (bytes26_no ao l.length cap s wp wid mi ze w h)
    clear h
    go_enter Efvg.func7, Efvg.ntmps7
    go_wp2_with (go_at_call 26; refine (unhide K).mono ?_; rintro e w' ⟨rfl, rfl⟩)
    go_ret
    exact ⟨rfl, Below.refl _ _⟩
  all_goals
    go_enter Efvg.func7, Efvg.ntmps7
    go_wp2_with (go_at_call 26; refine (bytes26_yes _ _ _ _ _ _ _ _ _ hl).mono ?_; rintro e w' ⟨rfl, rfl⟩)
    go_ret
    exact ⟨rfl, Below.refl _ _⟩

set_option maxHeartbeats 6400000 in
theorem wh_in (ao : Option Addr) (cap : Nat) (l : List UInt8) (s : ByteArray) (wp : Bool) (wid : Int) (mi ze : Bool) (w : World) (hr : Reads w (.slice ao l.length cap) l) (hmax : w.cell? ⟨0, 0, none⟩ = some (.int .i64 2147483647))
    (hl : l.length + s.size ≤ 1048576) (hw1 : -65536 ≤ wid) (hw2 : wid ≤ 65536) :
    Calls Efvg.prog 7 #[.slice ao l.length cap, .string s, .bool wp, .int .i64 wid, .bool mi, .bool ze] w fun e w' => e = .returned (.bool true) ∧ Below w.heap.size w w' := by
  have h0s := World.block_lt_of_cell? w _ hmax
  go_enter Efvg.func7, Efvg.ntmps7
  go_wp2_with (go_at_call 26; refine (bytes26_yes _ _ _ _ _ _ _ _ _ hl).mono ?_; rintro e w' ⟨rfl, rfl⟩)
  refine (clone_any _ l _ hr (by omega)).mono ?_
  rintro e w1 ⟨v1, rfl, ho1, hb1⟩
  obtain ⟨a1, c1, rfl⟩ := own_slice ho1
  go_wp2_with fail
  refine (clone_any _ l _ ho1.reads (by omega)).mono ?_
  rintro e w3 ⟨v3, rfl, ho3, hb3⟩
  go_wp2_with fail
  refine (new_any w1.heap.size _ l _ ho3 hb3.size).mono ?_
  rintro e w4 ⟨rfl, f4, hf4, _, hb4⟩
  go_wp2_with fail
  refine (setWidth_any _ _ _ _ _ _ hf4.fa wp wid).mono ?_
  rintro e w5 ⟨rfl, ha5, hg5⟩
  have hf5 := hf4.upd ha5 hg5
  have hb5 := hf4.low hg5
  clear ha5 hg5 hf4
  go_wp2_with fail
  refine (setFlags_any _ _ _ _ _ _ hf5.fa mi false false false ze).mono ?_
  rintro e w6 ⟨rfl, ha6, hg6⟩
  have hf6 := hf5.upd ha6 hg6
  have hb6 := hf5.low hg6
  have hb16 : Below w1.heap.size w1 w6 := ((hb3.trans (hb4.mono hb3.size)).trans hb5).trans hb6
  have hbw6 : Below w.heap.size w w6 := hb1.trans (hb16.mono hb1.size)
  have hm6 := hbw6.cell (p := ⟨0, 0, none⟩) h0s |>.trans hmax
  have e0 : upd (upd (upd (upd (upd (upd f4 0 wp) 2 mi) 3 false) 4 false) 5 false) 6 ze 0 = wp := rfl
  have e2 : upd (upd (upd (upd (upd (upd f4 0 wp) 2 mi) 3 false) 4 false) 5 false) 6 ze 2 = mi := rfl
  have e6 : upd (upd (upd (upd (upd (upd f4 0 wp) 2 mi) 3 false) 4 false) 5 false) 6 ze 6 = ze := rfl
  generalize upd (upd (upd (upd (upd (upd f4 0 wp) 2 mi) 3 false) 4 false) 5 false) 6 ze = f6 at hf6 e0 e2 e6
  have He := hide (And.intro e0 (And.intro e2 e6))
  have Hf6 := hide hf6
  have hpos : 0 < w1.heap.size := Nat.lt_of_lt_of_le h0s hb1.size
  clear e0 e2 e6 hf6 ha6 hg6 hf5 hb3 hb4 hb5 hb6 ho3
  go_wp2_with fail
  refine (zzPadString_any _ _ _ _ _ _ _ _ (unhide Hf6) s hm6 (by omega) (by omega) (fun _ => ⟨hw1, hw2⟩) hpos).mono ?_
  rintro e w7 ⟨rfl, hf7, hb7⟩
  rw [(unhide He).1, (unhide He).2.1, (unhide He).2.2] at hf7
  have hb17 := hb16.trans hb7
  have ho7 := ho1.below hb17 (Nat.le_refl _)
  have hbw7 : Below w.heap.size w w7 := hb1.trans (hb17.mono hb1.size)
  have hcount := padded_count wp mi ze wid s.data.toList
  have hplen := padded_length wp mi ze wid s.data.toList hw2
  have hsl : s.data.toList.length = s.size := rfl
  rw [strOf_self] at hcount
  rw [hsl] at hplen
  have hpn : padN wp wid s.data.toList = if wp = true ∧ wid ≠ 0 then (wid - Lib.runeCount s).toNat else 0 := by unfold padN; rw [strOf_self]
  rw [hpn] at hcount
  have hle := Lib.runeCount_le s
  have KR := hide (fun W => zzRuneCount_any s W (by omega))
  generalize Lib.runeCount s = rc at hcount hle KR
  have KP := hide (fun W => zzRuneCount_any (strOf (padded wp mi ze wid s.data.toList)) W (by rw [strOf_size]; omega))
  generalize Lib.runeCount (strOf (padded wp mi ze wid s.data.toList)) = rp at hcount KP
  have Hc := hide hcount
  generalize padded wp mi ze wid s.data.toList = P at hf7 hplen KP
  have Hf7 := hide hf7
  clear hf7 Hf6 hm6 hb16 hb7 hbw6 He ho1 hcount hpn hsl hpos
  go_wp2_with fail
  refine (buf_any _ _ _ _ _ _ _ _ (unhide Hf7)).mono ?_
  rintro e _ ⟨r, rfl, hor, rfl⟩
  obtain ⟨x, c, rfl, hc1, hc2⟩ := own_form hor
  have hpre := hor.reads.pre
  rw [List.length_append] at hc1
  unfold maxLen at hc2
  have Hor := hide hor
  clear hor Hf7
  rw [List.length_append]
  have hge : (l.length : Int) ≤ l.length + P.length := by omega
  go_wp2_with fail
  refine (equal_any _ _ _ _ hpre ho7.reads (by omega)).mono ?_
  rintro e w8 ⟨rfl, hb8⟩
  have hor8 := (unhide Hor).below hb8 (Nat.le_refl _)
  have hbw8 : Below w.heap.size w w8 := hbw7.trans (hb8.mono hbw7.size)
  have hcv : ∀ g c', x = some ⟨g, 0, none⟩ → (convert 23 9 (.slice (some ⟨g, l.length, none⟩) P.length c')).run Efvg.prog w8 = .ok (.string (strOf P)) w8 := fun g c' hx => by subst hx; exact conv_tail hor8 c'
  clear Hor hpre ho7
  rcases hor8.2 with ⟨hx, hnil⟩ | ⟨g, cap', cur, hx, _⟩
  · injection hx with hx1 hx2 hx3
    subst hx1
    subst hx3
    rw [List.length_append] at hnil
    obtain rfl : P = [] := List.eq_nil_of_length_eq_zero (by omega)
    obtain rfl : l = [] := List.eq_nil_of_length_eq_zero (by omega)
    have hcvN : ∀ c', (convert 23 9 (.slice none 0 c')).run Efvg.prog w8 = .ok (.string (strOf [])) w8 := fun c' => run_conv w8 none c' [] (fun _ => rfl) (fun ad h => by cases h)
    clear hcv hx2 hor8 hnil
    by_cases hd : wp = true ∧ wid ≠ 0
    · obtain ⟨rfl, hd1⟩ := hd
      have hd3 : (wid != 0) = true := by simpa using hd1
      have hcc := unhide Hc
      rw [if_pos ⟨rfl, hd1⟩] at hcc
      by_cases hd2 : (rc : Int) < wid
      · have hq : ((rp : Int) == wid) = true := by rw [beq_iff_eq]; omega
        clear hd1 hcc
        go_wp2_with fail
        refine (unhide KR _).mono ?_
        rintro e w' ⟨rfl, rfl⟩
        go_wp2_with fail
        refine (unhide KP _).mono ?_
        rintro e w' ⟨rfl, rfl⟩
        go_wp2_with fail
        go_ret
        exact ⟨rfl, hbw8⟩
      · have hq : ((rp : Int) == (rc : Int)) = true := by rw [beq_iff_eq]; omega
        clear hd1 hcc
        go_wp2_with fail
        refine (unhide KR _).mono ?_
        rintro e w' ⟨rfl, rfl⟩
        go_wp2_with fail
        refine (unhide KP _).mono ?_
        rintro e w' ⟨rfl, rfl⟩
        go_wp2_with fail
        go_ret
        exact ⟨rfl, hbw8⟩
    · have hcc := unhide Hc
      rw [if_neg hd] at hcc
      have hq : ((rp : Int) == (rc : Int)) = true := by rw [beq_iff_eq]; omega
      clear hcc
      cases wp
      · clear hd
        go_wp2_with fail
        refine (unhide KR _).mono ?_
        rintro e w' ⟨rfl, rfl⟩
        go_wp2_with fail
        refine (unhide KP _).mono ?_
        rintro e w' ⟨rfl, rfl⟩
        go_wp2_with fail
        go_ret
        exact ⟨rfl, hbw8⟩
      · obtain rfl : wid = 0 := by
          by_cases e : wid = 0
          · exact e
          · exact absurd ⟨rfl, e⟩ hd
        clear hd
        go_wp2_with fail
        refine (unhide KR _).mono ?_
        rintro e w' ⟨rfl, rfl⟩
        go_wp2_with fail
        refine (unhide KP _).mono ?_
        rintro e w' ⟨rfl, rfl⟩
        go_wp2_with fail
        go_ret
        exact ⟨rfl, hbw8⟩
  · injection hx with hx1 hx2 hx3
    subst hx1
    subst hx3
    by_cases hcl : c = l.length
    · obtain rfl : P = [] := List.eq_nil_of_length_eq_zero (by omega)
      have hcvZ : ∀ c', (convert 23 9 (.slice (some ⟨g, 0, none⟩) 0 c')).run Efvg.prog w8 = .ok (.string (strOf [])) w8 := fun c' => run_conv w8 (some ⟨g, 0, none⟩) c' [] (fun _ => rfl) (fun ad _ j u hu => by simp [bcs] at hu)
      subst hcl
      clear hcv hx2 hor8
      by_cases hd : wp = true ∧ wid ≠ 0
      · obtain ⟨rfl, hd1⟩ := hd
        have hd3 : (wid != 0) = true := by simpa using hd1
        have hcc := unhide Hc
        rw [if_pos ⟨rfl, hd1⟩] at hcc
        by_cases hd2 : (rc : Int) < wid
        · have hq : ((rp : Int) == wid) = true := by rw [beq_iff_eq]; omega
          clear hd1 hcc
          go_wp2_with fail
          refine (unhide KR _).mono ?_
          rintro e w' ⟨rfl, rfl⟩
          go_wp2_with fail
          refine (unhide KP _).mono ?_
          rintro e w' ⟨rfl, rfl⟩
          go_wp2_with fail
          go_ret
          exact ⟨rfl, hbw8⟩
        · have hq : ((rp : Int) == (rc : Int)) = true := by rw [beq_iff_eq]; omega
          clear hd1 hcc
          go_wp2_with fail
          refine (unhide KR _).mono ?_
          rintro e w' ⟨rfl, rfl⟩
          go_wp2_with fail
          refine (unhide KP _).mono ?_
          rintro e w' ⟨rfl, rfl⟩
          go_wp2_with fail
          go_ret
          exact ⟨rfl, hbw8⟩
      · have hcc := unhide Hc
        rw [if_neg hd] at hcc
        have hq : ((rp : Int) == (rc : Int)) = true := by rw [beq_iff_eq]; omega
        clear hcc
        cases wp
        · clear hd
          go_wp2_with fail
          refine (unhide KR _).mono ?_
          rintro e w' ⟨rfl, rfl⟩
          go_wp2_with fail
          refine (unhide KP _).mono ?_
          rintro e w' ⟨rfl, rfl⟩
          go_wp2_with fail
          go_ret
          exact ⟨rfl, hbw8⟩
        · obtain rfl : wid = 0 := by
            by_cases e : wid = 0
            · exact e
            · exact absurd ⟨rfl, e⟩ hd
          clear hd
          go_wp2_with fail
          refine (unhide KR _).mono ?_
          rintro e w' ⟨rfl, rfl⟩
          go_wp2_with fail
          refine (unhide KP _).mono ?_
          rintro e w' ⟨rfl, rfl⟩
          go_wp2_with fail
          go_ret
          exact ⟨rfl, hbw8⟩
    · have hcv1 := fun c' => hcv g c' rfl
      clear hcv hx2 hor8
      by_cases hd : wp = true ∧ wid ≠ 0
      · obtain ⟨rfl, hd1⟩ := hd
        have hd3 : (wid != 0) = true := by simpa using hd1
        have hcc := unhide Hc
        rw [if_pos ⟨rfl, hd1⟩] at hcc
        by_cases hd2 : (rc : Int) < wid
        · have hq : ((rp : Int) == wid) = true := by rw [beq_iff_eq]; omega
          clear hd1 hcc
          go_wp2_with fail
          refine (unhide KR _).mono ?_
          rintro e w' ⟨rfl, rfl⟩
          go_wp2_with fail
          refine (unhide KP _).mono ?_
          rintro e w' ⟨rfl, rfl⟩
          go_wp2_with fail
          go_ret
          exact ⟨rfl, hbw8⟩
        · have hq : ((rp : Int) == (rc : Int)) = true := by rw [beq_iff_eq]; omega
          clear hd1 hcc
          go_wp2_with fail
          refine (unhide KR _).mono ?_
          rintro e w' ⟨rfl, rfl⟩
          go_wp2_with fail
          refine (unhide KP _).mono ?_
          rintro e w' ⟨rfl, rfl⟩
          go_wp2_with fail
          go_ret
          exact ⟨rfl, hbw8⟩
      · have hcc := unhide Hc
        rw [if_neg hd] at hcc
        have hq : ((rp : Int) == (rc : Int)) = true := by rw [beq_iff_eq]; omega
        clear hcc
        cases wp
        · clear hd
          go_wp2_with fail
          refine (unhide KR _).mono ?_
          rintro e w' ⟨rfl, rfl⟩
          go_wp2_with fail
          refine (unhide KP _).mono ?_
          rintro e w' ⟨rfl, rfl⟩
          go_wp2_with fail
          go_ret
          exact ⟨rfl, hbw8⟩
        · obtain rfl : wid = 0 := by
            by_cases e : wid = 0
            · exact e
            · exact absurd ⟨rfl, e⟩ hd
          clear hd
          go_wp2_with fail
          refine (unhide KR _).mono ?_
          rintro e w' ⟨rfl, rfl⟩
          go_wp2_with fail
          refine (unhide KP _).mono ?_
          rintro e w' ⟨rfl, rfl⟩
          go_wp2_with fail
          go_ret
          exact ⟨rfl, hbw8⟩

theorem wh_walk (ao : Option Addr) (cap : Nat) (l : List UInt8) (s : ByteArray) (wp : Bool) (wid : Int) (mi ze : Bool) (w : World) (hr : Reads w (.slice ao l.length cap) l) (hs : s.size ≤ maxLen) (hmax : w.cell? ⟨0, 0, none⟩ = some (.int .i64 2147483647)) :
    Calls Efvg.prog 7 #[.slice ao l.length cap, .string s, .bool wp, .int .i64 wid, .bool mi, .bool ze] w fun e w' => e = .returned (.bool true) ∧ Below w.heap.size w w' := by
  by_cases h1 : l.length + s.size ≤ 1048576
  · by_cases h2 : -65536 ≤ wid ∧ wid ≤ 65536
    · exact wh_in ao cap l s wp wid mi ze w hr hmax h1 h2.1 h2.2
    · exact wh_out ao cap l s wp wid mi ze w hs (by omega)
  · exact wh_out ao cap l s wp wid mi ze w hs (by omega)
end Go.Proofs.YoefvwDoor
