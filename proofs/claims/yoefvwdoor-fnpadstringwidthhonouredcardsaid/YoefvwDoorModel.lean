/-
  The walk of zzModelPadded.
-/
import Derived.Test.YoefvwDoorPad
namespace Go.Proofs.YoefvwDoor
open Go.RowKit

theorem own_str {B : Nat} {w1 : World} {v' : Value} {l : List UInt8} {s : ByteArray} (h : w1.ownsRow B 5 1 v' (l.length + s.size) (bcs l ++ Lib.strCells s)) : Own B w1 v' (l ++ s.data.toList) := by
  unfold Own
  rw [bcs_append, List.length_append]
  exact h

/-- The row behind 'append(make([]byte, 0, n), buf...)'. -/
theorem own_first {B : Nat} {w2 w3 : World} {g N : Nat} {l : List UInt8} (_h : w2.ownsRow B 5 1 (.slice (some ⟨g, 0, none⟩) 0 N) 0 []) (h : w3.ownsRow B 5 1 (.slice (some ⟨g, 0, none⟩) (0 + l.length) N) (0 + l.length) ([] ++ bcs l)) :
    Own B w3 (.slice (some ⟨g, 0, none⟩) l.length N) l := by
  simpa [Own] using h

set_option maxHeartbeats 3200000 in
theorem model_any (ao : Option Addr) (cap : Nat) (l : List UInt8) (s : ByteArray) (wp : Bool) (wid : Int) (mi ze : Bool) (w : World) (hr : Reads w (.slice ao l.length cap) l) (hl : l.length ≤ 1048576) (hs : s.size ≤ 1048576) (hw1 : -65536 ≤ wid) (hw2 : wid ≤ 65536) :
    Calls Efvg.prog 25 #[.slice ao l.length cap, .string s, .bool wp, .int .i64 wid, .bool mi, .bool ze] w fun e w' => ∃ v', e = .returned v' ∧ Own w.heap.size w' v' (l ++ padded wp mi ze wid s.data.toList) ∧ Below w.heap.size w w' := by
  obtain ⟨i0, hi, hz0, hz1, hz2⟩ := info_parts Efvg.info5
  have hsrc := hide (src_of hr)
  clear hr
  have hle := Lib.runeCount_le s
  have KR := hide (fun W => zzRuneCount_any s W (by omega))
  have hsl : s.data.toList.length = s.size := rfl
  by_cases hc : wp = true ∧ wid ≠ 0
  · have hpn : padN wp wid s.data.toList = (wid - Lib.runeCount s).toNat := by
      unfold padN
      rw [strOf_self, if_pos hc]
    obtain ⟨rfl, hne⟩ := hc
    have hb0 : (wid != 0) = true := by simpa using hne
    have Hpn := hide hpn
    clear hpn hne
    generalize Lib.runeCount s = rc at hle KR Hpn
    cases mi
    · go_enter Efvg.func25, Efvg.ntmps25
      go_wp2_with (first
        | (at_make; refine wpList_make_own _ rfl _ _ 23 rfl w.heap.size 5 i0 (.int .u8 0) 1 Efvg.underlying23 hi hz0 hz1 _ _ _ (l.length + s.size) rfl rfl (by omega) (by rw [hz2]; omega) (by unfold maxLen; omega) (by omega) ?_; intro w2 hown2 hgrow2; have hb2 := Below.of_grown hgrow2; clear hgrow2; replace hown2 := hide hown2)
        | (at_builtin; refine wpList_append_fits_any _ rfl (.tmp 21) (.tmp 22) 23 rfl w.heap.size 5 i0 1 Efvg.underlying23 hi hz1 w.heap.size 0 (l.length + s.size) [] rfl (unhide hown2) ao l.length cap (bcs l) rfl (by rw [bcs_length]; omega) (unhide hsrc).1 (src_below (unhide hsrc).2 hb2 (Nat.le_refl _)) (bcs_oneCell l) (by omega) ?_; intro w3 hown3 hgrow3; have hb3 : Below w.heap.size w w3 := hb2.grown hgrow3 hb2.size (fun k hk => by simp at hk; omega); clear hgrow3; have ho3 := hide (own_first (unhide hown2) hown3); clear hown3)
        | (go_at_call 27; refine (unhide KR _).mono ?_; rintro e w' ⟨rfl, rfl⟩))
      refine (appendPadding_any w.heap.size _ l (wid - rc) ze _ (unhide ho3) hb3.size (by omega) (by omega)).mono ?_
      rintro e w4 ⟨v4, rfl, ho4, hb4⟩
      have hb4' := hb3.trans hb4
      have Ho4 := hide ho4
      have hln : (l ++ pads ze (wid - rc).toNat).length ≤ 4194304 := by rw [List.length_append, pads_length]; omega
      clear ho4 hb4 ho3
      generalize hL : l ++ pads ze (wid - rc).toNat = L at Ho4 hln
      have HL := hide hL
      clear hL
      go_wp2_with (at_builtin; refine Lib.wpList_append_own_string _ rfl (.tmp 45) (.tmp 46) 23 9 rfl w.heap.size 5 i0 Efvg.underlying23 Efvg.underlying9 hi hz0 hz1 hz2 v4 L.length (bcs L) rfl (unhide Ho4) s rfl (by unfold maxLen; omega) (by omega) (by exact hb4'.size) ?_; intro v5 w5 hown5 hgrow5 hnil5; clear hnil5; have hb5 := hb4'.grown hgrow5 hb4'.size (fun k hk => ((unhide Ho4).lt k hk).1); clear hgrow5; replace hown5 := hide (own_str hown5))
      go_ret
      refine ⟨_, rfl, ?_, hb5⟩
      have := unhide hown5
      rw [← unhide HL, List.append_assoc] at this
      rw [padded, unhide Hpn, if_neg (by decide)]
      exact this
    · go_enter Efvg.func25, Efvg.ntmps25
      go_wp2_with (first
        | (at_make; refine wpList_make_own _ rfl _ _ 23 rfl w.heap.size 5 i0 (.int .u8 0) 1 Efvg.underlying23 hi hz0 hz1 _ _ _ (l.length + s.size) rfl rfl (by omega) (by rw [hz2]; omega) (by unfold maxLen; omega) (by omega) ?_; intro w2 hown2 hgrow2; have hb2 := Below.of_grown hgrow2; clear hgrow2; replace hown2 := hide hown2)
        | (at_builtin; refine wpList_append_fits_any _ rfl (.tmp 21) (.tmp 22) 23 rfl w.heap.size 5 i0 1 Efvg.underlying23 hi hz1 w.heap.size 0 (l.length + s.size) [] rfl (unhide hown2) ao l.length cap (bcs l) rfl (by rw [bcs_length]; omega) (unhide hsrc).1 (src_below (unhide hsrc).2 hb2 (Nat.le_refl _)) (bcs_oneCell l) (by omega) ?_; intro w3 hown3 hgrow3; have hb3 : Below w.heap.size w w3 := hb2.grown hgrow3 hb2.size (fun k hk => by simp at hk; omega); clear hgrow3; have ho3 := hide (own_first (unhide hown2) hown3); clear hown3)
        | (go_at_call 27; refine (unhide KR _).mono ?_; rintro e w' ⟨rfl, rfl⟩)
        | (at_builtin; refine Lib.wpList_append_own_string _ rfl (.tmp 34) (.tmp 35) 23 9 rfl w.heap.size 5 i0 Efvg.underlying23 Efvg.underlying9 hi hz0 hz1 hz2 (.slice (some ⟨w.heap.size, 0, none⟩) l.length (l.length + s.size)) l.length (bcs l) rfl (unhide ho3) s rfl (by unfold maxLen; omega) (by omega) (by exact hb3.size) ?_; intro v5 w5 hown5 hgrow5 hnil5; clear hnil5; have hb5 := hb3.grown hgrow5 hb3.size (fun k hk => ((unhide ho3).lt k hk).1); clear hgrow5; replace hown5 := hide (own_str hown5)))
      refine (appendPadding_any w.heap.size _ (l ++ s.data.toList) (wid - rc) ze _ (unhide hown5) hb5.size (by rw [List.length_append, hsl]; omega) (by omega)).mono ?_
      rintro e w6 ⟨v6, rfl, ho6, hb6⟩
      go_wp2_with fail
      go_ret
      refine ⟨_, rfl, ?_, hb5.trans hb6⟩
      rw [List.append_assoc] at ho6
      rw [padded, unhide Hpn, if_pos rfl]
      exact ho6
  · have hpn : padN wp wid s.data.toList = (0 : Int).toNat := by
      unfold padN
      rw [if_neg hc]
      rfl
    have Hpn := hide hpn
    clear hpn KR hle
    by_cases hwp : wp = true
    · subst hwp
      obtain rfl : wid = 0 := by
        by_cases e : wid = 0
        · exact e
        · exact absurd ⟨rfl, e⟩ hc
      clear hc
      cases mi
      · go_enter Efvg.func25, Efvg.ntmps25
        go_wp2_with (first
          | (at_make; refine wpList_make_own _ rfl _ _ 23 rfl w.heap.size 5 i0 (.int .u8 0) 1 Efvg.underlying23 hi hz0 hz1 _ _ _ (l.length + s.size) rfl rfl (by omega) (by rw [hz2]; omega) (by unfold maxLen; omega) (by omega) ?_; intro w2 hown2 hgrow2; have hb2 := Below.of_grown hgrow2; clear hgrow2; replace hown2 := hide hown2)
          | (at_builtin; refine wpList_append_fits_any _ rfl (.tmp 21) (.tmp 22) 23 rfl w.heap.size 5 i0 1 Efvg.underlying23 hi hz1 w.heap.size 0 (l.length + s.size) [] rfl (unhide hown2) ao l.length cap (bcs l) rfl (by rw [bcs_length]; omega) (unhide hsrc).1 (src_below (unhide hsrc).2 hb2 (Nat.le_refl _)) (bcs_oneCell l) (by omega) ?_; intro w3 hown3 hgrow3; have hb3 : Below w.heap.size w w3 := hb2.grown hgrow3 hb2.size (fun k hk => by simp at hk; omega); clear hgrow3; have ho3 := hide (own_first (unhide hown2) hown3); clear hown3))
        refine (appendPadding_any w.heap.size _ l (0) ze _ (unhide ho3) hb3.size (by omega) (by omega)).mono ?_
        rintro e w4 ⟨v4, rfl, ho4, hb4⟩
        have hb4' := hb3.trans hb4
        have Ho4 := hide ho4
        have hln : (l ++ pads ze (0 : Int).toNat).length ≤ 4194304 := by rw [List.length_append, pads_length]; omega
        clear ho4 hb4 ho3
        generalize hL : l ++ pads ze (0 : Int).toNat = L at Ho4 hln
        have HL := hide hL
        clear hL
        go_wp2_with (at_builtin; refine Lib.wpList_append_own_string _ rfl (.tmp 45) (.tmp 46) 23 9 rfl w.heap.size 5 i0 Efvg.underlying23 Efvg.underlying9 hi hz0 hz1 hz2 v4 L.length (bcs L) rfl (unhide Ho4) s rfl (by unfold maxLen; omega) (by omega) (by exact hb4'.size) ?_; intro v5 w5 hown5 hgrow5 hnil5; clear hnil5; have hb5 := hb4'.grown hgrow5 hb4'.size (fun k hk => ((unhide Ho4).lt k hk).1); clear hgrow5; replace hown5 := hide (own_str hown5))
        go_ret
        refine ⟨_, rfl, ?_, hb5⟩
        have := unhide hown5
        rw [← unhide HL, List.append_assoc] at this
        rw [padded, unhide Hpn, if_neg (by decide)]
        exact this
      · go_enter Efvg.func25, Efvg.ntmps25
        go_wp2_with (first
          | (at_make; refine wpList_make_own _ rfl _ _ 23 rfl w.heap.size 5 i0 (.int .u8 0) 1 Efvg.underlying23 hi hz0 hz1 _ _ _ (l.length + s.size) rfl rfl (by omega) (by rw [hz2]; omega) (by unfold maxLen; omega) (by omega) ?_; intro w2 hown2 hgrow2; have hb2 := Below.of_grown hgrow2; clear hgrow2; replace hown2 := hide hown2)
          | (at_builtin; refine wpList_append_fits_any _ rfl (.tmp 21) (.tmp 22) 23 rfl w.heap.size 5 i0 1 Efvg.underlying23 hi hz1 w.heap.size 0 (l.length + s.size) [] rfl (unhide hown2) ao l.length cap (bcs l) rfl (by rw [bcs_length]; omega) (unhide hsrc).1 (src_below (unhide hsrc).2 hb2 (Nat.le_refl _)) (bcs_oneCell l) (by omega) ?_; intro w3 hown3 hgrow3; have hb3 : Below w.heap.size w w3 := hb2.grown hgrow3 hb2.size (fun k hk => by simp at hk; omega); clear hgrow3; have ho3 := hide (own_first (unhide hown2) hown3); clear hown3)
          | (at_builtin; refine Lib.wpList_append_own_string _ rfl (.tmp 34) (.tmp 35) 23 9 rfl w.heap.size 5 i0 Efvg.underlying23 Efvg.underlying9 hi hz0 hz1 hz2 (.slice (some ⟨w.heap.size, 0, none⟩) l.length (l.length + s.size)) l.length (bcs l) rfl (unhide ho3) s rfl (by unfold maxLen; omega) (by omega) (by exact hb3.size) ?_; intro v5 w5 hown5 hgrow5 hnil5; clear hnil5; have hb5 := hb3.grown hgrow5 hb3.size (fun k hk => ((unhide ho3).lt k hk).1); clear hgrow5; replace hown5 := hide (own_str hown5)))
        refine (appendPadding_any w.heap.size _ (l ++ s.data.toList) (0) ze _ (unhide hown5) hb5.size (by rw [List.length_append, hsl]; omega) (by omega)).mono ?_
        rintro e w6 ⟨v6, rfl, ho6, hb6⟩
        go_wp2_with fail
        go_ret
        refine ⟨_, rfl, ?_, hb5.trans hb6⟩
        rw [List.append_assoc] at ho6
        rw [padded, unhide Hpn, if_pos rfl]
        exact ho6
    · obtain rfl : wp = false := by simpa using hwp
      clear hc hwp
      cases mi
      · go_enter Efvg.func25, Efvg.ntmps25
        go_wp2_with (first
          | (at_make; refine wpList_make_own _ rfl _ _ 23 rfl w.heap.size 5 i0 (.int .u8 0) 1 Efvg.underlying23 hi hz0 hz1 _ _ _ (l.length + s.size) rfl rfl (by omega) (by rw [hz2]; omega) (by unfold maxLen; omega) (by omega) ?_; intro w2 hown2 hgrow2; have hb2 := Below.of_grown hgrow2; clear hgrow2; replace hown2 := hide hown2)
          | (at_builtin; refine wpList_append_fits_any _ rfl (.tmp 21) (.tmp 22) 23 rfl w.heap.size 5 i0 1 Efvg.underlying23 hi hz1 w.heap.size 0 (l.length + s.size) [] rfl (unhide hown2) ao l.length cap (bcs l) rfl (by rw [bcs_length]; omega) (unhide hsrc).1 (src_below (unhide hsrc).2 hb2 (Nat.le_refl _)) (bcs_oneCell l) (by omega) ?_; intro w3 hown3 hgrow3; have hb3 : Below w.heap.size w w3 := hb2.grown hgrow3 hb2.size (fun k hk => by simp at hk; omega); clear hgrow3; have ho3 := hide (own_first (unhide hown2) hown3); clear hown3))
        refine (appendPadding_any w.heap.size _ l (0) ze _ (unhide ho3) hb3.size (by omega) (by omega)).mono ?_
        rintro e w4 ⟨v4, rfl, ho4, hb4⟩
        have hb4' := hb3.trans hb4
        have Ho4 := hide ho4
        have hln : (l ++ pads ze (0 : Int).toNat).length ≤ 4194304 := by rw [List.length_append, pads_length]; omega
        clear ho4 hb4 ho3
        generalize hL : l ++ pads ze (0 : Int).toNat = L at Ho4 hln
        have HL := hide hL
        clear hL
        go_wp2_with (at_builtin; refine Lib.wpList_append_own_string _ rfl (.tmp 45) (.tmp 46) 23 9 rfl w.heap.size 5 i0 Efvg.underlying23 Efvg.underlying9 hi hz0 hz1 hz2 v4 L.length (bcs L) rfl (unhide Ho4) s rfl (by unfold maxLen; omega) (by omega) (by exact hb4'.size) ?_; intro v5 w5 hown5 hgrow5 hnil5; clear hnil5; have hb5 := hb4'.grown hgrow5 hb4'.size (fun k hk => ((unhide Ho4).lt k hk).1); clear hgrow5; replace hown5 := hide (own_str hown5))
        go_ret
        refine ⟨_, rfl, ?_, hb5⟩
        have := unhide hown5
        rw [← unhide HL, List.append_assoc] at this
        rw [padded, unhide Hpn, if_neg (by decide)]
        exact this
      · go_enter Efvg.func25, Efvg.ntmps25
        go_wp2_with (first
          | (at_make; refine wpList_make_own _ rfl _ _ 23 rfl w.heap.size 5 i0 (.int .u8 0) 1 Efvg.underlying23 hi hz0 hz1 _ _ _ (l.length + s.size) rfl rfl (by omega) (by rw [hz2]; omega) (by unfold maxLen; omega) (by omega) ?_; intro w2 hown2 hgrow2; have hb2 := Below.of_grown hgrow2; clear hgrow2; replace hown2 := hide hown2)
          | (at_builtin; refine wpList_append_fits_any _ rfl (.tmp 21) (.tmp 22) 23 rfl w.heap.size 5 i0 1 Efvg.underlying23 hi hz1 w.heap.size 0 (l.length + s.size) [] rfl (unhide hown2) ao l.length cap (bcs l) rfl (by rw [bcs_length]; omega) (unhide hsrc).1 (src_below (unhide hsrc).2 hb2 (Nat.le_refl _)) (bcs_oneCell l) (by omega) ?_; intro w3 hown3 hgrow3; have hb3 : Below w.heap.size w w3 := hb2.grown hgrow3 hb2.size (fun k hk => by simp at hk; omega); clear hgrow3; have ho3 := hide (own_first (unhide hown2) hown3); clear hown3)
          | (at_builtin; refine Lib.wpList_append_own_string _ rfl (.tmp 34) (.tmp 35) 23 9 rfl w.heap.size 5 i0 Efvg.underlying23 Efvg.underlying9 hi hz0 hz1 hz2 (.slice (some ⟨w.heap.size, 0, none⟩) l.length (l.length + s.size)) l.length (bcs l) rfl (unhide ho3) s rfl (by unfold maxLen; omega) (by omega) (by exact hb3.size) ?_; intro v5 w5 hown5 hgrow5 hnil5; clear hnil5; have hb5 := hb3.grown hgrow5 hb3.size (fun k hk => ((unhide ho3).lt k hk).1); clear hgrow5; replace hown5 := hide (own_str hown5)))
        refine (appendPadding_any w.heap.size _ (l ++ s.data.toList) (0) ze _ (unhide hown5) hb5.size (by rw [List.length_append, hsl]; omega) (by omega)).mono ?_
        rintro e w6 ⟨v6, rfl, ho6, hb6⟩
        go_wp2_with fail
        go_ret
        refine ⟨_, rfl, ?_, hb5.trans hb6⟩
        rw [List.append_assoc] at ho6
        rw [padded, unhide Hpn, if_pos rfl]
        exact ho6
/-- 'string(b)' of a row of the call's own. -/
theorem conv_own {B : Nat} {w : World} {ao : Option Addr} {c : Nat} {l : List UInt8} (h : Own B w (.slice ao l.length c) l) : (convert 23 9 (.slice ao l.length c)).run Efvg.prog w = .ok (.string (strOf l)) w :=
  run_conv w ao c l (fun e => List.eq_nil_of_length_eq_zero ((src_of h.reads).1 e).1) (src_of h.reads).2
end Go.Proofs.YoefvwDoor
