/-
  The walk of (*formatter).writePadding.
-/
import Derived.Test.YoefvwDoorFmt
import Derived.Deep.RegionHeld3
namespace Go.Proofs.YoefvwDoor
open Go.RowKit

/-- What the filling loop carries. -/
def PadRel (B : Nat) (w : World) (g cap : Nat) (l : List UInt8) (z : Bool) (k : Nat) (wr : World) : Prop :=
  Own B wr (.slice (some ⟨g, 0, none⟩) (l ++ pads z k).length cap) (l ++ pads z k) ∧ w.grownBy wr (some g)

theorem own_cell {B : Nat} {w : World} {g cap : Nat} {l : List UInt8} (h : Own B w (.slice (some ⟨g, 0, none⟩) l.length cap) l) (j : Nat) (hj : j < cap) :
    ∃ u, w.cell? ⟨g, j, none⟩ = some u ∧ w.frozen? ⟨g, j, none⟩ = false := by
  rcases h.2 with ⟨h2, _⟩ | ⟨g', cap', cur, hv, hb, hg, hn, hm, hs, ht⟩
  · cases h2
  · cases hv
    have : j < cur.size := by omega
    exact ⟨cur[j], by simp [World.cell?, hg, this], by simp [World.frozen?, hg]⟩

theorem own_fill {B : Nat} {w : World} {g cap : Nat} {l : List UInt8} (h : Own B w (.slice (some ⟨g, 0, none⟩) l.length cap) l) (c : UInt8) (hj : l.length < cap) :
    Own B (w.setCell ⟨g, l.length, none⟩ (.int .u8 c.toNat)) (.slice (some ⟨g, 0, none⟩) (l ++ [c]).length cap) (l ++ [c]) := by
  rcases h.2 with ⟨h2, _⟩ | ⟨g', cap', cur, hv, hb, hg, hn, hm, hs, ht⟩
  · cases h2
  · cases hv
    refine ⟨by rw [bcs_length]; simp, .inr ⟨g, cap, cur.setIfInBounds l.length (.int .u8 c.toNat), rfl, hb, ?_, by simp; omega, hm, by simpa using hs, ?_⟩⟩
    · simp [World.setCell, Array.getElem?_modify, hg]
    · rw [bcs_append, bcs_one, ← ht]
      simp only [Nat.mul_one] at hs ht ⊢
      rw [List.length_append]
      simp only [Array.toList_setIfInBounds, List.length_singleton]
      have hcl : l.length < cur.toList.length := by simp; omega
      rw [List.take_succ_eq_append_getElem (by simpa using hcl)]
      simp [List.take_set_of_le]

theorem padRel_step {B : Nat} {w wr : World} {g cap : Nat} {l : List UInt8} {z : Bool} {k : Nat} (h : PadRel B w g cap l z k wr) (hk : l.length + k < cap) :
    PadRel B w g cap l z (k + 1) (wr.setCell ⟨g, l.length + k, none⟩ (.int .u8 (padB z).toNat)) := by
  have e : (l ++ pads z k).length = l.length + k := by rw [List.length_append, pads_length]
  have := own_fill h.1 (padB z) (by omega)
  rw [e, List.append_assoc, ← pads_succ] at this
  exact ⟨this, grownBy_trans h.2 (grownBy_setCell _ _ _)⟩

set_option maxHeartbeats 800000 in
theorem wpad_room_false (B : Nat) (w : World) (F bx g cap : Nat) (l : List UInt8) (n : Nat) (h0 : w.cell? ⟨F, 0, none⟩ = some (.pointer (some ⟨bx, 0, none⟩))) (hze : w.cell? ⟨F, 7, none⟩ = some (.bool false))
    (hbx : w.cell? ⟨bx, 0, none⟩ = some (.slice (some ⟨g, 0, none⟩) l.length cap)) (hfx : w.frozen? ⟨bx, 0, none⟩ = false) (hmax : w.cell? ⟨0, 0, none⟩ = some (.int .i64 2147483647))
    (hown : Own B w (.slice (some ⟨g, 0, none⟩) l.length cap) l) (hF : F ≠ g) (hb : bx ≠ g) (hFs : F < w.heap.size) (hbs : bx < w.heap.size)
    (hl : l.length ≤ 4194304) (hn0 : 0 < n) (hn : n ≤ 4194304) (hroom : l.length + n ≤ cap) (hcm : cap ≤ maxLen) :
    Calls Efvg.prog 35 #[.pointer (some ⟨F, 0, none⟩), .int .i64 n] w fun e w' => e = .returned (.tuple #[]) ∧ ∃ w1 nq, PadRel B w g cap l false n w1 ∧ w' = (w1.setCell ⟨bx, 0, none⟩ (.slice (some ⟨g, 0, none⟩) (l.length + n) cap)).drewN nq := by
  unfold maxLen at hcm
  have H0 := hide hown
  clear hown
  go_enter Efvg.func35, Efvg.ntmps35
  go_wp2_with fail
  go_loopw [56] (fun i wr => ∃ k : Nat, k ≤ n ∧ i = .int .i64 k ∧ PadRel B w g cap l false k wr) (fun i _ => n - (intOf i).toNat)
  case atStart => exact ⟨0, Nat.zero_le _, rfl, by simpa [pads] using unhide H0, World.grownBy.refl _ _⟩
  case round =>
    obtain ⟨k, hk, rfl, hrel⟩ := hrel
    have hF1 : wr.cell? ⟨F, 0, none⟩ = some (.pointer (some ⟨bx, 0, none⟩)) := by rw [hrel.2.cell_far _ hFs (by simpa using hF)]; exact h0
    have hb1 : wr.cell? ⟨bx, 0, none⟩ = some (.slice (some ⟨g, 0, none⟩) l.length cap) := by rw [hrel.2.cell_far _ hbs (by simpa using hb)]; exact hbx
    have hb2 : wr.frozen? ⟨bx, 0, none⟩ = false := by rw [hrel.2.frozen_far _ hbs (by simpa using hb)]; exact hfx
    by_cases hlt : k < n
    · obtain ⟨u, hu, hfu⟩ := own_cell hrel.1 (l.length + k) (by omega)
      have hstep := hide (padRel_step hrel (by omega))
      clear hrel
      go_wp2
      go_roundw
      case rel => exact ⟨k + 1, by omega, by go_num, unhide hstep⟩
      case measure => simp [intOf]; omega
    · have hkn : k = n := by omega
      subst hkn
      have Hr := hide hrel
      clear hrel
      go_wp2
      go_region
      go_end0
      exact ⟨rfl, wr, 1, unhide Hr, rfl⟩

set_option maxHeartbeats 800000 in
theorem wpad_room_true (B : Nat) (w : World) (F bx g cap : Nat) (l : List UInt8) (n : Nat) (h0 : w.cell? ⟨F, 0, none⟩ = some (.pointer (some ⟨bx, 0, none⟩))) (hze : w.cell? ⟨F, 7, none⟩ = some (.bool true))
    (hbx : w.cell? ⟨bx, 0, none⟩ = some (.slice (some ⟨g, 0, none⟩) l.length cap)) (hfx : w.frozen? ⟨bx, 0, none⟩ = false) (hmax : w.cell? ⟨0, 0, none⟩ = some (.int .i64 2147483647))
    (hown : Own B w (.slice (some ⟨g, 0, none⟩) l.length cap) l) (hF : F ≠ g) (hb : bx ≠ g) (hFs : F < w.heap.size) (hbs : bx < w.heap.size)
    (hl : l.length ≤ 4194304) (hn0 : 0 < n) (hn : n ≤ 4194304) (hroom : l.length + n ≤ cap) (hcm : cap ≤ maxLen) :
    Calls Efvg.prog 35 #[.pointer (some ⟨F, 0, none⟩), .int .i64 n] w fun e w' => e = .returned (.tuple #[]) ∧ ∃ w1 nq, PadRel B w g cap l true n w1 ∧ w' = (w1.setCell ⟨bx, 0, none⟩ (.slice (some ⟨g, 0, none⟩) (l.length + n) cap)).drewN nq := by
  unfold maxLen at hcm
  have H0 := hide hown
  clear hown
  go_enter Efvg.func35, Efvg.ntmps35
  go_wp2_with fail
  go_loopw [56] (fun i wr => ∃ k : Nat, k ≤ n ∧ i = .int .i64 k ∧ PadRel B w g cap l true k wr) (fun i _ => n - (intOf i).toNat)
  case atStart => exact ⟨0, Nat.zero_le _, rfl, by simpa [pads] using unhide H0, World.grownBy.refl _ _⟩
  case round =>
    obtain ⟨k, hk, rfl, hrel⟩ := hrel
    have hF1 : wr.cell? ⟨F, 0, none⟩ = some (.pointer (some ⟨bx, 0, none⟩)) := by rw [hrel.2.cell_far _ hFs (by simpa using hF)]; exact h0
    have hb1 : wr.cell? ⟨bx, 0, none⟩ = some (.slice (some ⟨g, 0, none⟩) l.length cap) := by rw [hrel.2.cell_far _ hbs (by simpa using hb)]; exact hbx
    have hb2 : wr.frozen? ⟨bx, 0, none⟩ = false := by rw [hrel.2.frozen_far _ hbs (by simpa using hb)]; exact hfx
    by_cases hlt : k < n
    · obtain ⟨u, hu, hfu⟩ := own_cell hrel.1 (l.length + k) (by omega)
      have hstep := hide (padRel_step hrel (by omega))
      clear hrel
      go_wp2
      go_roundw
      case rel => exact ⟨k + 1, by omega, by go_num, unhide hstep⟩
      case measure => simp [intOf]; omega
    · have hkn : k = n := by omega
      subst hkn
      have Hr := hide hrel
      clear hrel
      go_wp2
      go_region
      go_end0
      exact ⟨rfl, wr, 1, unhide Hr, rfl⟩

theorem Efvg.size5 : (Efvg.prog.info? 5).map (·.size) = some 1 := by kernel_rfl

/-- The row that 'make' lays, whole. -/
theorem made_row {B : Nat} {w1 : World} {g N : Nat} {xs : List Value} (h : w1.ownsRow B 5 1 (.slice (some ⟨g, 0, none⟩) N N) N xs) : ∃ cur : List Value, w1.heap[g]? = some (.cells cur.toArray 5 (0, 0)) ∧ cur.length = N := by
  rcases h.2 with ⟨h2, _⟩ | ⟨g', cap', cur, hv, hb, hg, hn, hm, hs, ht⟩
  · cases h2
  · cases hv
    exact ⟨cur.toList, by simpa using hg, by simpa using hs⟩

theorem copied {B g N : Nat} {w2 : World} {cur : List Value} {l : List UInt8} (hg : w2.heap[g]? = some (.cells (splice cur 0 (bcs l)).toArray 5 (0, 0))) (hN : cur.length = N) (hl : l.length ≤ N) (hm : N ≤ maxLen) (hB : B ≤ g) :
    Own B w2 (.slice (some ⟨g, 0, none⟩) l.length N) l := by
  refine ⟨by rw [bcs_length]; simp, .inr ⟨g, N, _, rfl, hB, hg, hl, hm, ?_, ?_⟩⟩
  · simp only [List.size_toArray, Nat.mul_one]
    rw [length_splice _ _ _ (by rw [bcs_length]; omega), hN]
  · simp only [splice, List.take_zero, List.nil_append, Nat.mul_one]
    rw [← bcs_length l]
    exact List.take_left

set_option maxHeartbeats 800000 in
theorem wpad_grow_false (B : Nat) (w : World) (F bx : Nat) (ao : Option Addr) (cap : Nat) (l : List UInt8) (n : Nat) (h0 : w.cell? ⟨F, 0, none⟩ = some (.pointer (some ⟨bx, 0, none⟩))) (hze : w.cell? ⟨F, 7, none⟩ = some (.bool false))
    (hbx : w.cell? ⟨bx, 0, none⟩ = some (.slice ao l.length cap)) (hfx : w.frozen? ⟨bx, 0, none⟩ = false) (hmax : w.cell? ⟨0, 0, none⟩ = some (.int .i64 2147483647))
    (hsrc : 0 < (bcs l).length → ∃ ad, ao = some ad ∧ ∀ j v, (bcs l)[j]? = some v → w.cell? (ad.add j) = some v) (hB : B ≤ w.heap.size) (hFs : F < w.heap.size) (hbs : bx < w.heap.size)
    (hl : l.length ≤ 4194304) (hn0 : 0 < n) (hn : n ≤ 4194304) (hlc : l.length ≤ cap) (hroom : cap < l.length + n) :
    Calls Efvg.prog 35 #[.pointer (some ⟨F, 0, none⟩), .int .i64 n] w fun e w' => e = .returned (.tuple #[]) ∧ ∃ w1 nq, PadRel B w w.heap.size (cap * 2 + n) l false n w1 ∧ w' = (w1.setCell ⟨bx, 0, none⟩ (.slice (some ⟨w.heap.size, 0, none⟩) (l.length + n) (cap * 2 + n))).drewN nq := by
  obtain ⟨i0, hi, hz0, hz1, hz2⟩ := info_parts Efvg.info5
  have Hsrc := hide hsrc
  clear hsrc
  go_enter Efvg.func35, Efvg.ntmps35
  go_wp2_with (first
    | (at_make; refine wpList_make_full _ rfl _ _ 43 rfl w.heap.size 5 i0 (.int .u8 0) 1 Efvg.underlying43 hi hz0 hz1 _ _ _ _ (cap * 2 + n) rfl rfl (by omega) (by omega) (by rw [hz2]; omega) (by unfold maxLen; omega) (by omega) ?_; intro w1 hown1 hgrow1; obtain ⟨cur, Hcur, hlen⟩ := made_row hown1; have hbel1 := Below.of_grown hgrow1; have k0 := (hbel1.cell (p := ⟨F, 0, none⟩) hFs).trans h0; have k1 := (hbel1.cell (p := ⟨bx, 0, none⟩) hbs).trans hbx; have k7 := (hbel1.cell (p := ⟨F, 7, none⟩) hFs).trans hze; clear hown1 hgrow1; replace Hcur := hide Hcur; replace hlen := hide hlen)
    | (refine wpList_copy_splice rfl (.tmp 37) (.tmp 43) 43 43 rfl 5 Efvg.underlying43 Efvg.size5 _ _ _ _ _ _ rfl rfl w.heap.size 0 cur 5 (unhide Hcur) (bcs l) (by rw [bcs_length]; exact (Nat.min_eq_left (by omega)).symm) (fun h => ⟨rfl, by obtain ⟨ad, ha, hc⟩ := unhide Hsrc h; exact ⟨ad, ha, fun j v hv => (hbel1.cell (World.block_lt_of_cell? w _ (hc j v hv))).trans (hc j v hv)⟩⟩) (by rw [bcs_length, unhide hlen]; omega) (bcs_oneCell l) w.heap.size w hbel1 (Nat.le_refl _) ?_; intro w2 HG2 hB2; have j0 := (hB2.cell (p := ⟨F, 0, none⟩) hFs).trans h0; have j1 := (hB2.cell (p := ⟨bx, 0, none⟩) hbs).trans hbx; have j7 := (hB2.cell (p := ⟨F, 7, none⟩) hFs).trans hze))
  have hst : PadRel B w w.heap.size (cap * 2 + n) l false 0 w2 := by
    have h1 := copied (B := B) (unhide HG2) (unhide hlen) (by omega) (by unfold maxLen; omega) hB
    have e : l ++ pads false 0 = l := by simp [pads]
    refine ⟨by rw [e]; exact h1, hB2.os, hB2.tape, hB2.output, hB2.size, fun k hk _ => hB2.block k hk⟩
  replace hst := hide hst
  clear HG2 Hcur hlen hbel1 k0 k1 k7 j0 j1 j7 hB2 Hsrc
  go_loopw [56] (fun i wr => ∃ k : Nat, k ≤ n ∧ i = .int .i64 k ∧ PadRel B w w.heap.size (cap * 2 + n) l false k wr) (fun i _ => n - (intOf i).toNat)
  case atStart => exact ⟨0, Nat.zero_le _, rfl, unhide hst⟩
  case round =>
    obtain ⟨k, hk, rfl, hrel⟩ := hrel
    have hF1 : wr.cell? ⟨F, 0, none⟩ = some (.pointer (some ⟨bx, 0, none⟩)) := by rw [hrel.2.cell_far _ hFs (by simp; omega)]; exact h0
    have hb1 : wr.cell? ⟨bx, 0, none⟩ = some (.slice ao l.length cap) := by rw [hrel.2.cell_far _ hbs (by simp; omega)]; exact hbx
    have hb2 : wr.frozen? ⟨bx, 0, none⟩ = false := by rw [hrel.2.frozen_far _ hbs (by simp; omega)]; exact hfx
    by_cases hlt : k < n
    · obtain ⟨u, hu, hfu⟩ := own_cell hrel.1 (l.length + k) (by omega)
      have hstep := hide (padRel_step hrel (by omega))
      clear hrel
      go_wp2
      go_roundw
      case rel => exact ⟨k + 1, by omega, by go_num, unhide hstep⟩
      case measure => simp [intOf]; omega
    · have hkn : k = n := by omega
      subst hkn
      have Hr := hide hrel
      clear hrel
      go_wp2
      go_region
      go_end0
      exact ⟨rfl, wr, 1, unhide Hr, rfl⟩

set_option maxHeartbeats 800000 in
theorem wpad_grow_true (B : Nat) (w : World) (F bx : Nat) (ao : Option Addr) (cap : Nat) (l : List UInt8) (n : Nat) (h0 : w.cell? ⟨F, 0, none⟩ = some (.pointer (some ⟨bx, 0, none⟩))) (hze : w.cell? ⟨F, 7, none⟩ = some (.bool true))
    (hbx : w.cell? ⟨bx, 0, none⟩ = some (.slice ao l.length cap)) (hfx : w.frozen? ⟨bx, 0, none⟩ = false) (hmax : w.cell? ⟨0, 0, none⟩ = some (.int .i64 2147483647))
    (hsrc : 0 < (bcs l).length → ∃ ad, ao = some ad ∧ ∀ j v, (bcs l)[j]? = some v → w.cell? (ad.add j) = some v) (hB : B ≤ w.heap.size) (hFs : F < w.heap.size) (hbs : bx < w.heap.size)
    (hl : l.length ≤ 4194304) (hn0 : 0 < n) (hn : n ≤ 4194304) (hlc : l.length ≤ cap) (hroom : cap < l.length + n) :
    Calls Efvg.prog 35 #[.pointer (some ⟨F, 0, none⟩), .int .i64 n] w fun e w' => e = .returned (.tuple #[]) ∧ ∃ w1 nq, PadRel B w w.heap.size (cap * 2 + n) l true n w1 ∧ w' = (w1.setCell ⟨bx, 0, none⟩ (.slice (some ⟨w.heap.size, 0, none⟩) (l.length + n) (cap * 2 + n))).drewN nq := by
  obtain ⟨i0, hi, hz0, hz1, hz2⟩ := info_parts Efvg.info5
  have Hsrc := hide hsrc
  clear hsrc
  go_enter Efvg.func35, Efvg.ntmps35
  go_wp2_with (first
    | (at_make; refine wpList_make_full _ rfl _ _ 43 rfl w.heap.size 5 i0 (.int .u8 0) 1 Efvg.underlying43 hi hz0 hz1 _ _ _ _ (cap * 2 + n) rfl rfl (by omega) (by omega) (by rw [hz2]; omega) (by unfold maxLen; omega) (by omega) ?_; intro w1 hown1 hgrow1; obtain ⟨cur, Hcur, hlen⟩ := made_row hown1; have hbel1 := Below.of_grown hgrow1; have k0 := (hbel1.cell (p := ⟨F, 0, none⟩) hFs).trans h0; have k1 := (hbel1.cell (p := ⟨bx, 0, none⟩) hbs).trans hbx; have k7 := (hbel1.cell (p := ⟨F, 7, none⟩) hFs).trans hze; clear hown1 hgrow1; replace Hcur := hide Hcur; replace hlen := hide hlen)
    | (refine wpList_copy_splice rfl (.tmp 37) (.tmp 43) 43 43 rfl 5 Efvg.underlying43 Efvg.size5 _ _ _ _ _ _ rfl rfl w.heap.size 0 cur 5 (unhide Hcur) (bcs l) (by rw [bcs_length]; exact (Nat.min_eq_left (by omega)).symm) (fun h => ⟨rfl, by obtain ⟨ad, ha, hc⟩ := unhide Hsrc h; exact ⟨ad, ha, fun j v hv => (hbel1.cell (World.block_lt_of_cell? w _ (hc j v hv))).trans (hc j v hv)⟩⟩) (by rw [bcs_length, unhide hlen]; omega) (bcs_oneCell l) w.heap.size w hbel1 (Nat.le_refl _) ?_; intro w2 HG2 hB2; have j0 := (hB2.cell (p := ⟨F, 0, none⟩) hFs).trans h0; have j1 := (hB2.cell (p := ⟨bx, 0, none⟩) hbs).trans hbx; have j7 := (hB2.cell (p := ⟨F, 7, none⟩) hFs).trans hze))
  have hst : PadRel B w w.heap.size (cap * 2 + n) l true 0 w2 := by
    have h1 := copied (B := B) (unhide HG2) (unhide hlen) (by omega) (by unfold maxLen; omega) hB
    have e : l ++ pads true 0 = l := by simp [pads]
    refine ⟨by rw [e]; exact h1, hB2.os, hB2.tape, hB2.output, hB2.size, fun k hk _ => hB2.block k hk⟩
  replace hst := hide hst
  clear HG2 Hcur hlen hbel1 k0 k1 k7 j0 j1 j7 hB2 Hsrc
  go_loopw [56] (fun i wr => ∃ k : Nat, k ≤ n ∧ i = .int .i64 k ∧ PadRel B w w.heap.size (cap * 2 + n) l true k wr) (fun i _ => n - (intOf i).toNat)
  case atStart => exact ⟨0, Nat.zero_le _, rfl, unhide hst⟩
  case round =>
    obtain ⟨k, hk, rfl, hrel⟩ := hrel
    have hF1 : wr.cell? ⟨F, 0, none⟩ = some (.pointer (some ⟨bx, 0, none⟩)) := by rw [hrel.2.cell_far _ hFs (by simp; omega)]; exact h0
    have hb1 : wr.cell? ⟨bx, 0, none⟩ = some (.slice ao l.length cap) := by rw [hrel.2.cell_far _ hbs (by simp; omega)]; exact hbx
    have hb2 : wr.frozen? ⟨bx, 0, none⟩ = false := by rw [hrel.2.frozen_far _ hbs (by simp; omega)]; exact hfx
    by_cases hlt : k < n
    · obtain ⟨u, hu, hfu⟩ := own_cell hrel.1 (l.length + k) (by omega)
      have hstep := hide (padRel_step hrel (by omega))
      clear hrel
      go_wp2
      go_roundw
      case rel => exact ⟨k + 1, by omega, by go_num, unhide hstep⟩
      case measure => simp [intOf]; omega
    · have hkn : k = n := by omega
      subst hkn
      have Hr := hide hrel
      clear hrel
      go_wp2
      go_region
      go_end0
      exact ⟨rfl, wr, 1, unhide Hr, rfl⟩

set_option maxHeartbeats 400000 in
theorem wpad_none (p : Option Addr) (w : World) (n : Int) (hn : n ≤ 0) :
    Calls Efvg.prog 35 #[.pointer p, .int .i64 n] w fun e w' => e = .returned (.tuple #[]) ∧ w = w' := by
  go_enter Efvg.func35, Efvg.ntmps35
  go_wp2
  (try simp only [Exit.inBlock, Exit.then])
  refine bodyPost_ret (results_none rfl _ _ _) rfl ?_
  exact ⟨rfl, rfl⟩

/-- What is known behind the filling: the formatter's buffer is longer by the padding. -/
theorem Fm.padded {B : Nat} {w w1 : World} {F bx : Nat} {f : Nat → Bool} {wid prec : Int} {l : List UInt8} {g cap : Nat} {z : Bool} {n nq : Nat} (h : Fm B w F bx f wid prec l) (hr : PadRel B w g cap l z n w1) (hg : ∀ cs T, w.heap[g]? = some (.cells cs T (0, 0)) → T = 5) (hB : B ≤ g) :
    Fm B ((w1.setCell ⟨bx, 0, none⟩ (.slice (some ⟨g, 0, none⟩) (l.length + n) cap)).drewN nq) F bx f wid prec (l ++ pads z n) ∧ Below B w ((w1.setCell ⟨bx, 0, none⟩ (.slice (some ⟨g, 0, none⟩) (l.length + n) cap)).drewN nq) := by
  obtain ⟨v, hv, _⟩ := h.box
  obtain ⟨cs, hc⟩ := h.fa.tag
  have hFg : F ≠ g := fun e => absurd (hg _ _ (e ▸ hc)) (by decide)
  have hbg : bx ≠ g := fun e => absurd (hg _ _ (e ▸ hv)) (by decide)
  have hF1 : w1.heap[F]? = w.heap[F]? := hr.2.block F h.fa.lt (by simpa using hFg)
  have hb1 : w1.heap[bx]? = some (.cells #[v] 43 (0, 0)) := by rw [hr.2.block bx (lt_of_block hv) (by simpa using hbg)]; exact hv
  have e : (l ++ pads z n).length = l.length + n := by rw [List.length_append, pads_length]
  have ho := hr.1
  rw [e] at ho
  refine ⟨⟨h.bF, h.bb, h.fa.same ?_, _, one_setCell hb1, ?_⟩, ?_⟩
  · show (w1.setCell _ _).heap[F]? = _
    rw [Below.heap_setCell _ _ _ _ (fun e => h.ne e.symm)]
    exact hF1
  · exact ownsRow_setCell_other ho (by simp [Value.ownBlock]; exact fun e => hbg e.symm) _
  · exact below_drewN ((Below.grown (Below.refl _ _) hr.2 h.size (fun k hk => by simp at hk; omega)).setCell h.bb _) nq

/-- (*formatter).writePadding -/
theorem wpad_any (B : Nat) (w : World) (F bx : Nat) (f : Nat → Bool) (wid prec : Int) (l : List UInt8) (h : Fm B w F bx f wid prec l) (n : Int) (hmax : w.cell? ⟨0, 0, none⟩ = some (.int .i64 2147483647)) (hl : l.length ≤ 4194304) (hn : n ≤ 4194304) :
    Calls Efvg.prog 35 #[.pointer (some ⟨F, 0, none⟩), .int .i64 n] w fun e w' => e = .returned (.tuple #[]) ∧ Fm B w' F bx f wid prec (l ++ pads (f 6) n.toNat) ∧ Below B w w' := by
  by_cases hn0 : n ≤ 0
  · refine (wpad_none _ w n hn0).mono fun e w' ⟨he, hw⟩ => ?_
    subst hw
    have e : l ++ pads (f 6) n.toNat = l := by rw [show n.toNat = 0 by omega]; simp [pads]
    rw [e]
    exact ⟨he, h, Below.refl _ _⟩
  · obtain ⟨m, rfl⟩ : ∃ m : Nat, n = (m : Int) := ⟨n.toNat, by omega⟩
    obtain ⟨v, hv, ho⟩ := h.box
    obtain ⟨cs, hc⟩ := h.fa.tag
    have h7 : w.cell? ⟨F, 7, none⟩ = some (.bool (f 6)) := h.fa.cf 6 (by omega)
    rw [Int.toNat_natCast]
    have grow : ∀ ao cap, v = .slice ao l.length cap → l.length ≤ cap → cap < l.length + m → (0 < (bcs l).length → ∃ ad, ao = some ad ∧ ∀ j v, (bcs l)[j]? = some v → w.cell? (ad.add j) = some v) →
        Calls Efvg.prog 35 #[.pointer (some ⟨F, 0, none⟩), .int .i64 m] w fun e w' => e = .returned (.tuple #[]) ∧ Fm B w' F bx f wid prec (l ++ pads (f 6) m) ∧ Below B w w' := by
      intro ao cap hva h1 h2 h3
      subst hva
      have key : Calls Efvg.prog 35 #[.pointer (some ⟨F, 0, none⟩), .int .i64 m] w fun e w' => e = .returned (.tuple #[]) ∧ ∃ w1 nq, PadRel B w w.heap.size (cap * 2 + m) l (f 6) m w1 ∧ w' = (w1.setCell ⟨bx, 0, none⟩ (.slice (some ⟨w.heap.size, 0, none⟩) (l.length + m) (cap * 2 + m))).drewN nq := by
        cases hz : f 6
        · exact wpad_grow_false B w F bx ao cap l m h.fa.c0 (by rw [h7, hz]) (cell_of_one hv) (free_of_one hv) hmax h3 h.size h.fa.lt (lt_of_block hv) hl (by omega) (by omega) h1 h2
        · exact wpad_grow_true B w F bx ao cap l m h.fa.c0 (by rw [h7, hz]) (cell_of_one hv) (free_of_one hv) hmax h3 h.size h.fa.lt (lt_of_block hv) hl (by omega) (by omega) h1 h2
      refine key.mono fun e w' ⟨he, w1, nq, hr, hw⟩ => ?_
      subst hw
      exact ⟨he, h.padded hr (fun cs T hh => by have := lt_of_block hh; omega) h.size⟩
    rcases ho.2 with ⟨hnil, hl0⟩ | ⟨g, cap, cur, hva, hb, hg, hnc, hm, hs, ht⟩
    · exact grow none 0 (by rw [hnil, hl0]) (by omega) (by omega) (fun hh => by rw [bcs_length] at hh; omega)
    · by_cases hroom : l.length + m ≤ cap
      · subst hva
        have key : Calls Efvg.prog 35 #[.pointer (some ⟨F, 0, none⟩), .int .i64 m] w fun e w' => e = .returned (.tuple #[]) ∧ ∃ w1 nq, PadRel B w g cap l (f 6) m w1 ∧ w' = (w1.setCell ⟨bx, 0, none⟩ (.slice (some ⟨g, 0, none⟩) (l.length + m) cap)).drewN nq := by
          have hFg : F ≠ g := fun e => own_far ho hc (by decide) (by simp [Value.ownBlock, e])
          have hbg : bx ≠ g := fun e => own_far ho hv (by decide) (by simp [Value.ownBlock, e])
          cases hz : f 6
          · exact wpad_room_false B w F bx g cap l m h.fa.c0 (by rw [h7, hz]) (cell_of_one hv) (free_of_one hv) hmax ho hFg hbg h.fa.lt (lt_of_block hv) hl (by omega) (by omega) hroom hm
          · exact wpad_room_true B w F bx g cap l m h.fa.c0 (by rw [h7, hz]) (cell_of_one hv) (free_of_one hv) hmax ho hFg hbg h.fa.lt (lt_of_block hv) hl (by omega) (by omega) hroom hm
        refine key.mono fun e w' ⟨he, w1, nq, hr, hw⟩ => ?_
        subst hw
        exact ⟨he, h.padded hr (fun cs T hh => by rw [hg] at hh; simp at hh; exact hh.2.symm) hb⟩
      · exact grow _ cap hva hnc (by omega) (fun _ => ⟨_, rfl, World.ownsRow.cells ho (by rw [hva]; rfl)⟩)
end Go.Proofs.YoefvwDoor
