/-
  The walks of zzClone, zzEqual.
-/
import Derived.Test.YoefvwProg
import Derived.Test.YoefvwBase
import Derived.BigQuiet
namespace Go.Proofs.Yoefvw
open Go.RowKit

theorem Efvg.info5 : (Efvg.prog.info? 5).map (fun i => (i.zero, i.size, i.bytes)) = some (some (.int .u8 0), 1, 1) := by kernel_rfl

/-- What the loop of zzClone carries: the first k bytes are laid. -/
def CloneRel (w : World) (l : List UInt8) (k : Nat) (wr : World) : Prop :=
  wr.ownsRow w.heap.size 5 1 (.slice (some ⟨w.heap.size, 0, none⟩) l.length l.length) l.length (bcs (l.take k) ++ List.replicate (l.length - k) (.int .u8 0)) ∧ Below w.heap.size w wr

theorem clone_step {w wr : World} {l : List UInt8} {k : Nat} (h : CloneRel w l k wr) (c : UInt8) (hc : l[k]? = some c) :
    CloneRel w l (k + 1) (wr.setCell ⟨w.heap.size, k, none⟩ (.int .u8 c.toNat)) := by
  have hk : k < l.length := (List.getElem?_eq_some_iff.1 hc).1
  refine ⟨?_, h.2.setCell (by simp) _⟩
  have := World.ownsRow.stored h.1 k (.int .u8 c.toNat)
  have e : (bcs (l.take k) ++ List.replicate (l.length - k) (Value.int .u8 0)).set k (.int .u8 c.toNat) = bcs (l.take (k + 1)) ++ List.replicate (l.length - (k + 1)) (.int .u8 0) := by
    have e1 : l.length - k = (l.length - (k + 1)) + 1 := by omega
    have e2 : l.take (k + 1) = l.take k ++ [c] := by
      rw [List.take_succ_eq_append_getElem hk]
      rw [List.getElem?_eq_getElem hk] at hc
      simp at hc
      rw [hc]
    rw [e1, List.replicate_succ, e2, bcs_append, bcs_one, List.append_assoc]
    rw [List.set_append_right _ _ (by rw [bcs_length]; simp; omega)]
    have e3 : k - (bcs (l.take k)).length = 0 := by rw [bcs_length]; simp; omega
    rw [e3]; rfl
  rw [e] at this
  exact this.1

set_option maxHeartbeats 400000 in
theorem clone_some (a : Addr) (l : List UInt8) (cap : Nat) (w : World) (hl : l.length ≤ 1048576)
    (hc : 0 < l.length → ∃ b off, a = ⟨b, off, none⟩ ∧ b < w.heap.size ∧ ∀ i c, l[i]? = some c → w.cell? ⟨b, off + i, none⟩ = some (.int .u8 c.toNat)) :
    Calls Efvg.prog 5 #[.slice (some a) l.length cap] w fun e w' => e = .returned (.slice (some ⟨w.heap.size, 0, none⟩) l.length l.length) ∧ Own w.heap.size w' (.slice (some ⟨w.heap.size, 0, none⟩) l.length l.length) l ∧ Below w.heap.size w w' := by
  obtain ⟨i0, hi, hz0, hz1, hz2⟩ := info_parts Efvg.info5
  have q23 : ∀ (w : World) (a : Option Addr) (n c n' c' : Nat), (binOp .eql 23 (.slice a n c) (.slice none n' c')).run Efvg.prog w = .ok (.bool a.isNone) w := fun w a n c n' c' => Lib.run_eql_slice_nil w _ _ a n c n' c' Efvg.underlying23
  go_enter Efvg.func5, Efvg.ntmps5
  go_wp2_with (at_make; refine wpList_make_full _ rfl _ _ 23 rfl w.heap.size 5 i0 (.int .u8 0) 1 Efvg.underlying23 hi hz0 hz1 _ _ _ _ l.length rfl rfl (by omega) (by omega) (by rw [hz2]; omega) (by unfold maxLen; omega) (by omega) ?_; intro w1 hown hgrow)
  have h0 : CloneRel w l 0 w1 := by
    refine ⟨?_, Below.of_grown hgrow⟩
    have hm := toList_madeCells_one (.int .u8 0) l.length
    have hcs : (Value.int IntKind.u8 0).cells = #[.int .u8 0] := rfl
    rw [hcs, Nat.mul_one, hm] at hown
    simpa [bcs] using hown
  clear hown hgrow
  go_loopw [4] (fun i wr => ∃ k : Nat, k ≤ l.length ∧ i = .int .i64 k ∧ CloneRel w l k wr) (fun i _ => l.length - (intOf i).toNat)
  case atStart => exact ⟨0, Nat.zero_le _, rfl, h0⟩
  case round =>
    obtain ⟨k, hk, rfl, hrel⟩ := hrel
    clear h0
    by_cases hlt : k < l.length
    · obtain ⟨b, off, rfl, hb, hcell⟩ := hc (by omega)
      have hlk : l[k]? = some l[k] := List.getElem?_eq_getElem hlt
      have hstep := hide (clone_step hrel _ hlk)
      have hck : wr.cell? ⟨b, off + k, none⟩ = some (.int .u8 l[k].toNat) := (hrel.2.cell (by exact hb)).trans (hcell k _ hlk)
      have hw1 : wr.cell? ⟨w.heap.size, k, none⟩ = some (((bcs (l.take k) ++ List.replicate (l.length - k) (.int .u8 0))[k]?).getD undef) := by
        rw [World.ownsRow.cellAt hrel.1 k (by omega)]
        have : k < (bcs (l.take k) ++ List.replicate (l.length - k) (Value.int .u8 0)).length := by rw [List.length_append, bcs_length]; simp; omega
        rw [List.getElem?_eq_getElem this]; rfl
      generalize ((bcs (l.take k) ++ List.replicate (l.length - k) (Value.int .u8 0))[k]?).getD undef = old at hw1
      have hfr := World.ownsRow.frozenAt hrel.1 k
      generalize l[k] = c at *
      clear hcell hc hlk hrel
      go_wp2
      go_roundw
      case rel => exact ⟨k + 1, by omega, by go_num, unhide hstep⟩
      case measure => simp [intOf]; omega
    · have hkl : k = l.length := by omega
      subst hkl
      clear hc
      go_wp2
      go_ret
      refine ⟨rfl, ?_, hrel.2⟩
      have := hrel.1
      simpa [Own] using this

set_option maxHeartbeats 400000 in
theorem clone_nil (w : World) :
    Calls Efvg.prog 5 #[.slice none 0 0] w fun e w' => e = .returned (.slice none 0 0) ∧ w' = w := by
  have q23 : ∀ (w : World) (a : Option Addr) (n c n' c' : Nat), (binOp .eql 23 (.slice a n c) (.slice none n' c')).run Efvg.prog w = .ok (.bool a.isNone) w := fun w a n c n' c' => Lib.run_eql_slice_nil w _ _ a n c n' c' Efvg.underlying23
  go_enter Efvg.func5, Efvg.ntmps5
  go_wp2
  go_ret
  exact ⟨rfl, rfl⟩

/-- zzClone: a new row of the same bytes; nothing that was there has turned. -/
theorem clone_any (v : Value) (l : List UInt8) (w : World) (hr : Reads w v l) (hl : l.length ≤ 1048576) :
    Calls Efvg.prog 5 #[v] w fun e w' => ∃ v', e = .returned v' ∧ Own w.heap.size w' v' l ∧ Below w.heap.size w w' := by
  rcases hr.shape with ⟨rfl, rfl⟩ | ⟨a, cap, rfl, _, rfl⟩ | ⟨b, off, cap, rfl, h0, _, _, hb, hc⟩
  · exact (clone_nil w).mono fun e w' ⟨he, hw⟩ => ⟨_, he, by subst hw; exact World.ownsRow_nil _ _ _ _, by subst hw; exact Below.refl _ _⟩
  · exact (clone_some a [] cap w (by simp) (by simp)).mono fun e w' ⟨he, hw⟩ => ⟨_, he, hw⟩
  · exact (clone_some _ l cap w hl (fun _ => ⟨b, off, rfl, hb, hc⟩)).mono fun e w' ⟨he, hw⟩ => ⟨_, he, hw⟩

set_option maxHeartbeats 400000 in
theorem equal_core (a1 a2 : Option Addr) (c1 c2 : Nat) (l : List UInt8) (w : World) (hl : l.length ≤ 4194304)
    (hc : 0 < l.length → ∃ b1 o1 b2 o2, a1 = some ⟨b1, o1, none⟩ ∧ a2 = some ⟨b2, o2, none⟩ ∧ (∀ i c, l[i]? = some c → w.cell? ⟨b1, o1 + i, none⟩ = some (.int .u8 c.toNat)) ∧ ∀ i c, l[i]? = some c → w.cell? ⟨b2, o2 + i, none⟩ = some (.int .u8 c.toNat)) :
    Calls Efvg.prog 15 #[.slice a1 l.length c1, .slice a2 l.length c2] w fun e w' => e = .returned (.bool true) ∧ ∃ n, w' = w.drewN n := by
  have hnn : ((l.length : Int) != (l.length : Int)) = false := by simp
  go_enter Efvg.func15, Efvg.ntmps15
  go_wp2
  go_loopw [5] (fun i wr => ∃ k n : Nat, k ≤ l.length ∧ i = .int .i64 k ∧ wr = w.drewN n) (fun i _ => l.length - (intOf i).toNat)
  case atStart => exact ⟨0, 0, Nat.zero_le _, rfl, rfl⟩
  case round =>
    obtain ⟨k, n, hk, rfl, rfl⟩ := hrel
    by_cases hlt : k < l.length
    · obtain ⟨b1, o1, b2, o2, rfl, rfl, h1, h2⟩ := hc (by omega)
      have hlk : l[k]? = some l[k] := List.getElem?_eq_getElem hlt
      have g1 := h1 k _ hlk
      have g2 := h2 k _ hlk
      generalize l[k] = c at *
      have hcc : ((c.toNat : Int) != (c.toNat : Int)) = false := by simp
      clear h1 h2 hlk hc
      go_wp2
      go_quiet (fail)
      go_wp2
      go_roundw
      case rel => exact ⟨k + 1, _, by omega, by go_num, rfl⟩
      case measure => simp [intOf]; omega
    · clear hc
      go_wp2
      go_ret
      exact ⟨rfl, n, rfl⟩

/-- zzEqual at two slices that read as the same bytes: true; nothing has turned. -/
theorem equal_any (v1 v2 : Value) (l : List UInt8) (w : World) (h1 : Reads w v1 l) (h2 : Reads w v2 l) (hl : l.length ≤ 4194304) :
    Calls Efvg.prog 15 #[v1, v2] w fun e w' => e = .returned (.bool true) ∧ Below w.heap.size w w' := by
  have form : ∀ v, Reads w v l → ∃ a c, v = .slice a l.length c ∧ (0 < l.length → ∃ b o, a = some ⟨b, o, none⟩ ∧ ∀ i c, l[i]? = some c → w.cell? ⟨b, o + i, none⟩ = some (.int .u8 c.toNat)) := by
    intro v hv
    rcases hv.shape with ⟨rfl, rfl⟩ | ⟨a, cap, rfl, _, rfl⟩ | ⟨b, off, cap, rfl, h0, _, _, hb, hc⟩
    · exact ⟨none, 0, rfl, by simp⟩
    · exact ⟨some a, cap, rfl, by simp⟩
    · exact ⟨_, cap, rfl, fun _ => ⟨b, off, rfl, hc⟩⟩
  obtain ⟨a1, c1, rfl, k1⟩ := form v1 h1
  obtain ⟨a2, c2, rfl, k2⟩ := form v2 h2
  refine (equal_core a1 a2 c1 c2 l w hl (fun h => ?_)).mono fun e w' ⟨he, n, hw⟩ => ⟨he, by subst hw; exact below_drewN (Below.refl _ _) n⟩
  obtain ⟨b1, o1, e1, g1⟩ := k1 h
  obtain ⟨b2, o2, e2, g2⟩ := k2 h
  exact ⟨b1, o1, b2, o2, e1, e2, g1, g2⟩
end Go.Proofs.Yoefvw
