/-
  The walks of zzClone, zzEqual, zzAppendPadding.
-/
import Derived.Test.YoefvwDoorProg
import Derived.Test.YoefvwDoorBase
import Derived.BigQuiet
namespace Go.Proofs.YoefvwDoor
open Go.RowKit

theorem Efvg.info5 : (Efvg.prog.info? 5).map (fun i => (i.zero, i.size, i.bytes)) = some (some (.int .u8 0), 1, 1) := by kernel_rfl

/-- What the loop of zzClone carries: the first k bytes are laid. -/
def CloneRel (w : World) (l : List UInt8) (k : Nat) (wr : World) : Prop :=
  wr.ownsRow w.heap.size 5 1 (.slice (some ⟨w.heap.size, 0, none⟩) l.length l.length) l.length (bcs (l.take k) ++ List.replicate (l.length - k) (.int .u8 0)) ∧ Below w.heap.size w wr

theorem clone_step {w wr : World} {l : List UInt8} {k : Nat} (h : CloneRel w l k wr) (c : UInt8) (hc : l[k]? = some c) :
    CloneRel w l (k + 1) (wr.setCell ⟨w.heap.size, k, none⟩ (.int .u8 c.toNat)) := by
  have hk : k < l.length := (List.getElem?_eq_some_iff.1 hc).1
  refine ⟨?_, h.2.setCell (by simp) _⟩
  have := World.ownsRow.stored h.1 k (.int .u8 c.toNat)
  have e : (bcs (l.take k) ++ List.replicate (l.length - k) (Value.int .u8 0)).set k (.int .u8 c.toNat) = bcs (l.take (k + 1)) ++ List.replicate (l.length - (k + 1)) (.int .u8 0) := by
    have e1 : l.length - k = (l.length - (k + 1)) + 1 := by omega
    have e2 : l.take (k + 1) = l.take k ++ [c] := by
      rw [List.take_succ_eq_append_getElem hk]
      rw [List.getElem?_eq_getElem hk] at hc
      simp at hc
      rw [hc]
    rw [e1, List.replicate_succ, e2, bcs_append, bcs_one, List.append_assoc]
    rw [List.set_append_right _ _ (by rw [bcs_length]; simp; omega)]
    have e3 : k - (bcs (l.take k)).length = 0 := by rw [bcs_length]; simp; omega
    rw [e3]; rfl
  rw [e] at this
  exact this.1

set_option maxHeartbeats 400000 in
theorem clone_some (a : Addr) (l : List UInt8) (cap : Nat) (w : World) (hl : l.length ≤ 1048576)
    (hc : 0 < l.length → ∃ b off, a = ⟨b, off, none⟩ ∧ b < w.heap.size ∧ ∀ i c, l[i]? = some c → w.cell? ⟨b, off + i, none⟩ = some (.int .u8 c.toNat)) :
    Calls Efvg.prog 11 #[.slice (some a) l.length cap] w fun e w' => e = .returned (.slice (some ⟨w.heap.size, 0, none⟩) l.length l.length) ∧ Own w.heap.size w' (.slice (some ⟨w.heap.size, 0, none⟩) l.length l.length) l ∧ Below w.heap.size w w' := by
  obtain ⟨i0, hi, hz0, hz1, hz2⟩ := info_parts Efvg.info5
  have q23 : ∀ (w : World) (a : Option Addr) (n c n' c' : Nat), (binOp .eql 23 (.slice a n c) (.slice none n' c')).run Efvg.prog w = .ok (.bool a.isNone) w := fun w a n c n' c' => Lib.run_eql_slice_nil w _ _ a n c n' c' Efvg.underlying23
  go_enter Efvg.func11, Efvg.ntmps11
  go_wp2_with (at_make; refine wpList_make_full _ rfl _ _ 23 rfl w.heap.size 5 i0 (.int .u8 0) 1 Efvg.underlying23 hi hz0 hz1 _ _ _ _ l.length rfl rfl (by omega) (by omega) (by rw [hz2]; omega) (by unfold maxLen; omega) (by omega) ?_; intro w1 hown hgrow)
  have h0 : CloneRel w l 0 w1 := by
    refine ⟨?_, Below.of_grown hgrow⟩
    have hm := toList_madeCells_one (.int .u8 0) l.length
    have hcs : (Value.int IntKind.u8 0).cells = #[.int .u8 0] := rfl
    rw [hcs, Nat.mul_one, hm] at hown
    simpa [bcs] using hown
  clear hown hgrow
  go_loopw [4] (fun i wr => ∃ k : Nat, k ≤ l.length ∧ i = .int .i64 k ∧ CloneRel w l k wr) (fun i _ => l.length - (intOf i).toNat)
  case atStart => exact ⟨0, Nat.zero_le _, rfl, h0⟩
  case round =>
    obtain ⟨k, hk, rfl, hrel⟩ := hrel
    clear h0
    by_cases hlt : k < l.length
    · obtain ⟨b, off, rfl, hb, hcell⟩ := hc (by omega)
      have hlk : l[k]? = some l[k] := List.getElem?_eq_getElem hlt
      have hstep := hide (clone_step hrel _ hlk)
      have hck : wr.cell? ⟨b, off + k, none⟩ = some (.int .u8 l[k].toNat) := (hrel.2.cell (by exact hb)).trans (hcell k _ hlk)
      have hw1 : wr.cell? ⟨w.heap.size, k, none⟩ = some (((bcs (l.take k) ++ List.replicate (l.length - k) (.int .u8 0))[k]?).getD undef) := by
        rw [World.ownsRow.cellAt hrel.1 k (by omega)]
        have : k < (bcs (l.take k) ++ List.replicate (l.length - k) (Value.int .u8 0)).length := by rw [List.length_append, bcs_length]; simp; omega
        rw [List.getElem?_eq_getElem this]; rfl
      generalize ((bcs (l.take k) ++ List.replicate (l.length - k) (Value.int .u8 0))[k]?).getD undef = old at hw1
      have hfr := World.ownsRow.frozenAt hrel.1 k
      generalize l[k] = c at *
      clear hcell hc hlk hrel
      go_wp2
      go_roundw
      case rel => exact ⟨k + 1, by omega, by go_num, unhide hstep⟩
      case measure => simp [intOf]; omega
    · have hkl : k = l.length := by omega
      subst hkl
      clear hc
      go_wp2
      go_ret
      refine ⟨rfl, ?_, hrel.2⟩
      have := hrel.1
      simpa [Own] using this

set_option maxHeartbeats 400000 in
theorem clone_nil (w : World) :
    Calls Efvg.prog 11 #[.slice none 0 0] w fun e w' => e = .returned (.slice none 0 0) ∧ w' = w := by
  have q23 : ∀ (w : World) (a : Option Addr) (n c n' c' : Nat), (binOp .eql 23 (.slice a n c) (.slice none n' c')).run Efvg.prog w = .ok (.bool a.isNone) w := fun w a n c n' c' => Lib.run_eql_slice_nil w _ _ a n c n' c' Efvg.underlying23
  go_enter Efvg.func11, Efvg.ntmps11
  go_wp2
  go_ret
  exact ⟨rfl, rfl⟩

/-- zzClone: a new row of the same bytes; nothing that was there has turned. -/
theorem clone_any (v : Value) (l : List UInt8) (w : World) (hr : Reads w v l) (hl : l.length ≤ 1048576) :
    Calls Efvg.prog 11 #[v] w fun e w' => ∃ v', e = .returned v' ∧ Own w.heap.size w' v' l ∧ Below w.heap.size w w' := by
  rcases hr.shape with ⟨rfl, rfl⟩ | ⟨a, cap, rfl, _, rfl⟩ | ⟨b, off, cap, rfl, h0, _, _, hb, hc⟩
  · exact (clone_nil w).mono fun e w' ⟨he, hw⟩ => ⟨_, he, by subst hw; exact World.ownsRow_nil _ _ _ _, by subst hw; exact Below.refl _ _⟩
  · exact (clone_some a [] cap w (by simp) (by simp)).mono fun e w' ⟨he, hw⟩ => ⟨_, he, hw⟩
  · exact (clone_some _ l cap w hl (fun _ => ⟨b, off, rfl, hb, hc⟩)).mono fun e w' ⟨he, hw⟩ => ⟨_, he, hw⟩

set_option maxHeartbeats 400000 in
theorem equal_core (a1 a2 : Option Addr) (c1 c2 : Nat) (l : List UInt8) (w : World) (hl : l.length ≤ 4194304)
    (hc : 0 < l.length → ∃ b1 o1 b2 o2, a1 = some ⟨b1, o1, none⟩ ∧ a2 = some ⟨b2, o2, none⟩ ∧ (∀ i c, l[i]? = some c → w.cell? ⟨b1, o1 + i, none⟩ = some (.int .u8 c.toNat)) ∧ ∀ i c, l[i]? = some c → w.cell? ⟨b2, o2 + i, none⟩ = some (.int .u8 c.toNat)) :
    Calls Efvg.prog 18 #[.slice a1 l.length c1, .slice a2 l.length c2] w fun e w' => e = .returned (.bool true) ∧ ∃ n, w' = w.drewN n := by
  have hnn : ((l.length : Int) != (l.length : Int)) = false := by simp
  go_enter Efvg.func18, Efvg.ntmps18
  go_wp2
  go_loopw [5] (fun i wr => ∃ k n : Nat, k ≤ l.length ∧ i = .int .i64 k ∧ wr = w.drewN n) (fun i _ => l.length - (intOf i).toNat)
  case atStart => exact ⟨0, 0, Nat.zero_le _, rfl, rfl⟩
  case round =>
    obtain ⟨k, n, hk, rfl, rfl⟩ := hrel
    by_cases hlt : k < l.length
    · obtain ⟨b1, o1, b2, o2, rfl, rfl, h1, h2⟩ := hc (by omega)
      have hlk : l[k]? = some l[k] := List.getElem?_eq_getElem hlt
      have g1 := h1 k _ hlk
      have g2 := h2 k _ hlk
      generalize l[k] = c at *
      have hcc : ((c.toNat : Int) != (c.toNat : Int)) = false := by simp
      clear h1 h2 hlk hc
      go_wp2
      go_quiet (fail)
      go_wp2
      go_roundw
      case rel => exact ⟨k + 1, _, by omega, by go_num, rfl⟩
      case measure => simp [intOf]; omega
    · clear hc
      go_wp2
      go_ret
      exact ⟨rfl, n, rfl⟩

/-- zzEqual at two slices that read as the same bytes: true; nothing has turned. -/
theorem equal_any (v1 v2 : Value) (l : List UInt8) (w : World) (h1 : Reads w v1 l) (h2 : Reads w v2 l) (hl : l.length ≤ 4194304) :
    Calls Efvg.prog 18 #[v1, v2] w fun e w' => e = .returned (.bool true) ∧ Below w.heap.size w w' := by
  have form : ∀ v, Reads w v l → ∃ a c, v = .slice a l.length c ∧ (0 < l.length → ∃ b o, a = some ⟨b, o, none⟩ ∧ ∀ i c, l[i]? = some c → w.cell? ⟨b, o + i, none⟩ = some (.int .u8 c.toNat)) := by
    intro v hv
    rcases hv.shape with ⟨rfl, rfl⟩ | ⟨a, cap, rfl, _, rfl⟩ | ⟨b, off, cap, rfl, h0, _, _, hb, hc⟩
    · exact ⟨none, 0, rfl, by simp⟩
    · exact ⟨some a, cap, rfl, by simp⟩
    · exact ⟨_, cap, rfl, fun _ => ⟨b, off, rfl, hc⟩⟩
  obtain ⟨a1, c1, rfl, k1⟩ := form v1 h1
  obtain ⟨a2, c2, rfl, k2⟩ := form v2 h2
  refine (equal_core a1 a2 c1 c2 l w hl (fun h => ?_)).mono fun e w' ⟨he, n, hw⟩ => ⟨he, by subst hw; exact below_drewN (Below.refl _ _) n⟩
  obtain ⟨b1, o1, e1, g1⟩ := k1 h
  obtain ⟨b2, o2, e2, g2⟩ := k2 h
  exact ⟨b1, o1, b2, o2, e1, e2, g1, g2⟩

/-- The padding byte. -/
def padB (z : Bool) : UInt8 := if z then 48 else 32
theorem padB_val (z : Bool) : Value.int .u8 (padB z).toNat = .int .u8 (if z then 48 else 32) := by cases z <;> rfl
def pads (z : Bool) (n : Nat) : List UInt8 := List.replicate n (padB z)
theorem pads_succ (z : Bool) (n : Nat) : pads z (n + 1) = pads z n ++ [padB z] := by simp [pads, List.replicate_succ']
theorem pads_length (z : Bool) (n : Nat) : (pads z n).length = n := by simp [pads]
theorem pads_add (z : Bool) (n m : Nat) : pads z (n + m) = pads z n ++ pads z m := by simp [pads]

theorem own_snoc {B : Nat} {w1 : World} {v' : Value} {l : List UInt8} {c : UInt8} (h : w1.ownsRow B 5 1 v' (l.length + 1) (bcs l ++ [Value.int .u8 c.toNat])) : Own B w1 v' (l ++ [c]) := by
  unfold Own
  rw [bcs_append, bcs_one, List.length_append]
  exact h

/-- zzPadByte. -/
theorem padByte_any (z : Bool) (w : World) : Calls Efvg.prog 34 #[.bool z] w fun e w' => e = .returned (.int .u8 (padB z).toNat) ∧ w = w' := by
  cases z
  all_goals
    go_enter Efvg.func34, Efvg.ntmps34
    go_wp2
    go_ret
    exact ⟨rfl, rfl⟩

set_option maxHeartbeats 400000 in
/-- zzAppendPadding: n bytes of padding more. -/
theorem appendPadding_any (B : Nat) (v : Value) (l : List UInt8) (n : Int) (z : Bool) (w : World) (hown : Own B w v l) (hB : B ≤ w.heap.size) (hl : l.length ≤ 4194304) (hn : n ≤ 4194304) :
    Calls Efvg.prog 21 #[v, .int .i64 n, .bool z] w fun e w' => ∃ v', e = .returned v' ∧ Own B w' v' (l ++ pads z n.toNat) ∧ Below B w w' := by
  obtain ⟨i0, hi, hz0, hz1, hz2⟩ := info_parts Efvg.info5
  go_enter Efvg.func21, Efvg.ntmps21
  go_wp2_with (go_at_call 34; refine (padByte_any _ _).mono ?_; rintro e w' ⟨rfl, rfl⟩)
  generalize hp : padB z = c
  have Hp := hide hp
  clear hp
  go_loopw [0, 8] (fun x i wr => ∃ k : Nat, (k : Int) ≤ max n 0 ∧ i = .int .i64 k ∧ Own B wr x (l ++ pads z k) ∧ Below B w wr) (fun _ i _ => n.toNat - (intOf i).toNat)
  case atStart => exact ⟨0, by omega, rfl, by simpa [pads] using hown, Below.refl _ _⟩
  case round =>
    obtain ⟨k, hk, rfl, ho, hb⟩ := hrel
    have hsz := hb.size
    by_cases hlt : (k : Int) < n
    · have hlen : (l ++ pads z k).length ≤ 8388608 := by rw [List.length_append, pads_length]; omega
      have hsn : pads z (k + 1) = pads z k ++ [c] := by rw [pads_succ, unhide Hp]
      have Hs := hide hsn
      clear hsn hown
      generalize hL : l ++ pads z k = L at *
      have HL := hide hL
      clear hL
      have ho' := hide ho
      clear ho
      go_wp2_with (at_builtin; refine wpList_append_own _ rfl (.tmp 16) (.tmp 18) 23 rfl B 5 i0 (.int .u8 0) 1 1 Efvg.underlying23 hi hz0 hz1 hz2 rfl (by decide) _ L.length (bcs L) rfl ((unhide ho').alloc _) ⟨wr.heap.size, 0, none⟩ 1 1 [.int .u8 c.toNat] rfl rfl (cell_one_new _ _ _) (by intro u hu; simp at hu; subst hu; rfl) (by unfold maxLen; omega) (by omega) (by simp; omega) ?_; intro v' w1 hown' hgrow _)
      have hnew : Own B w1 v' (l ++ pads z (k + 1)) := by
        rw [unhide Hs, ← List.append_assoc, unhide HL]
        exact own_snoc hown'
      have hbel : Below B w w1 := (hb.alloc (by omega) _).grown hgrow (by simp; omega) (fun j hj => ((unhide ho').lt j hj).1)
      have Hn := hide hnew
      clear hnew hown' hgrow ho'
      go_wp2
      go_roundw
      case rel => exact ⟨k + 1, by omega, by go_num, unhide Hn, hbel⟩
      case measure => simp [intOf]; omega
    · go_wp2
      go_ret
      have : n.toNat = k := by omega
      rw [this]
      exact ⟨_, rfl, ho, hb⟩
end Go.Proofs.YoefvwDoor
