/-
  The walks of (*formatter).padString and (*formatter).pad.
-/
import Derived.Test.YoefvwDoorBuf
import Derived.Test.YoefvwDoorRune
import Derived.Deep.RegionHeld3
namespace Go.Proofs.YoefvwDoor
open Go.RowKit

theorem Fm.wrote {B : Nat} {w w1 : World} {F bx : Nat} {f : Nat → Bool} {wid prec : Int} {l l' : List UInt8} {v v' : Value} (h : Fm B w F bx f wid prec l) (hv : w.heap[bx]? = some (.cells #[v] 43 (0, 0))) (ho : Own B w v l)
    (ho1 : Own B w1 v' l') (hg : w.grownBy w1 v.ownBlock) : Fm B (w1.setCell ⟨bx, 0, none⟩ v') F bx f wid prec l' ∧ Below B w (w1.setCell ⟨bx, 0, none⟩ v') := by
  obtain ⟨cs, hc⟩ := h.fa.tag
  have hFg : some F ≠ v.ownBlock := fun e => own_far ho hc (by decide) e.symm
  have hbg : some bx ≠ v.ownBlock := fun e => own_far ho hv (by decide) e.symm
  have hF1 : w1.heap[F]? = w.heap[F]? := hg.block F h.fa.lt hFg
  have hb1 : w1.heap[bx]? = some (.cells #[v] 43 (0, 0)) := by rw [hg.block bx (lt_of_block hv) hbg]; exact hv
  refine ⟨⟨h.bF, h.bb, h.fa.same ?_, _, one_setCell hb1, ?_⟩, ?_⟩
  · rw [Below.heap_setCell _ _ _ _ (fun e => h.ne e.symm)]
    exact hF1
  · exact ownsRow_setCell_other ho1 (own_far ho1 hb1 (by decide)) _
  · exact (Below.grown (Below.refl _ _) hg h.size (fun k hk => (World.ownsRow.lt ho k hk).1)).setCell h.bb _

theorem writeStr_any (B : Nat) (w : World) (F bx : Nat) (f : Nat → Bool) (wid prec : Int) (l : List UInt8) (h : Fm B w F bx f wid prec l) (s : ByteArray) (hmax : w.cell? ⟨0, 0, none⟩ = some (.int .i64 2147483647)) (hl : l.length ≤ 4194304) (hs : s.size ≤ 4194304) :
    Calls Efvg.prog 38 #[.pointer (some ⟨bx, 0, none⟩), .string s] w fun e w' => e = .returned (.tuple #[]) ∧ Fm B w' F bx f wid prec (l ++ s.data.toList) ∧ Below B w w' := by
  obtain ⟨v, hv, ho⟩ := h.box
  obtain ⟨ao, c, rfl⟩ := own_slice ho
  refine (writeStr_core B w bx ao c l s (cell_of_one hv) (free_of_one hv) (fun e => own_far ho hv (by decide) e.symm) (lt_of_block hv) hmax ho h.size hl hs).mono ?_
  rintro e w' ⟨he, v', w1, h1, h2, rfl⟩
  exact ⟨he, h.wrote hv ho h1 h2⟩

theorem write_any (B : Nat) (w : World) (F bx : Nat) (f : Nat → Bool) (wid prec : Int) (l : List UInt8) (h : Fm B w F bx f wid prec l) (v : Value) (m : List UInt8) (hr : Reads w v m) (hmax : w.cell? ⟨0, 0, none⟩ = some (.int .i64 2147483647)) (hl : l.length ≤ 4194304) (hs : m.length ≤ 4194304) :
    Calls Efvg.prog 41 #[.pointer (some ⟨bx, 0, none⟩), v] w fun e w' => e = .returned (.tuple #[]) ∧ Fm B w' F bx f wid prec (l ++ m) ∧ Below B w w' := by
  obtain ⟨u, hv, ho⟩ := h.box
  obtain ⟨ao, c, rfl⟩ := own_slice ho
  obtain ⟨ap, cp, rfl⟩ := hr.slice
  refine (write_core B w bx ao c l ap cp m (cell_of_one hv) (free_of_one hv) (fun e => own_far ho hv (by decide) e.symm) (lt_of_block hv) hmax ho h.size hl hs hr).mono ?_
  rintro e w' ⟨he, v', w1, h1, h2, rfl⟩
  exact ⟨he, h.wrote hv ho h1 h2⟩

/-- How many bytes of padding stand beside s. -/
def padN (wp : Bool) (wid : Int) (s : List UInt8) : Nat := if wp = true ∧ wid ≠ 0 then (wid - Lib.runeCount (strOf s)).toNat else 0
/-- What padString appends. -/
def padded (wp mi ze : Bool) (wid : Int) (s : List UInt8) : List UInt8 := if mi then s ++ pads ze (padN wp wid s) else pads ze (padN wp wid s) ++ s

theorem runeStr_below (s : ByteArray) (w : World) (hs : s.size ≤ 4194304) :
    Calls Efvg.prog 39 #[.string s] w fun e w' => e = .returned (.int .i64 (Lib.runeCount s)) ∧ Below w.heap.size w w' :=
  (runeCountStr_any s w hs).mono fun e w' ⟨he, pos, hw⟩ => ⟨he, by subst hw; exact below_iter _ _ _⟩

set_option maxHeartbeats 800000 in
/-- padString where no width is set: the string alone. -/
theorem padString_plain (B : Nat) (w : World) (F bx : Nat) (f : Nat → Bool) (wid prec : Int) (l : List UInt8) (h : Fm B w F bx f wid prec l) (s : ByteArray) (hmax : w.cell? ⟨0, 0, none⟩ = some (.int .i64 2147483647)) (hl : l.length ≤ 4194304) (hs : s.size ≤ 4194304)
    (hw : ¬ (f 0 = true ∧ wid ≠ 0)) :
    Calls Efvg.prog 33 #[.pointer (some ⟨F, 0, none⟩), .string s] w fun e w' => e = .returned (.tuple #[]) ∧ Fm B w' F bx f wid prec (l ++ s.data.toList) ∧ Below B w w' := by
  have c0 := h.fa.c0
  have c1 : w.cell? ⟨F, 1, none⟩ = some (.bool (f 0)) := h.fa.cf 0 (by omega)
  have c13 := h.fa.cw
  have K := hide (writeStr_any B w F bx f wid prec l h s hmax hl hs)
  clear h hmax
  cases hf : f 0
  · rw [hf] at c1
    clear hf hw
    go_enter Efvg.func33, Efvg.ntmps33
    go_wp2_with (go_at_call 38; refine (unhide K).mono ?_; rintro e w' ⟨rfl, hh⟩)
    (try simp only [Exit.inBlock, Exit.then])
    refine bodyPost_ret (results_none rfl _ _ _) rfl ?_
    exact ⟨rfl, hh⟩
  · rw [hf] at c1
    obtain rfl : wid = 0 := by
      by_cases e : wid = 0
      · exact e
      · exact absurd ⟨hf, e⟩ hw
    clear hf hw
    go_enter Efvg.func33, Efvg.ntmps33
    go_wp2_with (go_at_call 38; refine (unhide K).mono ?_; rintro e w' ⟨rfl, hh⟩)
    (try simp only [Exit.inBlock, Exit.then])
    refine bodyPost_ret (results_none rfl _ _ _) rfl ?_
    exact ⟨rfl, hh⟩

set_option maxHeartbeats 800000 in
theorem padString_wide (B : Nat) (w : World) (F bx : Nat) (f : Nat → Bool) (wid prec : Int) (l : List UInt8) (h : Fm B w F bx f wid prec l) (s : ByteArray) (hmax : w.cell? ⟨0, 0, none⟩ = some (.int .i64 2147483647)) (hl : l.length ≤ 2097152) (hs : s.size ≤ 2097152)
    (hw : f 0 = true) (hw0 : (wid == 0) = false) (hw1 : -65536 ≤ wid) (hw2 : wid ≤ 65536) (h0B : 0 < B) :
    Calls Efvg.prog 33 #[.pointer (some ⟨F, 0, none⟩), .string s] w fun e w' => e = .returned (.tuple #[]) ∧ Fm B w' F bx f wid prec (l ++ padded (f 0) (f 2) (f 6) wid s.data.toList) ∧ Below B w w' := by
  have c0 := h.fa.c0
  have c1 : w.cell? ⟨F, 1, none⟩ = some (.bool true) := by rw [← hw]; exact h.fa.cf 0 (by omega)
  have c3 : w.cell? ⟨F, 3, none⟩ = some (.bool (f 2)) := h.fa.cf 2 (by omega)
  have c13 := h.fa.cw
  have hFs := h.fa.lt
  have h0s := World.block_lt_of_cell? w _ hmax
  have Hh := hide h
  have hle := Lib.runeCount_le s
  have KR := hide (fun W => runeStr_below s W (by omega))
  clear h
  have hpn : padN (f 0) wid s.data.toList = (wid - Lib.runeCount s).toNat := by
    unfold padN
    rw [strOf_self, if_pos ⟨hw, by simpa using hw0⟩]
  have Hpn := hide hpn
  clear hpn
  generalize Lib.runeCount s = rc at hle KR Hpn
  have hwr : IntKind.i64.wrap (wid - (rc : Int)) = wid - rc := by rw [IntKind.wrap_i64]; omega
  go_enter Efvg.func33, Efvg.ntmps33
  go_wp2_with fail
  go_region_held3 (fun w' => w'.cell? ⟨F, 13, none⟩ = some (.int .i64 wid)) (first | go_keep | (rw [hb1.cell (by first | exact hFs | (simp; omega))]; go_keep)) ((go_at_call 39; refine (unhide KR _).mono ?_; rintro e w1 ⟨rfl, hb1⟩))
  have hb : Below w.heap.size w w1 := ⟨hb1.os, hb1.tape, hb1.output, hb1.size, hb1.block⟩
  have hf1 := (unhide Hh).below hb (Nat.le_refl _)
  have hm1 : w1.cell? ⟨0, 0, none⟩ = some (.int .i64 2147483647) := (hb.cell (p := ⟨0, 0, none⟩) h0s).trans hmax
  have k0 := hf1.fa.c0
  have k3 : w1.cell? ⟨F, 3, none⟩ = some (.bool (f 2)) := hf1.fa.cf 2 (by omega)
  have hbB : Below B w w1 := hb.mono (unhide Hh).size
  have Hf1 := hide hf1
  clear hb1 hf1 hwr c0 c1 c3 c13
  cases hmi : f 2
  · rw [hmi] at k3
    have Hmi := hide hmi
    clear hmi
    go_wp2_with fail
    refine (wpad_any _ _ _ _ _ _ _ _ (unhide Hf1) (wid - rc) hm1 (by omega) (by omega)).mono ?_
    rintro e w2 ⟨rfl, hf2, hb2⟩
    have j0 := hf2.fa.c0
    have hm2 := (hb2.cell (p := ⟨0, 0, none⟩) h0B).trans hm1
    have Hf2 := hide hf2
    clear hf2
    go_wp2_with fail
    refine (writeStr_any _ _ _ _ _ _ _ _ (unhide Hf2) s hm2 (by rw [List.length_append, pads_length]; omega) (by omega)).mono ?_
    rintro e w3 ⟨rfl, hf3, hb3⟩
    go_wp2_with fail
    go_end0
    refine ⟨rfl, ?_, (hbB.trans hb2).trans hb3⟩
    rw [padded, unhide Hpn, if_neg (by rw [unhide Hmi]; decide), ← List.append_assoc]
    exact hf3
  · rw [hmi] at k3
    have Hmi := hide hmi
    clear hmi
    go_wp2_with fail
    refine (writeStr_any _ _ _ _ _ _ _ _ (unhide Hf1) s hm1 (by omega) (by omega)).mono ?_
    rintro e w2 ⟨rfl, hf2, hb2⟩
    have hm2 := (hb2.cell (p := ⟨0, 0, none⟩) h0B).trans hm1
    have Hf2 := hide hf2
    clear hf2
    have hsl : s.data.toList.length = s.size := rfl
    go_wp2_with fail
    refine (wpad_any _ _ _ _ _ _ _ _ (unhide Hf2) (wid - rc) hm2 (by rw [List.length_append, hsl]; omega) (by omega)).mono ?_
    rintro e w3 ⟨rfl, hf3, hb3⟩
    go_wp2_with fail
    go_end0
    refine ⟨rfl, ?_, (hbB.trans hb2).trans hb3⟩
    rw [padded, unhide Hpn, if_pos (unhide Hmi), ← List.append_assoc]
    exact hf3

/-- A slice value whose cells lie below block B. -/
def Low (B : Nat) (v : Value) : Prop := ∀ a n c, v = .slice (some a) n c → 0 < n → a.block < B
theorem Reads.low {B : Nat} {w w' : World} {v : Value} {l : List UInt8} (h : Reads w v l) (hlow : Low B v) (hb : Below B w w') : Reads w' v l := by
  rcases h with h | ⟨a, cap, hv, h1, h2, hc⟩
  · exact .inl h
  · refine .inr ⟨a, cap, hv, h1, h2, fun i c hi => ?_⟩
    have hh := hc i c hi
    have hlt := hlow a _ _ hv (by have := (List.getElem?_eq_some_iff.1 hi).1; omega)
    have e : (a.add i).block = a.block := by unfold Addr.add; split <;> rfl
    rw [hb.cell (by rw [e]; exact hlt)]
    exact hh

set_option maxHeartbeats 800000 in
/-- pad where no width is set: the bytes alone. -/
theorem pad_plain (B : Nat) (w : World) (F bx : Nat) (f : Nat → Bool) (wid prec : Int) (l : List UInt8) (h : Fm B w F bx f wid prec l) (v : Value) (s : List UInt8) (hr : Reads w v s) (hmax : w.cell? ⟨0, 0, none⟩ = some (.int .i64 2147483647)) (hl : l.length ≤ 4194304) (hs : s.length ≤ 4194304)
    (hw : ¬ (f 0 = true ∧ wid ≠ 0)) :
    Calls Efvg.prog 37 #[.pointer (some ⟨F, 0, none⟩), v] w fun e w' => e = .returned (.tuple #[]) ∧ Fm B w' F bx f wid prec (l ++ s) ∧ Below B w w' := by
  have c0 := h.fa.c0
  have c1 : w.cell? ⟨F, 1, none⟩ = some (.bool (f 0)) := h.fa.cf 0 (by omega)
  have c13 := h.fa.cw
  have K := hide (write_any B w F bx f wid prec l h v s hr hmax hl hs)
  clear h hmax hr
  cases hf : f 0
  · rw [hf] at c1
    clear hf hw
    go_enter Efvg.func37, Efvg.ntmps37
    go_wp2_with (go_at_call 41; refine (unhide K).mono ?_; rintro e w' ⟨rfl, hh⟩)
    (try simp only [Exit.inBlock, Exit.then])
    refine bodyPost_ret (results_none rfl _ _ _) rfl ?_
    exact ⟨rfl, hh⟩
  · rw [hf] at c1
    obtain rfl : wid = 0 := by
      by_cases e : wid = 0
      · exact e
      · exact absurd ⟨hf, e⟩ hw
    clear hf hw
    go_enter Efvg.func37, Efvg.ntmps37
    go_wp2_with (go_at_call 41; refine (unhide K).mono ?_; rintro e w' ⟨rfl, hh⟩)
    (try simp only [Exit.inBlock, Exit.then])
    refine bodyPost_ret (results_none rfl _ _ _) rfl ?_
    exact ⟨rfl, hh⟩

set_option maxHeartbeats 800000 in
theorem pad_wide (B : Nat) (w : World) (F bx : Nat) (f : Nat → Bool) (wid prec : Int) (l : List UInt8) (h : Fm B w F bx f wid prec l) (v : Value) (s : List UInt8) (hr : Reads w v s) (hmax : w.cell? ⟨0, 0, none⟩ = some (.int .i64 2147483647)) (hl : l.length ≤ 2097152) (hs : s.length ≤ 2097152)
    (hw : f 0 = true) (hw0 : (wid == 0) = false) (hw1 : -65536 ≤ wid) (hw2 : wid ≤ 65536) (h0B : 0 < B) (hlow : Low B v) :
    Calls Efvg.prog 37 #[.pointer (some ⟨F, 0, none⟩), v] w fun e w' => e = .returned (.tuple #[]) ∧ Fm B w' F bx f wid prec (l ++ padded (f 0) (f 2) (f 6) wid s) ∧ Below B w w' := by
  have c0 := h.fa.c0
  have c1 : w.cell? ⟨F, 1, none⟩ = some (.bool true) := by rw [← hw]; exact h.fa.cf 0 (by omega)
  have c3 : w.cell? ⟨F, 3, none⟩ = some (.bool (f 2)) := h.fa.cf 2 (by omega)
  have c13 := h.fa.cw
  have hFs := h.fa.lt
  have h0s := World.block_lt_of_cell? w _ hmax
  have Hh := hide h
  have hle := (by have := Lib.runeCount_le (strOf s); rwa [strOf_size] at this : Lib.runeCount (strOf s) ≤ s.length)
  have KR := hide (fun W hW => runeCountB_any v s W (by omega) hW)
  clear h
  have hpn : padN (f 0) wid s = (wid - Lib.runeCount (strOf s)).toNat := by
    unfold padN
    rw [if_pos ⟨hw, by simpa using hw0⟩]
  have Hpn := hide hpn
  clear hpn
  generalize Lib.runeCount (strOf s) = rc at hle KR Hpn
  have hwr : IntKind.i64.wrap (wid - (rc : Int)) = wid - rc := by rw [IntKind.wrap_i64]; omega
  go_enter Efvg.func37, Efvg.ntmps37
  go_wp2_with fail
  go_region_held3 (fun w' => w'.cell? ⟨F, 13, none⟩ = some (.int .i64 wid)) (first | go_keep | (rw [hb1.cell (by first | exact hFs | (simp; omega))]; go_keep)) ((go_at_call 42; refine (unhide KR _ (by exact hr)).mono ?_; rintro e w1 ⟨rfl, hb1⟩))
  have hb : Below w.heap.size w w1 := ⟨hb1.os, hb1.tape, hb1.output, hb1.size, hb1.block⟩
  have hf1 := (unhide Hh).below hb (Nat.le_refl _)
  have hm1 : w1.cell? ⟨0, 0, none⟩ = some (.int .i64 2147483647) := (hb.cell (p := ⟨0, 0, none⟩) h0s).trans hmax
  have k0 := hf1.fa.c0
  have hr1 := hr.below hb (Nat.le_refl _)
  have k3 : w1.cell? ⟨F, 3, none⟩ = some (.bool (f 2)) := hf1.fa.cf 2 (by omega)
  have hbB : Below B w w1 := hb.mono (unhide Hh).size
  have Hf1 := hide hf1
  clear hb1 hf1 hwr c0 c1 c3 c13
  cases hmi : f 2
  · rw [hmi] at k3
    have Hmi := hide hmi
    clear hmi
    go_wp2_with fail
    refine (wpad_any _ _ _ _ _ _ _ _ (unhide Hf1) (wid - rc) hm1 (by omega) (by omega)).mono ?_
    rintro e w2 ⟨rfl, hf2, hb2⟩
    have j0 := hf2.fa.c0
    have hr2 := hr1.low hlow hb2
    have hm2 := (hb2.cell (p := ⟨0, 0, none⟩) h0B).trans hm1
    have Hf2 := hide hf2
    clear hf2
    go_wp2_with fail
    refine (write_any _ _ _ _ _ _ _ _ (unhide Hf2) v s hr2 hm2 (by rw [List.length_append, pads_length]; omega) (by omega)).mono ?_
    rintro e w3 ⟨rfl, hf3, hb3⟩
    go_wp2_with fail
    go_end0
    refine ⟨rfl, ?_, (hbB.trans hb2).trans hb3⟩
    rw [padded, unhide Hpn, if_neg (by rw [unhide Hmi]; decide), ← List.append_assoc]
    exact hf3
  · rw [hmi] at k3
    have Hmi := hide hmi
    clear hmi
    go_wp2_with fail
    refine (write_any _ _ _ _ _ _ _ _ (unhide Hf1) v s hr1 hm1 (by omega) (by omega)).mono ?_
    rintro e w2 ⟨rfl, hf2, hb2⟩
    have hm2 := (hb2.cell (p := ⟨0, 0, none⟩) h0B).trans hm1
    have Hf2 := hide hf2
    clear hf2
    go_wp2_with fail
    refine (wpad_any _ _ _ _ _ _ _ _ (unhide Hf2) (wid - rc) hm2 (by rw [List.length_append]; omega) (by omega)).mono ?_
    rintro e w3 ⟨rfl, hf3, hb3⟩
    go_wp2_with fail
    go_end0
    refine ⟨rfl, ?_, (hbB.trans hb2).trans hb3⟩
    rw [padded, unhide Hpn, if_pos (unhide Hmi), ← List.append_assoc]
    exact hf3

theorem padded_plain (wp mi ze : Bool) (wid : Int) (s : List UInt8) (h : ¬ (wp = true ∧ wid ≠ 0)) : padded wp mi ze wid s = s := by
  unfold padded padN
  rw [if_neg h]
  cases mi <;> simp [pads]

/-- (*formatter).padString -/
theorem padString_any (B : Nat) (w : World) (F bx : Nat) (f : Nat → Bool) (wid prec : Int) (l : List UInt8) (h : Fm B w F bx f wid prec l) (s : ByteArray) (hmax : w.cell? ⟨0, 0, none⟩ = some (.int .i64 2147483647)) (hl : l.length ≤ 2097152) (hs : s.size ≤ 2097152)
    (hw : f 0 = true → -65536 ≤ wid ∧ wid ≤ 65536) (h0B : 0 < B) :
    Calls Efvg.prog 33 #[.pointer (some ⟨F, 0, none⟩), .string s] w fun e w' => e = .returned (.tuple #[]) ∧ Fm B w' F bx f wid prec (l ++ padded (f 0) (f 2) (f 6) wid s.data.toList) ∧ Below B w w' := by
  by_cases hc : f 0 = true ∧ wid ≠ 0
  · exact padString_wide B w F bx f wid prec l h s hmax hl hs hc.1 (by simpa using hc.2) (hw hc.1).1 (hw hc.1).2 h0B
  · rw [padded_plain _ _ _ _ _ hc]
    exact padString_plain B w F bx f wid prec l h s hmax (by omega) (by omega) hc

/-- (*formatter).pad -/
theorem pad_any (B : Nat) (w : World) (F bx : Nat) (f : Nat → Bool) (wid prec : Int) (l : List UInt8) (h : Fm B w F bx f wid prec l) (v : Value) (s : List UInt8) (hr : Reads w v s) (hmax : w.cell? ⟨0, 0, none⟩ = some (.int .i64 2147483647)) (hl : l.length ≤ 2097152) (hs : s.length ≤ 2097152)
    (hw : f 0 = true → -65536 ≤ wid ∧ wid ≤ 65536) (h0B : 0 < B) (hlow : Low B v) :
    Calls Efvg.prog 37 #[.pointer (some ⟨F, 0, none⟩), v] w fun e w' => e = .returned (.tuple #[]) ∧ Fm B w' F bx f wid prec (l ++ padded (f 0) (f 2) (f 6) wid s) ∧ Below B w w' := by
  by_cases hc : f 0 = true ∧ wid ≠ 0
  · exact pad_wide B w F bx f wid prec l h v s hr hmax hl hs hc.1 (by simpa using hc.2) (hw hc.1).1 (hw hc.1).2 h0B hlow
  · rw [padded_plain _ _ _ _ _ hc]
    exact pad_plain B w F bx f wid prec l h v s hr hmax (by omega) (by omega) hc

set_option maxHeartbeats 400000 in
theorem zzPadString_any (B : Nat) (w : World) (F bx : Nat) (f : Nat → Bool) (wid prec : Int) (l : List UInt8) (h : Fm B w F bx f wid prec l) (s : ByteArray) (hmax : w.cell? ⟨0, 0, none⟩ = some (.int .i64 2147483647)) (hl : l.length ≤ 2097152) (hs : s.size ≤ 2097152)
    (hw : f 0 = true → -65536 ≤ wid ∧ wid ≤ 65536) (h0B : 0 < B) :
    Calls Efvg.prog 17 #[.pointer (some ⟨F, 0, none⟩), .string s] w fun e w' => e = .returned (.tuple #[]) ∧ Fm B w' F bx f wid prec (l ++ padded (f 0) (f 2) (f 6) wid s.data.toList) ∧ Below B w w' := by
  have K := hide (padString_any B w F bx f wid prec l h s hmax hl hs hw h0B)
  clear h hmax hw
  go_enter Efvg.func17, Efvg.ntmps17
  go_wp2_with (go_at_call 33; refine (unhide K).mono ?_; rintro e w' ⟨rfl, hh⟩)
  go_end0
  exact ⟨rfl, hh⟩

set_option maxHeartbeats 400000 in
theorem zzPad_any (B : Nat) (w : World) (F bx : Nat) (f : Nat → Bool) (wid prec : Int) (l : List UInt8) (h : Fm B w F bx f wid prec l) (v : Value) (s : List UInt8) (hr : Reads w v s) (hmax : w.cell? ⟨0, 0, none⟩ = some (.int .i64 2147483647)) (hl : l.length ≤ 2097152) (hs : s.length ≤ 2097152)
    (hw : f 0 = true → -65536 ≤ wid ∧ wid ≤ 65536) (h0B : 0 < B) (hlow : Low B v) :
    Calls Efvg.prog 29 #[.pointer (some ⟨F, 0, none⟩), v] w fun e w' => e = .returned (.tuple #[]) ∧ Fm B w' F bx f wid prec (l ++ padded (f 0) (f 2) (f 6) wid s) ∧ Below B w w' := by
  have K := hide (pad_any B w F bx f wid prec l h v s hr hmax hl hs hw h0B hlow)
  clear h hmax hw hr hlow
  go_enter Efvg.func29, Efvg.ntmps29
  go_wp2_with (go_at_call 37; refine (unhide K).mono ?_; rintro e w' ⟨rfl, hh⟩)
  go_end0
  exact ⟨rfl, hh⟩

theorem own_low {B0 B : Nat} {w : World} {v : Value} {l : List UInt8} (h : Own B0 w v l) (hB : w.heap.size ≤ B) : Low B v := by
  intro a n c hv _
  have := (World.ownsRow.lt h a.block (by rw [hv]; rfl)).2
  omega

theorem padded_length (wp mi ze : Bool) (wid : Int) (s : List UInt8) (hw : wid ≤ 65536) : (padded wp mi ze wid s).length ≤ s.length + 65536 := by
  have hk : padN wp wid s ≤ 65536 := by
    unfold padN
    split <;> omega
  unfold padded
  split <;> (rw [List.length_append, pads_length]; omega)

end Go.Proofs.YoefvwDoor
