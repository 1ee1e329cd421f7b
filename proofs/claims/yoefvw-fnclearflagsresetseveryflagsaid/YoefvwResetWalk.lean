/-
  The walk of FnClearFlagsResetsEveryFlag.
-/
import Derived.Test.YoefvwFmt
namespace Go.Proofs.Yoefvw
open Go.RowKit

set_option maxHeartbeats 400000 in
theorem setMore_any (w : World) (F : Nat) (p : Value) (f : Nat → Bool) (wid prec : Int) (h : FmtAt 42 w F p f wid prec) (b1 b2 b3 b4 b5 : Bool) :
    Calls Efvg.prog 10 #[.pointer (some ⟨F, 0, none⟩), .bool b1, .bool b2, .bool b3, .bool b4, .bool b5] w fun e w' => e = .returned (.tuple #[]) ∧ FmtAt 42 w' F p (upd (upd (upd (upd (upd f 7 b1) 8 b2) 9 b3) 10 b4) 11 b5) wid prec ∧ w.grownBy w' (some F) := by
  have c3 : w.cell? ⟨F, 8, none⟩ = some (.bool (f 7)) := h.cf 7 (by omega)
  have c4 : w.cell? ⟨F, 9, none⟩ = some (.bool (f 8)) := h.cf 8 (by omega)
  have c5 : w.cell? ⟨F, 10, none⟩ = some (.bool (f 9)) := h.cf 9 (by omega)
  have c6 : w.cell? ⟨F, 11, none⟩ = some (.bool (f 10)) := h.cf 10 (by omega)
  have c7 : w.cell? ⟨F, 12, none⟩ = some (.bool (f 11)) := h.cf 11 (by omega)
  have f3 := h.fr 8
  have f4 := h.fr 9
  have f5 := h.fr 10
  have f6 := h.fr 11
  have f7 := h.fr 12
  have H := hide h
  clear h
  go_enter Efvg.func10, Efvg.ntmps10
  go_wp2
  go_end0
  exact ⟨rfl, (((((unhide H).setFlag 7 (by omega) b1).setFlag 8 (by omega) b2).setFlag 9 (by omega) b3).setFlag 10 (by omega) b4).setFlag 11 (by omega) b5,
    grownBy_trans (grownBy_trans (grownBy_trans (grownBy_trans (grownBy_setCell w _ _) (grownBy_setCell _ _ _)) (grownBy_setCell _ _ _)) (grownBy_setCell _ _ _)) (grownBy_setCell _ _ _)⟩

set_option maxRecDepth 100000 in
set_option maxHeartbeats 1600000 in
/-- ZZflags where every flag is false. -/
theorem flags_any (w : World) (F : Nat) (p : Value) (f : Nat → Bool) (wid prec : Int) (h : FmtAt 42 w F p f wid prec) (hz : ∀ k, k < 12 → f k = false) :
    Calls Efvg.prog 12 #[.pointer (some ⟨F, 0, none⟩)] w fun e w' => e = .returned (.tuple #[.bool false, .bool false, .bool false, .bool false, .bool false, .bool false, .bool false, .bool false, .bool false, .bool false, .bool false, .bool false]) ∧ Below w.heap.size w w' := by
  have c1 : w.cell? ⟨F, 1, none⟩ = some (.bool false) := by rw [← hz 0 (by omega)]; exact h.cf 0 (by omega)
  have c2 : w.cell? ⟨F, 2, none⟩ = some (.bool false) := by rw [← hz 1 (by omega)]; exact h.cf 1 (by omega)
  have c3 : w.cell? ⟨F, 3, none⟩ = some (.bool false) := by rw [← hz 2 (by omega)]; exact h.cf 2 (by omega)
  have c4 : w.cell? ⟨F, 4, none⟩ = some (.bool false) := by rw [← hz 3 (by omega)]; exact h.cf 3 (by omega)
  have c5 : w.cell? ⟨F, 5, none⟩ = some (.bool false) := by rw [← hz 4 (by omega)]; exact h.cf 4 (by omega)
  have c6 : w.cell? ⟨F, 6, none⟩ = some (.bool false) := by rw [← hz 5 (by omega)]; exact h.cf 5 (by omega)
  have c7 : w.cell? ⟨F, 7, none⟩ = some (.bool false) := by rw [← hz 6 (by omega)]; exact h.cf 6 (by omega)
  have c8 : w.cell? ⟨F, 8, none⟩ = some (.bool false) := by rw [← hz 7 (by omega)]; exact h.cf 7 (by omega)
  have c9 : w.cell? ⟨F, 9, none⟩ = some (.bool false) := by rw [← hz 8 (by omega)]; exact h.cf 8 (by omega)
  have c10 : w.cell? ⟨F, 10, none⟩ = some (.bool false) := by rw [← hz 9 (by omega)]; exact h.cf 9 (by omega)
  have c11 : w.cell? ⟨F, 11, none⟩ = some (.bool false) := by rw [← hz 10 (by omega)]; exact h.cf 10 (by omega)
  have c12 : w.cell? ⟨F, 12, none⟩ = some (.bool false) := by rw [← hz 11 (by omega)]; exact h.cf 11 (by omega)
  clear h hz
  go_enter Efvg.func12, Efvg.ntmps12
  go_wp2
  go_quiet (fail)
  go_wp2
  (try simp only [Exit.inBlock, Exit.then])
  refine bodyPost_ret (v := .tuple #[.bool false, .bool false, .bool false, .bool false, .bool false, .bool false, .bool false, .bool false, .bool false, .bool false, .bool false, .bool false]) ?_ rfl ⟨rfl, below_drewN (Below.refl _ _) _⟩
  simp [results, Efvg.results12, go_sem]

set_option maxHeartbeats 400000 in
theorem wid_any (w : World) (F : Nat) (n : Int) (h : w.cell? ⟨F, 13, none⟩ = some (.int .i64 n)) :
    Calls Efvg.prog 13 #[.pointer (some ⟨F, 0, none⟩)] w fun e w' => e = .returned (.int .i64 n) ∧ w = w' := by
  go_enter Efvg.func13, Efvg.ntmps13
  go_wp2
  go_ret
  exact ⟨rfl, rfl⟩

set_option maxHeartbeats 400000 in
theorem prec_any (w : World) (F : Nat) (n : Int) (h : w.cell? ⟨F, 14, none⟩ = some (.int .i64 n)) :
    Calls Efvg.prog 14 #[.pointer (some ⟨F, 0, none⟩)] w fun e w' => e = .returned (.int .i64 n) ∧ w = w' := by
  go_enter Efvg.func14, Efvg.ntmps14
  go_wp2
  go_ret
  exact ⟨rfl, rfl⟩

set_option maxHeartbeats 400000 in
theorem bytes4_no (ao : Option Addr) (n cap : Nat) (mk a b : Int) (w : World) (h : 1048576 < n) :
    Calls Efvg.prog 4 #[.int .u16 mk, .int .i64 a, .int .i64 b, .slice ao n cap] w fun e w' => e = .returned (.bool false) ∧ w = w' := by
  go_enter Efvg.func4, Efvg.ntmps4
  go_wp2
  go_ret
  exact ⟨rfl, rfl⟩

set_option maxHeartbeats 400000 in
theorem bytes4_yes (ao : Option Addr) (n cap : Nat) (mk a b : Int) (w : World) (h : n ≤ 1048576) :
    Calls Efvg.prog 4 #[.int .u16 mk, .int .i64 a, .int .i64 b, .slice ao n cap] w fun e w' => e = .returned (.bool true) ∧ w = w' := by
  go_enter Efvg.func4, Efvg.ntmps4
  go_wp2
  go_ret
  exact ⟨rfl, rfl⟩

set_option maxHeartbeats 400000 in
theorem reset_out (mk a b : Int) (ao : Option Addr) (cap : Nat) (l : List UInt8) (w : World) (h : 1048576 < l.length) :
    Calls Efvg.prog 3 #[.int .u16 mk, .int .i64 a, .int .i64 b, .slice ao l.length cap] w fun e w' => e = .returned (.bool true) ∧ Below w.heap.size w w' := by
  go_enter Efvg.func3, Efvg.ntmps3
  go_wp2_with (go_at_call 4; refine (bytes4_no _ _ _ _ _ _ _ h).mono ?_; rintro e w' ⟨rfl, rfl⟩)
  go_ret
  exact ⟨rfl, Below.refl _ _⟩

set_option maxHeartbeats 1600000 in
theorem reset_in (mk a b : Int) (ao : Option Addr) (cap : Nat) (l : List UInt8) (w : World) (hr : Reads w (.slice ao l.length cap) l) (hl : l.length ≤ 1048576) :
    Calls Efvg.prog 3 #[.int .u16 mk, .int .i64 a, .int .i64 b, .slice ao l.length cap] w fun e w' => e = .returned (.bool true) ∧ Below w.heap.size w w' := by
  have haa : (a != a) = false := by simp
  have hbb : (b != b) = false := by simp
  go_enter Efvg.func3, Efvg.ntmps3
  go_wp2_with (go_at_call 4; refine (bytes4_yes _ _ _ _ _ _ _ hl).mono ?_; rintro e w' ⟨rfl, rfl⟩)
  refine (clone_any _ l _ hr hl).mono ?_
  rintro e w1 ⟨v1, rfl, ho1, hb1⟩
  go_wp2_with fail
  refine (clone_any _ l _ ho1.reads hl).mono ?_
  rintro e w3 ⟨v3, rfl, ho3, hb3⟩
  go_wp2_with fail
  refine (new_any w1.heap.size _ l _ ho3 hb3.size).mono ?_
  rintro e w4 ⟨rfl, f4, hf4, _, hb4⟩
  go_wp2_with fail
  refine (setWidth_any _ _ _ _ _ _ hf4.fa _ a).mono ?_
  rintro e w5 ⟨rfl, ha5, hg5⟩
  have hf5 := hf4.upd ha5 hg5
  have hb5 := hf4.low hg5
  clear ha5 hg5 hf4
  go_wp2_with fail
  refine (setPrec_any _ _ _ _ _ _ hf5.fa _ b).mono ?_
  rintro e w6 ⟨rfl, ha6, hg6⟩
  have hf6 := hf5.upd ha6 hg6
  have hb6 := hf5.low hg6
  clear ha6 hg6 hf5
  go_wp2_with fail
  refine (setFlags_any _ _ _ _ _ _ hf6.fa _ _ _ _ _).mono ?_
  rintro e w7 ⟨rfl, ha7, hg7⟩
  have hf7 := hf6.upd ha7 hg7
  have hb7 := hf6.low hg7
  clear ha7 hg7 hf6
  go_wp2_with fail
  refine (setMore_any _ _ _ _ _ _ hf7.fa _ _ _ _ _).mono ?_
  rintro e w8 ⟨rfl, ha8, hg8⟩
  have hf8 := hf7.upd ha8 hg8
  have hb8 := hf7.low hg8
  clear ha8 hg8 hf7
  go_wp2_with fail
  refine (zzClear_any _ _ _ _ _ _ hf8.fa).mono ?_
  rintro e w9 ⟨rfl, f9, ha9, hz9, hg9⟩
  have hf9 := hf8.upd ha9 hg9
  have hb9 := hf8.low hg9
  have hb19 : Below w1.heap.size w1 w9 := (((((hb3.trans (hb4.mono hb3.size)).trans hb5).trans hb6).trans hb7).trans hb8).trans hb9
  have hbw9 : Below w.heap.size w w9 := hb1.trans (hb19.mono hb1.size)
  have ho9 := ho1.below hb19 (Nat.le_refl _)
  have Hz := hide hz9
  have Hf9 := hide hf9
  clear ha9 hg9 hf8 hb3 hb4 hb5 hb6 hb7 hb8 hb9 ho3 hz9 hf9 ho1
  go_wp2_with fail
  refine (flags_any _ _ _ _ _ _ (unhide Hf9).fa (unhide Hz)).mono ?_
  rintro e w10 ⟨rfl, hb10⟩
  have hf10 := (unhide Hf9).below hb10 (Nat.le_refl _)
  have ho10 := ho9.below hb10 (Nat.le_refl _)
  have hbw10 : Below w.heap.size w w10 := hbw9.trans (hb10.mono hbw9.size)
  have Hf10 := hide hf10
  clear hf10 Hf9 Hz ho9 hbw9 hb10 hb19
  go_wp2_with fail
  refine (wid_any _ _ a (unhide Hf10).fa.cw).mono ?_
  rintro e w' ⟨rfl, rfl⟩
  go_wp2_with fail
  refine (prec_any _ _ b (unhide Hf10).fa.cp).mono ?_
  rintro e w' ⟨rfl, rfl⟩
  go_wp2_with fail
  refine (buf_any _ _ _ _ _ _ _ _ (unhide Hf10)).mono ?_
  rintro e _ ⟨r1, rfl, hor1, rfl⟩
  go_wp2_with fail
  refine (equal_any _ _ _ _ hor1.reads ho10.reads (by omega)).mono ?_
  rintro e w13 ⟨rfl, hb13⟩
  go_wp2_with fail
  go_ret
  exact ⟨rfl, hbw10.trans (hb13.mono hbw10.size)⟩
end Go.Proofs.Yoefvw
