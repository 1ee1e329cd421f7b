/-
  The walks of zzRuneCount, utf8.RuneCountInString, utf8.RuneCount.
-/
import Derived.Test.YoefvwDoorSeq
import Derived.Laws.BytesArg
namespace Go.Proofs.YoefvwDoor
open Go.RowKit

set_option maxHeartbeats 400000 in
/-- zzRuneCount counts as the model's decode does. -/
theorem zzRuneCount_any (s : ByteArray) (w : World) (hs : s.size ≤ 4194304) :
    Calls Efvg.prog 27 #[.string s] w fun e w' => e = .returned (.int .i64 (Lib.runeCount s)) ∧ w = w' := by
  go_enter Efvg.func27, Efvg.ntmps27
  go_wp2
  go_loop [3, 4] (fun n i => ∃ pos b acc : Nat, i = .int .i64 pos ∧ n = .int .i64 acc ∧ acc + Lib.runeCountFrom s b pos = Lib.runeCount s ∧ s.size ≤ pos + b ∧ acc ≤ pos ∧ pos ≤ 4194304 + 4) (fun _ i => s.size - (intOf i).toNat)
  case atStart => exact ⟨0, s.size, 0, rfl, rfl, by simp [Lib.runeCount], by omega, Nat.le_refl _, by omega⟩
  case round =>
    obtain ⟨pos, b, acc, rfl, rfl, hc, hb, ha, hp4⟩ := hrel
    have Hc := hide hc
    clear hc
    by_cases hp : pos < s.size
    · have hwd := Lib.decode_width_pos s pos hp
      have hw4 := width_le s pos
      have hfrom : ∀ b', b = b' + 1 → Lib.runeCountFrom s b pos = 1 + Lib.runeCountFrom s b' (pos + (Utf8.decode s pos).2) := fun b' hb' => by subst hb'; simp [Lib.runeCountFrom, hp]
      have Hfrom := hide hfrom
      have Hcall := hide (seqLen_any s pos w hp hs)
      clear hfrom
      generalize (Utf8.decode s pos).2 = d at hwd hw4 Hfrom Hcall
      go_wp2_with (go_at_call 36; refine (unhide Hcall).mono ?_; rintro e w' ⟨rfl, rfl⟩)
      go_round
      case rel =>
        cases b with
        | zero => omega
        | succ b' =>
          refine ⟨pos + d, b', acc + 1, by go_num, by go_num, ?_, by omega, by omega, by omega⟩
          rw [← unhide Hc, unhide Hfrom b' rfl]
          omega
      case measure => simp [intOf]; omega
    · go_wp2
      go_ret
      have hc := unhide Hc
      rw [Lib.runeCountFrom_end s b pos hp, Nat.add_zero] at hc
      exact ⟨ret_int (by rw [hc]), rfl⟩

/-- The bytes of a list as a string. -/
def strOf (l : List UInt8) : ByteArray := ⟨l.toArray⟩
theorem strOf_size (l : List UInt8) : (strOf l).size = l.length := by simp [strOf, ByteArray.size]
theorem strOf_data (l : List UInt8) : (strOf l).data.toList = l := rfl
theorem strOf_self (s : ByteArray) : strOf s.data.toList = s := by cases s; simp [strOf]

/-- 'string(b)' of a slice that reads as l. -/
theorem run_conv (w : World) (ao : Option Addr) (c : Nat) (l : List UInt8) (h1 : ao = none → l = []) (h2 : ∀ ad, ao = some ad → ∀ j u, (bcs l)[j]? = some u → w.cell? (ad.add j) = some u) :
    (convert 23 9 (.slice ao l.length c)).run Efvg.prog w = .ok (.string (strOf l)) w := by
  cases ao with
  | none =>
    obtain rfl := h1 rfl
    rw [run_convert_bytes_nil w 23 5 Efvg.underlying23 Efvg.underlying5 _ _ 9 Efvg.underlying9]
    rfl
  | some ad =>
    have hl := run_loadCells_list (P := Efvg.prog) w ad (bcs l) (h2 ad rfl)
    rw [bcs_length] at hl
    have e : bcs l = (l.map fun b => (b.toNat : Int)).map (Value.int .u8) := by simp [bcs]
    rw [e] at hl
    rw [run_convert_bytes_string w 23 9 5 _ l.length c Efvg.underlying23 Efvg.underlying5 Efvg.underlying9, run_bytesToString w _ l.length c _ hl, foldl_push_bytes]
    have e2 : (l.map fun b => (b.toNat : Int)).map (fun n => UInt8.ofNat n.toNat) = l := by
      rw [List.map_map]
      conv => rhs; rw [← List.map_id l]
      apply List.map_congr_left
      intro b _
      simp
    rw [e2]
    simp [strOf, ByteArray.empty, ByteArray.emptyWithCapacity]
    rfl

set_option maxHeartbeats 400000 in
/-- unicode/utf8.RuneCountInString: the library's own text. -/
theorem runeCountStr_any (s : ByteArray) (w : World) (hs : s.size ≤ 4194304) :
    Calls Efvg.prog 39 #[.string s] w fun e w' => e = .returned (.int .i64 (Lib.runeCount s)) ∧ ∃ pos, w' = w.iter s pos := by
  go_enter Efvg.func39, Efvg.ntmps39
  go_wp2
  go_loopw [2] (fun n w' => ∃ (pos b acc : Nat), w' = w.iter s pos ∧ n = .int .i64 acc ∧ acc + Lib.runeCountFrom s b pos = Lib.runeCount s ∧ s.size ≤ pos + b ∧ acc ≤ pos) (fun _ w' => s.size - w'.iterPos w.heap.size)
  case atStart => exact ⟨0, s.size, 0, rfl, rfl, by simp [Lib.runeCount], by omega, Nat.le_refl _⟩
  case round =>
    obtain ⟨pos, b, acc, rfl, rfl, hc, hb, ha⟩ := hrel
    have Hc := hide hc
    clear hc
    by_cases hp : pos < s.size
    · have hnx : ∀ ty, (Instr.next (.pointer (some ⟨w.heap.size, 0, none⟩)) true ty).run Efvg.prog (w.iter s pos) = _ := fun ty => run_next_any w s pos ty hp
      have hwd := Lib.decode_width_pos s pos hp
      go_wp2
      go_roundw
      case rel =>
        cases b with
        | zero => omega
        | succ b =>
          refine ⟨pos + (Utf8.decode s pos).2, b, acc + 1, rfl, by go_num, ?_, by omega, by omega⟩
          rw [← unhide Hc]
          simp [Lib.runeCountFrom, hp]
          omega
      case measure =>
        simp
        omega
    · have hnx : ∀ ty, (Instr.next (.pointer (some ⟨w.heap.size, 0, none⟩)) true ty).run Efvg.prog (w.iter s pos) = _ := fun ty => run_next_end w s pos ty hp
      go_wp2
      go_ret
      have hc := unhide Hc
      rw [Lib.runeCountFrom_end s b pos hp, Nat.add_zero] at hc
      exact ⟨ret_int (by rw [hc]), _, rfl⟩

theorem below_iter (w : World) (s : ByteArray) (pos : Nat) : Below w.heap.size w (w.iter s pos) := (Below.refl _ _).alloc (Nat.le_refl _) _

theorem strOf_get (l : List UInt8) (j : Nat) : (strOf l).get! j = l.getD j 0 := by rw [← Lib.getD_get!']; rfl

theorem strOf_drop (l : List UInt8) (k : Nat) : (strOf l).extract k (strOf l).size = strOf (l.drop k) := by
  have h : ((strOf l).extract k (strOf l).size).data.toList = (strOf (l.drop k)).data.toList := by
    rw [Lib.extract_data, strOf_data, strOf_data]
    apply List.take_of_length_le
    rw [List.length_drop, strOf_size]
    exact Nat.le_refl _
  rw [← strOf_self ((strOf l).extract k (strOf l).size), h]
  rfl

theorem runeCount_nil : Lib.runeCount (strOf []) = 0 := rfl

theorem split_list (l : List UInt8) (k : Nat) (hk : k ≤ l.length) (ha : ∀ j, j < k → (l.getD j 0).toNat < 128) : Lib.runeCount (strOf l) = k + Lib.runeCount (strOf (l.drop k)) := by
  rw [← strOf_drop]
  exact Lib.runeCount_split (strOf l) k (by rw [strOf_size]; exact hk) (fun j hj => by rw [strOf_get]; exact ha j hj)

set_option maxHeartbeats 400000 in
/-- unicode/utf8.RuneCount: the library's own text. -/
theorem runeCountB_core (ao : Option Addr) (cap : Nat) (l : List UInt8) (w : World) (hl : l.length ≤ 4194304) (hlc : l.length ≤ cap) (hcm : cap ≤ maxLen)
    (hc : 0 < l.length → ∃ b off, ao = some ⟨b, off, none⟩ ∧ ∀ i c, l[i]? = some c → w.cell? ⟨b, off + i, none⟩ = some (.int .u8 c.toNat)) :
    Calls Efvg.prog 42 #[.slice ao l.length cap] w fun e w' => e = .returned (.int .i64 (Lib.runeCount (strOf l))) ∧ Below w.heap.size w w' := by
  unfold maxLen at hcm
  go_enter Efvg.func42, Efvg.ntmps42
  go_wp2
  go_loop [4] (fun n => ∃ k : Nat, k ≤ l.length ∧ n = .int .i64 k ∧ ∀ j, j < k → (l.getD j 0).toNat < 128) (fun n => l.length - (intOf n).toNat)
  case atStart => exact ⟨0, Nat.zero_le _, rfl, fun j hj => absurd hj (Nat.not_lt_zero _)⟩
  case round =>
    obtain ⟨k, hk, rfl, hasc⟩ := hrel
    by_cases hlt : k < l.length
    · obtain ⟨b, off, rfl, hcell⟩ := hc (by omega)
      have hlk : l[k]? = some l[k] := List.getElem?_eq_getElem hlt
      have hgk : l.getD k 0 = l[k] := by rw [List.getD_eq_getElem?_getD, hlk]; rfl
      have g1 := hcell k _ hlk
      by_cases ha : (l[k]).toNat < 128
      · have hasc' : ∀ j, j < k + 1 → (l.getD j 0).toNat < 128 := fun j hj => by
          by_cases hjk : j < k
          · exact hasc j hjk
          · have : j = k := by omega
            subst this
            rw [hgk]; exact ha
        have Ha := hide hasc'
        clear hasc' hasc hcell hc hlk hgk
        generalize l[k] = y at g1 ha
        have haz : ¬ ((y.toNat : Int) ≥ 128) := by omega
        go_wp2
        go_round
        case rel => exact ⟨k + 1, by omega, by go_num, unhide Ha⟩
        case measure => simp [intOf]; omega
      · have hcv : ∀ c, (convert 23 9 (.slice (some ⟨b, off + k, none⟩) (l.length - k) c)).run Efvg.prog w = .ok (.string (strOf (l.drop k))) w := fun c => by
          have := run_conv w (some ⟨b, off + k, none⟩) c (l.drop k) (by simp) (fun ad had j u hu => by
            cases had
            rw [bcs_get] at hu
            obtain ⟨d, hd, rfl⟩ := Option.map_eq_some_iff.1 hu
            rw [List.getElem?_drop] at hd
            rw [Addr.add_lit, Nat.add_assoc]
            exact hcell (k + j) d hd)
          rwa [List.length_drop] at this
        have hsp := hide (split_list l k hk hasc)
        have hle := Lib.runeCount_le (strOf (l.drop k))
        rw [strOf_size, List.length_drop] at hle
        have cR := hide (runeCountStr_any (strOf (l.drop k)) w (by rw [strOf_size, List.length_drop]; omega))
        generalize Lib.runeCount (strOf (l.drop k)) = d at hsp hle cR
        generalize l[k] = y at g1 ha
        have haz : (y.toNat : Int) ≥ 128 := by omega
        clear hasc hcell hc hlk hgk
        go_wp2_with (go_at_call 39; refine (unhide cR).mono ?_; rintro e w' ⟨rfl, pos, rfl⟩)
        go_ret
        refine ⟨ret_int ?_, below_iter _ _ _⟩
        rw [unhide hsp]
        omega
    · have hkk : k = l.length := by omega
      subst hkk
      clear hc
      go_wp2
      go_ret
      refine ⟨ret_int ?_, Below.refl _ _⟩
      rw [split_list l l.length (Nat.le_refl _) hasc, List.drop_length, runeCount_nil]
      rfl

theorem runeCountB_any (v : Value) (l : List UInt8) (w : World) (hl : l.length ≤ 4194304) (hr : Reads w v l) :
    Calls Efvg.prog 42 #[v] w fun e w' => e = .returned (.int .i64 (Lib.runeCount (strOf l))) ∧ Below w.heap.size w w' := by
  rcases hr.shape with ⟨rfl, rfl⟩ | ⟨a, cap, rfl, hm, rfl⟩ | ⟨b, off, cap, rfl, h0, h1, hm, hb, hc⟩
  · exact runeCountB_core none 0 [] w (by simp) (by simp) (by unfold maxLen; omega) (by simp)
  · exact runeCountB_core (some a) cap [] w (by simp) (by simp) hm (by simp)
  · exact runeCountB_core _ cap l w hl h1 hm (fun _ => ⟨b, off, rfl, hc⟩)
end Go.Proofs.YoefvwDoor
