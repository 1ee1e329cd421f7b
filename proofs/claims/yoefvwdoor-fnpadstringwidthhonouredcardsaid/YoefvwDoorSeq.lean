/-
  The walks of zzIsCont, zzSeqLen, zzRuneCount, utf8.RuneCountInString, utf8.RuneCount.
-/
import Derived.Test.YoefvwDoorBase
import Derived.Test.YoefvwDoorProg
import Derived.Test.YoefvwDoorUtf
import Derived.Deep.Light
namespace Go.Proofs.YoefvwDoor
open Go.RowKit

theorem ret_int {k : IntKind} {a b : Int} (h : a = b) : Ending.returned (.int k a) = .returned (.int k b) := by rw [h]

set_option maxHeartbeats 400000 in
theorem isCont_any (c : Int) (w : World) : Calls Efvg.prog 40 #[.int .u8 c] w fun e w' => e = .returned (.bool (decide (128 ≤ c ∧ c ≤ 191))) ∧ w = w' := by
  by_cases h2 : 128 ≤ c
  all_goals by_cases h3 : c ≤ 191
  all_goals
    go_enter Efvg.func40, Efvg.ntmps40
    go_wp2
    go_ret
    refine ⟨?_, rfl⟩
    simp [h2, h3]

set_option maxRecDepth 100000 in
set_option maxHeartbeats 4000000 in
theorem seqLen_any (s : ByteArray) (i : Nat) (w : World) (hi : i < s.size) (hs : s.size ≤ 4194304) :
    Calls Efvg.prog 36 #[.string s, .int .i64 i] w fun e w' => e = .returned (.int .i64 (Utf8.decode s i).2) ∧ w = w' := by
  have hd : (Utf8.decode s i).2 = (Lib.decodeN (s.size - i) (s.get! i).toNat (s.get! (i + 1)).toNat (s.get! (i + 2)).toNat (s.get! (i + 3)).toNat).2 := by rw [Lib.decode_at]
  have gg : ∀ j (h : j < s.size), (s[j]'h).toNat = (s.get! j).toNat := fun j h => by rw [← get_at s j h]; rfl
  have q0 : ∀ h, (s[i]'h).toNat = (s.get! i).toNat := gg i
  have q1 : ∀ h, (s[i + 1]'h).toNat = (s.get! (i + 1)).toNat := gg (i + 1)
  have q2 : ∀ h, (s[i + 2]'h).toNat = (s.get! (i + 2)).toNat := gg (i + 2)
  have q3 : ∀ h, (s[i + 3]'h).toNat = (s.get! (i + 3)).toNat := gg (i + 3)
  clear gg
  generalize (s.get! i).toNat = b0 at hd q0
  generalize (s.get! (i + 1)).toNat = b1 at hd q1
  generalize (s.get! (i + 2)).toNat = b2 at hd q2
  generalize (s.get! (i + 3)).toNat = b3 at hd q3
  have Hd := hide hd
  clear hd
  go_enter Efvg.func36, Efvg.ntmps36
  go_wp2_with (go_at_call 40; refine (isCont_any _ _).mono ?_; rintro e w' ⟨rfl, rfl⟩)
  all_goals
    go_ret
    refine ⟨ret_int ?_, rfl⟩
    rw [unhide Hd]
    clear Hd q0 q1 q2 q3
    go_light
    try simp only [beq_iff_eq, beq_eq_false_iff_ne, ne_eq] at *
    first
      | (refine cl2 ?_; unfold Ok2; omega)
      | (refine cl3 ?_; unfold Ok3; omega)
      | (refine cl4 ?_; unfold Ok4; omega)
      | (refine cl1 ?_ ?_ ?_; (unfold Ok2; omega); (unfold Ok3; omega); (unfold Ok4; omega))
end Go.Proofs.YoefvwDoor
