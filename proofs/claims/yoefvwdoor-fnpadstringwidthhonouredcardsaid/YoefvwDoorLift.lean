/-
  From a walk to the row: what the listed variables give, the witness's world, a slice of bytes opened.
-/
import Derived.Test.YoefvwDoorRows
import Derived.Test.YoefvwDoorTop
import Derived.ProofKit
import Derived.LaidMore
import Derived.OpenShut
import Derived.OpenVars
import Derived.ShutString
import Derived.Stop.Joined
namespace Go.Proofs.YoefvwDoor
open Go.ChangeShapes Go.WideShapes Go.ChangeAt Go.WideMaps Go.WideElems Go.RowKit

theorem own : ownKnob Efvg.prog.godebug = none := by kernel_rfl
theorem laidOut : laidOutB Efvg.prog = true := by kernel_rfl
/-- The two variables that every row of this seat names. -/
def varNames : List String := Rows.fnWritePaddingAdditiveSpec.vars
theorem gMax : Efvg.prog.globalNamed (varNames.headD "") = some 0 := by kernel_rfl
theorem tMax : (Efvg.prog.globals[0]?).map (·.type) = some 3 := by kernel_rfl
theorem rowedVars : varsRowed Efvg.prog varNames = true := by kernel_rfl

/-- What the rows list. -/
def listed : List (String × DataW Unit) := Rows.fnWritePaddingAdditiveRow.laid

/-- The door's own heap meets the condition. -/
theorem door_met (os : Os) (args : Array Value) : laidMetH Efvg.prog listed ((World.doorLaid Efvg.prog 32 os).forCall (fun _ _ => 0) ⟨#[], args, []⟩).memory :=
  laidMetH_of_parts3 (fuel := 8) (laidMet_of_run' 8 (by kernel_rfl) (by kernel_rfl)) (by kernel_rfl) (by kernel_rfl)

/-- What the condition gives the walks: the limit's cell. -/
theorem max_of_laid {W : World} (h : laidMetH Efvg.prog listed W) : W.cell? ⟨0, 0, none⟩ = some (.int .i64 2147483647) := by
  rw [MakeChecks.laidMetH_plain _ _ _ (by kernel_rfl)] at h
  obtain ⟨ps, ⟨g0, t0, cs0, f0, p0, q0, hg0, ht0, hv0, hd0, ⟨g1, t1, cs1, f1, p1, q1, hg1, ht1, hv1, hd1, _, _⟩, _⟩, _, _⟩ := h
  obtain rfl := Option.some.inj (gMax.symm.trans hg1)
  obtain rfl := Option.some.inj (tMax.symm.trans ht1)
  obtain ⟨k, e1, e2, _⟩ := DataW.trod_int Efvg.underlying3 hd1
  have hk : k = 2147483647 := by
    simp only [Rows.laid_github_com_d5_tengo_v2_MaxStringLen] at e2
    simp at e2
    omega
  subst hk
  have := World.var?_cell hg1 hv1 0
  rw [Array.eq_one_of_toList e1] at this
  simpa using this

/-- A slice of bytes that came in reads as bytes. -/
theorem reads_of_trod {H : Type} {enc : TypeId × Value → H} {W : World} {base fuel : Nat} {ao : Option Addr} {len cap : Nat} {d : DataW H} {p : List MemPlace} {sp : Nat → Bool} {held : Bool}
    (hf : DataW.trod enc Efvg.prog W base sp held fuel 23 (Value.slice ao len cap).cells.toList = some (d, p)) : ∃ l : List UInt8, l.length = len ∧ Reads W (.slice ao len cap) l := by
  rcases open_ints Efvg.underlying23 Efvg.underlying5 (by kernel_rfl) hf with ⟨hcs, _⟩ | ⟨x, l, c, zs, hcs, _, hl, hm, hz, _, hcell, hwz⟩
  · simp [Value.cells] at hcs
    obtain ⟨rfl, rfl, rfl⟩ := hcs
    exact ⟨[], rfl, .inl ⟨rfl, rfl⟩⟩
  · simp [Value.cells] at hcs
    obtain ⟨rfl, rfl, rfl⟩ := hcs
    have hlz : len ≤ zs.length := by rw [hz]; split <;> omega
    refine ⟨(zs.take len).map fun z => UInt8.ofNat z.toNat, by simp; omega, .inr ⟨x, cap, by simp [Nat.min_eq_left hlz], by simp; omega, hm, fun i c hc => ?_⟩⟩
    rw [List.getElem?_map, Option.map_eq_some_iff] at hc
    obtain ⟨z, hz1, rfl⟩ := hc
    have hi : i < len := by have := (List.getElem?_eq_some_iff.1 hz1).1; simp at this; omega
    rw [List.getElem?_take_of_lt hi] at hz1
    have hiz : i < zs.length := by omega
    have hmem : z ∈ zs := List.mem_of_getElem? hz1
    have hb := bounds_u8 (hwz z hmem)
    rw [hcell i hiz, List.getD_eq_getElem?_getD, hz1]
    congr 1
    have : (UInt8.ofNat z.toNat).toNat = z.toNat := by simp; omega
    simp only [Option.getD_some]
    rw [this]
    congr 1
    omega
end Go.Proofs.YoefvwDoor
