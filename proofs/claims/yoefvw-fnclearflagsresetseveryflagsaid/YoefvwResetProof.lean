/-
  FnClearFlagsResetsEveryFlag: the given shell of the proof, its hole filled by the walk of YoefvwResetWalk.
-/
import Derived.Test.YoefvwRows
import Derived.Test.YoefvwResetWalk
import Derived.WalkKit
import Derived.ProofKit
import Derived.OpenShut
import Derived.ShutString
import Derived.ChangeOld
import Derived.Below
namespace Go.Proofs.Yoefvw.fnClearFlagsResetsEveryFlag
open Go.ChangeShapes Go.WideShapes Go.ChangeAt Go.RowKit
open Go.ChangeMaps (open_string shut_string)
set_option linter.unusedVariables false

theorem own : ownKnob Efvg.prog.godebug = none := by kernel_rfl
theorem laidOut : laidOutB Efvg.prog = true := by kernel_rfl

/-- WHAT THE WALK IS TOLD OF A SLICE OF INTEGERS THAT CAME IN: it is nil; or it leads to a row of 'cap' cells, the numbers 'zs' (the first 'len' are its elements, the rest its spare room), each fitting its kind. -/
def IsRow (k : IntKind) (w : World) (a : Option Addr) (len cap : Nat) (zs : List Int) : Prop :=
  (a = none ∧ len = 0 ∧ cap = 0 ∧ zs = []) ∨
  ∃ x, a = some x ∧ len ≤ cap ∧ cap ≤ maxLen ∧ zs.length = cap ∧ (∀ i, i < zs.length → w.cell? (x.add i) = some (.int k (zs.getD i 0))) ∧ ∀ n ∈ zs, (Lit.int k n).wf = true

/-- A row of numbers that came in reads as bytes. -/
theorem reads_of_row {w : World} {a : Option Addr} {len cap : Nat} {zs : List Int} (h : IsRow .u8 w a len cap zs) : ∃ l : List UInt8, l.length = len ∧ Reads w (.slice a len cap) l := by
  rcases h with ⟨rfl, rfl, rfl, rfl⟩ | ⟨x, rfl, hl, hm, hz, hcell, hwz⟩
  · exact ⟨[], rfl, .inl ⟨rfl, rfl⟩⟩
  · have hlz : len ≤ zs.length := by omega
    refine ⟨(zs.take len).map fun z => UInt8.ofNat z.toNat, by simp; omega, .inr ⟨x, cap, by simp [Nat.min_eq_left hlz], by simp; omega, hm, fun i c hc => ?_⟩⟩
    rw [List.getElem?_map, Option.map_eq_some_iff] at hc
    obtain ⟨z, hz1, rfl⟩ := hc
    have hi : i < len := by have := (List.getElem?_eq_some_iff.1 hz1).1; simp at this; omega
    rw [List.getElem?_take_of_lt hi] at hz1
    have hmem : z ∈ zs := List.mem_of_getElem? hz1
    have hb := bounds_u8 (hwz z hmem)
    rw [hcell i (by omega), List.getD_eq_getElem?_getD, hz1]
    congr 1
    have : (UInt8.ofNat z.toNat).toNat = z.toNat := by simp; omega
    simp only [Option.getD_some]
    rw [this]
    congr 1
    omega

/-! ### STEP 1: THE WALK -/
theorem walk (a0 : Int) (a1 : Int) (a2 : Int) (a3 : Option Addr) (len3 cap3 : Nat) (z3 : List Int) (w : World) (w0 : (Lit.int .u16 a0).wf = true) (w1 : (Lit.int .i64 a1).wf = true) (w2 : (Lit.int .i64 a2).wf = true) (w3 : IsRow .u8 w a3 len3 cap3 z3) :
    Calls Efvg.prog 3 #[.int .u16 a0, .int .i64 a1, .int .i64 a2, .slice a3 len3 cap3] w fun e w' => e = .returned (.bool true) ∧ Below w.heap.size w w' := by
  obtain ⟨l, rfl, hr⟩ := reads_of_row w3
  by_cases hl : l.length ≤ 1048576
  · exact reset_in a0 a1 a2 a3 cap3 l w hr hl
  · exact reset_out a0 a1 a2 a3 cap3 l w (by omega)

/-! ### THE ROW's STEP: WRITTEN OUT: LEAVE IT -/
set_option maxRecDepth 100000 in
theorem lifted (os : Os) (started : os.Started) (H : Type) (enc : TypeId × Value → H) :
    ReturnsInHanded {} Efvg.checked os 3 .any (Rows.fnClearFlagsResetsEveryFlagSpec.pre6 enc Efvg.prog Efvg.f3 Rows.fnClearFlagsResetsEveryFlagRow.domain false) (Rows.fnClearFlagsResetsEveryFlagSpec.post enc Efvg.prog Efvg.f3 false true false false) := by
  refine returnsInHanded_of_change (C := Efvg.checked) own started (by kernel_rfl) Efvg.func3
    (ChangeSpec.witness6 (enc := enc) (C := Efvg.checked) false ⟨#[], #[.int .u16 0, .int .i64 0, .int .i64 0, .slice none 0 0], []⟩ 8 (by kernel_rfl) (by kernel_rfl) (by kernel_rfl) (by kernel_rfl)) ?_
  intro W base args ds gs before hval0 hW hcnd _
  have hval : ∀ (j : Nat) t v, Efvg.f3.params[j]? = some t → args[j]? = some v → Value.okWide Efvg.prog W .any base t v := hval0
  have hW' := hW
  obtain ⟨p, q, hA0, hV, rfl, hfz, hnd⟩ := hW
  have hA : DataW.TrodAll enc Efvg.prog W 0 (fun _ => true) true Efvg.f3.params.toList args.toList ds p := hA0
  rw [Efvg.params3] at hA hval
  obtain ⟨v0, vs0, d0, ds0, p0, q0, hargs, rfl, rfl, h0, r0⟩ := trodAll_cons hA
  obtain ⟨v1, vs1, d1, ds1, p1, q1, rfl, rfl, rfl, h1, r1⟩ := trodAll_cons r0
  obtain ⟨v2, vs2, d2, ds2, p2, q2, rfl, rfl, rfl, h2, r2⟩ := trodAll_cons r1
  obtain ⟨v3, vs3, d3, ds3, p3, q3, rfl, rfl, rfl, h3, r3⟩ := trodAll_cons r2
  obtain ⟨rfl, rfl, rfl⟩ := trodAll_nil r3
  obtain rfl : args = #[v0, v1, v2, v3] := by cases args; simp_all
  obtain ⟨rfl, rfl⟩ := trodVars_none hV
  obtain ⟨a0, rfl, rfl, rfl, w0⟩ := open_int Efvg.underlying22 (hval 0 22 v0 rfl rfl) h0
  obtain ⟨a1, rfl, rfl, rfl, w1⟩ := open_int Efvg.underlying3 (hval 1 3 v1 rfl rfl) h1
  obtain ⟨a2, rfl, rfl, rfl, w2⟩ := open_int Efvg.underlying3 (hval 2 3 v2 rfl rfl) h2
  obtain ⟨a3, len3, cap3, rfl⟩ := okWide_slice Efvg.underlying23 (hval 3 23 v3 rfl rfl)
  have k3 := h3
  have lt3 : ∀ x ∈ p3, x.block < W.heap.size := by obtain ⟨m, hm⟩ := k3; exact DataW.trod_lt m _ _ _ hm
  obtain ⟨z3, w3⟩ : ∃ zs, IsRow .u8 W a3 len3 cap3 zs := by
    obtain ⟨fuel, hf⟩ := h3
    rcases open_ints Efvg.underlying23 Efvg.underlying5 (by kernel_rfl) hf with ⟨hcs, _⟩ | ⟨x, l, c, zs, hcs, _, hl, hm, hz, _, hcell, hwz⟩
    · simp [Value.cells] at hcs
      obtain ⟨rfl, rfl, rfl⟩ := hcs
      exact ⟨[], .inl ⟨rfl, rfl, rfl, rfl⟩⟩
    · simp [Value.cells] at hcs
      obtain ⟨rfl, rfl, rfl⟩ := hcs
      exact ⟨zs, .inr ⟨_, rfl, hl, hm, by simpa using hz, hcell, hwz⟩⟩
  clear hA0 hval0
  refine (walk a0 a1 a2 a3 len3 cap3 z3 W w0 w1 w2 w3).mono fun e W' ⟨he, bel⟩ => ?_
  subst he
  exact ⟨_, rfl, _, _, _, [], _, [], hW', trodAll_mk1 (shut_bool Efvg.underlying4 _), (trodAll_cons_mk (shut_int Efvg.underlying22 w0) (trodAll_cons_mk (shut_int Efvg.underlying3 w1) (trodAll_cons_mk (shut_int Efvg.underlying3 w2) (trodAll_cons_mk (Below.trod laidOut (by kernel_rfl) (of_decide_eq_true (by kernel_rfl)) k3 bel lt3) trodAll_mk0)))), rfl, bel.frame _, fun h => by cases h⟩

theorem over : Rows.fnClearFlagsResetsEveryFlagRow.holds Efvg.pinned (OpenSpec.ofChange Rows.fnClearFlagsResetsEveryFlagSpec) :=
  OpenClaim.holds_of_wide 3 Efvg.f3 rfl rfl rfl rfl rfl rfl rfl ⟨rfl, rfl, rfl, rfl, rfl⟩ rfl rfl rfl rfl rfl (by kernel_rfl) Efvg.func3 (by kernel_rfl)
    (of_decide_eq_true (by kernel_rfl)) (by unfold Func.isWrapper; first | (rw [if_pos (by decide +kernel)]; kernel_rfl) | (rw [if_neg (by decide +kernel)]; exact ⟨rfl, rfl⟩))
    (fun os started H enc _ => lifted os started H enc)

/-- ████ THE STATEMENT ████ -/
theorem proved : Rows.FnClearFlagsResetsEveryFlagSaid := over
end Go.Proofs.Yoefvw.fnClearFlagsResetsEveryFlag
