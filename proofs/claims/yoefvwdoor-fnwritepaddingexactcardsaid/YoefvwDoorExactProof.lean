/-
  FnWritePaddingExact: the row and the card.
-/
import Derived.Test.YoefvwDoorLift
import Derived.Test.YoefvwDoorExactWalk
import Derived.Test.YoefvwDoorTie
import Derived.Test.YoefvwDoorCards
import Derived.SevenTiedAt
namespace Go.Proofs.YoefvwDoor
open Go.ChangeShapes Go.WideShapes Go.ChangeAt Go.WideMaps Go.WideElems Go.RowKit
open Go.ChangeMaps (open_string shut_string)

set_option maxRecDepth 100000 in
theorem exact_lifted (os : Os) (started : os.Started) (H : Type) (enc : TypeId × Value → H) :
    ReturnsInHanded {} Efvg.checked os 4 .any (fun w args => (Rows.fnWritePaddingExactSpec.pre enc Efvg.prog Efvg.f4 [] false w args ∧ laidMetH Efvg.prog listed w) ∧ sizedMet enc Efvg.prog Efvg.f4 (OpenSpec.ofChange Rows.fnWritePaddingExactSpec) false w args)
      (Rows.fnWritePaddingExactSpec.post enc Efvg.prog Efvg.f4 false true false false) := by
  refine returnsInHanded_of_change_and (C := Efvg.checked) (X := fun w _ => laidMetH Efvg.prog listed w) (fun _ _ _ hh h => h.of_heap hh) own started (by kernel_rfl) Efvg.func4
    (ChangeSpec.witness_shaped (enc := enc) (C := Efvg.checked) (os := os) (X := fun w _ => laidMetH Efvg.prog listed w) false (World.doorLaid Efvg.prog 32 os) #[.slice none 0 0, .int .i64 0, .bool false, .bool false] 8 rfl (World.shaped_of_RefB (by kernel_rfl) (by kernel_rfl)) (by kernel_rfl) (by kernel_rfl) (by kernel_rfl) (door_met os _)) ?_
  intro W base args ds gs before hval0 hW _ _ hL _
  have hval : ∀ (j : Nat) t v, Efvg.f4.params[j]? = some t → args[j]? = some v → Value.okWide Efvg.prog W .any base t v := hval0
  have hW' := hW
  obtain ⟨p, q, hA0, hV0, rfl, hfz, hnd⟩ := hW
  have hA : DataW.TrodAll enc Efvg.prog W 0 (fun _ => true) true Efvg.f4.params.toList args.toList ds p := hA0
  have hV : DataW.TrodVars enc Efvg.prog W (fun _ => true) varNames gs q := hV0
  rw [Efvg.params4] at hA hval
  obtain ⟨v0, vs0, d0, ds0, p0, q0, hargs, rfl, rfl, h0, r0⟩ := trodAll_cons hA
  obtain ⟨v1, vs1, d1, ds1, p1, q1, rfl, rfl, rfl, h1, r1⟩ := trodAll_cons r0
  obtain ⟨v2, vs2, d2, ds2, p2, q2, rfl, rfl, rfl, h2, r2⟩ := trodAll_cons r1
  obtain ⟨v3, vs3, d3, ds3, p3, q3, rfl, rfl, rfl, h3, r3⟩ := trodAll_cons r2
  obtain ⟨rfl, rfl, rfl⟩ := trodAll_nil r3
  obtain rfl : args = #[v0, v1, v2, v3] := by cases args; simp_all
  obtain ⟨_, _, _, _, g0, _, _, _, _, _, g1, _, rfl, _⟩ := trodVars_two hV
  obtain ⟨ao0, len0, cap0, rfl⟩ := okWide_slice Efvg.underlying23 (hval 0 23 v0 rfl rfl)
  have k0 := h0
  have lt0 : ∀ x ∈ p0, x.block < W.heap.size := by obtain ⟨m, hm⟩ := k0; exact DataW.trod_lt m _ _ _ hm
  obtain ⟨l0, rfl, hr0⟩ := (by obtain ⟨fuel, hf⟩ := h0; exact reads_of_trod hf : ∃ l : List UInt8, l.length = len0 ∧ Reads W (.slice ao0 len0 cap0) l)
  obtain ⟨a1, rfl, rfl, rfl, w1⟩ := open_int Efvg.underlying3 (hval 1 3 v1 rfl rfl) h1
  obtain ⟨a2, rfl, rfl, rfl⟩ := open_bool Efvg.underlying4 (hval 2 4 v2 rfl rfl) h2
  obtain ⟨a3, rfl, rfl, rfl⟩ := open_bool Efvg.underlying4 (hval 3 4 v3 rfl rfl) h3
  clear hA0 hval0
  refine (exact_walk ao0 cap0 l0 a1 a2 a3 W hr0 (max_of_laid hL)).mono fun e W' ⟨he, bel⟩ => ?_
  subst he
  exact ⟨_, rfl, _, _, _, [], _, _, hW', trodAll_mk1 (shut_bool Efvg.underlying4 _), (trodAll_cons_mk (Below.trod laidOut (by kernel_rfl) (of_decide_eq_true (by kernel_rfl)) k0 bel lt0) (trodAll_cons_mk (shut_int Efvg.underlying3 w1) (trodAll_cons_mk (shut_bool Efvg.underlying4 a2) (trodAll_cons_mk (shut_bool Efvg.underlying4 a3) trodAll_mk0)))), Below.trodVars laidOut bel rowedVars hV, bel.frame _, fun h => by cases h⟩

theorem exact_row : Rows.FnWritePaddingExactSaid :=
  OpenClaim.holds_of_wide 4 Efvg.f4 rfl rfl rfl rfl rfl rfl rfl ⟨rfl, rfl, rfl, rfl, rfl⟩ rfl rfl rfl rfl rfl (by kernel_rfl) Efvg.func4 (by kernel_rfl)
    (of_decide_eq_true (by kernel_rfl)) (by unfold Func.isWrapper; first | (rw [if_pos (by decide +kernel)]; kernel_rfl) | (rw [if_neg (by decide +kernel)]; exact ⟨rfl, rfl⟩))
    (fun os started H enc _ => exact_lifted os started H enc)

/-- ████ THE CARD ████ -/
theorem exact_card : Rows.FnWritePaddingExactCardSaid :=
  Claim7.holds_tied_plain_at .later [] [.called, .data] true (true, "d40194bbd0d0038db6d3adde10a271b34a2552fd9cc42c864bc99931db83af84") false
    exact_row (fun _ h => by cases h) (by kernel_rfl) (fun _ h => by cases h) fnWritePaddingExact_row_tie rfl ⟨rfl, rfl⟩ (by kernel_rfl) rfl
    (fun f fn hf hfn => by
      obtain rfl : f = 4 := Option.some.inj ((show Efvg.prog.funcNamed Rows.fnWritePaddingExactRow.func = some 4 by kernel_rfl).symm.trans hf) |>.symm
      obtain rfl : fn = Efvg.f4 := (Option.some.inj (Efvg.func4.symm.trans hfn)).symm
      exact ⟨by kernel_rfl, fun j t ht => by
        rw [Efvg.params4] at ht
        have hm : t ∈ [23, 3, 4, 4] := by simpa using Array.mem_of_getElem? ht
        have hall : ([23, 3, 4, 4].all fun u => !Efvg.prog.wantsStandIn u) = true := by kernel_rfl
        exact (show Efvg.prog.wantsStandIn t = false by simpa using List.all_eq_true.1 hall t hm)⟩)
    (by kernel_rfl)
end Go.Proofs.YoefvwDoor
