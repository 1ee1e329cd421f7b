/-
  FnClearFlagsThenPadStringWritesPlain: the row and the card.
-/
import Derived.Test.YoefvwDoorLift
import Derived.Test.YoefvwDoorCfWalk
import Derived.Test.YoefvwDoorTie
import Derived.Test.YoefvwDoorCards
import Derived.SevenTiedAt
namespace Go.Proofs.YoefvwDoor
open Go.ChangeShapes Go.WideShapes Go.ChangeAt Go.WideMaps Go.WideElems Go.RowKit
open Go.ChangeMaps (open_string shut_string)

set_option maxRecDepth 100000 in
theorem cf_lifted (os : Os) (started : os.Started) (H : Type) (enc : TypeId × Value → H) :
    ReturnsInHanded {} Efvg.checked os 3 .any (fun w args => (Rows.fnClearFlagsThenPadStringWritesPlainSpec.pre enc Efvg.prog Efvg.f3 [] false w args ∧ laidMetH Efvg.prog listed w) ∧ sizedMet enc Efvg.prog Efvg.f3 (OpenSpec.ofChange Rows.fnClearFlagsThenPadStringWritesPlainSpec) false w args)
      (Rows.fnClearFlagsThenPadStringWritesPlainSpec.post enc Efvg.prog Efvg.f3 false true false false) := by
  refine returnsInHanded_of_change_and (C := Efvg.checked) (X := fun w _ => laidMetH Efvg.prog listed w) (fun _ _ _ hh h => h.of_heap hh) own started (by kernel_rfl) Efvg.func3
    (ChangeSpec.witness_shaped (enc := enc) (C := Efvg.checked) (os := os) (X := fun w _ => laidMetH Efvg.prog listed w) false (World.doorLaid Efvg.prog 32 os) #[.int .u16 0, .int .i64 0, .slice none 0 0, .string ByteArray.empty] 8 rfl (World.shaped_of_RefB (by kernel_rfl) (by kernel_rfl)) (by kernel_rfl) (by kernel_rfl) (by kernel_rfl) (door_met os _)) ?_
  intro W base args ds gs before hval0 hW _ _ hL _
  have hval : ∀ (j : Nat) t v, Efvg.f3.params[j]? = some t → args[j]? = some v → Value.okWide Efvg.prog W .any base t v := hval0
  have hW' := hW
  obtain ⟨p, q, hA0, hV0, rfl, hfz, hnd⟩ := hW
  have hA : DataW.TrodAll enc Efvg.prog W 0 (fun _ => true) true Efvg.f3.params.toList args.toList ds p := hA0
  have hV : DataW.TrodVars enc Efvg.prog W (fun _ => true) varNames gs q := hV0
  rw [Efvg.params3] at hA hval
  obtain ⟨v0, vs0, d0, ds0, p0, q0, hargs, rfl, rfl, h0, r0⟩ := trodAll_cons hA
  obtain ⟨v1, vs1, d1, ds1, p1, q1, rfl, rfl, rfl, h1, r1⟩ := trodAll_cons r0
  obtain ⟨v2, vs2, d2, ds2, p2, q2, rfl, rfl, rfl, h2, r2⟩ := trodAll_cons r1
  obtain ⟨v3, vs3, d3, ds3, p3, q3, rfl, rfl, rfl, h3, r3⟩ := trodAll_cons r2
  obtain ⟨rfl, rfl, rfl⟩ := trodAll_nil r3
  obtain rfl : args = #[v0, v1, v2, v3] := by cases args; simp_all
  obtain ⟨_, _, _, _, g0, _, _, _, _, _, g1, _, rfl, _⟩ := trodVars_two hV
  obtain ⟨a0, rfl, rfl, rfl, w0⟩ := open_int Efvg.underlying22 (hval 0 22 v0 rfl rfl) h0
  obtain ⟨a1, rfl, rfl, rfl, w1⟩ := open_int Efvg.underlying3 (hval 1 3 v1 rfl rfl) h1
  obtain ⟨ao2, len2, cap2, rfl⟩ := okWide_slice Efvg.underlying23 (hval 2 23 v2 rfl rfl)
  have k2 := h2
  have lt2 : ∀ x ∈ p2, x.block < W.heap.size := by obtain ⟨m, hm⟩ := k2; exact DataW.trod_lt m _ _ _ hm
  obtain ⟨l2, rfl, hr2⟩ := (by obtain ⟨fuel, hf⟩ := h2; exact reads_of_trod hf : ∃ l : List UInt8, l.length = len2 ∧ Reads W (.slice ao2 len2 cap2) l)
  obtain ⟨s3, rfl, rfl, rfl, hs3⟩ := open_string Efvg.underlying9 (hval 3 9 v3 rfl rfl) h3
  clear hA0 hval0
  refine (cf_walk a0 a1 ao2 cap2 l2 s3 W hr2 hs3 (max_of_laid hL)).mono fun e W' ⟨he, bel⟩ => ?_
  subst he
  exact ⟨_, rfl, _, _, _, [], _, _, hW', trodAll_mk1 (shut_bool Efvg.underlying4 _), (trodAll_cons_mk (shut_int Efvg.underlying22 w0) (trodAll_cons_mk (shut_int Efvg.underlying3 w1) (trodAll_cons_mk (Below.trod laidOut (by kernel_rfl) (of_decide_eq_true (by kernel_rfl)) k2 bel lt2) (trodAll_cons_mk (shut_string Efvg.underlying9 hs3) trodAll_mk0)))), Below.trodVars laidOut bel rowedVars hV, bel.frame _, fun h => by cases h⟩

theorem cf_row : Rows.FnClearFlagsThenPadStringWritesPlainSaid :=
  OpenClaim.holds_of_wide 3 Efvg.f3 rfl rfl rfl rfl rfl rfl rfl ⟨rfl, rfl, rfl, rfl, rfl⟩ rfl rfl rfl rfl rfl (by kernel_rfl) Efvg.func3 (by kernel_rfl)
    (of_decide_eq_true (by kernel_rfl)) (by unfold Func.isWrapper; first | (rw [if_pos (by decide +kernel)]; kernel_rfl) | (rw [if_neg (by decide +kernel)]; exact ⟨rfl, rfl⟩))
    (fun os started H enc _ => cf_lifted os started H enc)

/-- ████ THE CARD ████ -/
theorem cf_card : Rows.FnClearFlagsThenPadStringWritesPlainCardSaid :=
  Claim7.holds_tied_plain_at .later [] [.called, .data] true (true, "d40194bbd0d0038db6d3adde10a271b34a2552fd9cc42c864bc99931db83af84") false
    cf_row (fun _ h => by cases h) (by kernel_rfl) (fun _ h => by cases h) fnClearFlagsThenPadStringWritesPlain_row_tie rfl ⟨rfl, rfl⟩ (by kernel_rfl) rfl
    (fun f fn hf hfn => by
      obtain rfl : f = 3 := Option.some.inj ((show Efvg.prog.funcNamed Rows.fnClearFlagsThenPadStringWritesPlainRow.func = some 3 by kernel_rfl).symm.trans hf) |>.symm
      obtain rfl : fn = Efvg.f3 := (Option.some.inj (Efvg.func3.symm.trans hfn)).symm
      exact ⟨by kernel_rfl, fun j t ht => by
        rw [Efvg.params3] at ht
        have hm : t ∈ [22, 3, 23, 9] := by simpa using Array.mem_of_getElem? ht
        have hall : ([22, 3, 23, 9].all fun u => !Efvg.prog.wantsStandIn u) = true := by kernel_rfl
        exact (show Efvg.prog.wantsStandIn t = false by simpa using List.all_eq_true.1 hall t hm)⟩)
    (by kernel_rfl)
end Go.Proofs.YoefvwDoor
