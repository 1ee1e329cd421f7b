/-
  FnPadStringWidthHonoured: the row and the card.
-/
import Derived.Test.YoefvwDoorLift
import Derived.Test.YoefvwDoorWhWalk
import Derived.Test.YoefvwDoorTie
import Derived.Test.YoefvwDoorCards
import Derived.SevenTiedAt
namespace Go.Proofs.YoefvwDoor
open Go.ChangeShapes Go.WideShapes Go.ChangeAt Go.WideMaps Go.WideElems Go.RowKit
open Go.ChangeMaps (open_string shut_string)

set_option maxRecDepth 100000 in
theorem wh_lifted (os : Os) (started : os.Started) (H : Type) (enc : TypeId × Value → H) :
    ReturnsInHanded {} Efvg.checked os 7 .any (fun w args => (Rows.fnPadStringWidthHonouredSpec.pre enc Efvg.prog Efvg.f7 [] false w args ∧ laidMetH Efvg.prog listed w) ∧ sizedMet enc Efvg.prog Efvg.f7 (OpenSpec.ofChange Rows.fnPadStringWidthHonouredSpec) false w args)
      (Rows.fnPadStringWidthHonouredSpec.post enc Efvg.prog Efvg.f7 false true false false) := by
  refine returnsInHanded_of_change_and (C := Efvg.checked) (X := fun w _ => laidMetH Efvg.prog listed w) (fun _ _ _ hh h => h.of_heap hh) own started (by kernel_rfl) Efvg.func7
    (ChangeSpec.witness_shaped (enc := enc) (C := Efvg.checked) (os := os) (X := fun w _ => laidMetH Efvg.prog listed w) false (World.doorLaid Efvg.prog 32 os) #[.slice none 0 0, .string ByteArray.empty, .bool false, .int .i64 0, .bool false, .bool false] 8 rfl (World.shaped_of_RefB (by kernel_rfl) (by kernel_rfl)) (by kernel_rfl) (by kernel_rfl) (by kernel_rfl) (door_met os _)) ?_
  intro W base args ds gs before hval0 hW _ _ hL _
  have hval : ∀ (j : Nat) t v, Efvg.f7.params[j]? = some t → args[j]? = some v → Value.okWide Efvg.prog W .any base t v := hval0
  have hW' := hW
  obtain ⟨p, q, hA0, hV0, rfl, hfz, hnd⟩ := hW
  have hA : DataW.TrodAll enc Efvg.prog W 0 (fun _ => true) true Efvg.f7.params.toList args.toList ds p := hA0
  have hV : DataW.TrodVars enc Efvg.prog W (fun _ => true) varNames gs q := hV0
  rw [Efvg.params7] at hA hval
  obtain ⟨v0, vs0, d0, ds0, p0, q0, hargs, rfl, rfl, h0, r0⟩ := trodAll_cons hA
  obtain ⟨v1, vs1, d1, ds1, p1, q1, rfl, rfl, rfl, h1, r1⟩ := trodAll_cons r0
  obtain ⟨v2, vs2, d2, ds2, p2, q2, rfl, rfl, rfl, h2, r2⟩ := trodAll_cons r1
  obtain ⟨v3, vs3, d3, ds3, p3, q3, rfl, rfl, rfl, h3, r3⟩ := trodAll_cons r2
  obtain ⟨v4, vs4, d4, ds4, p4, q4, rfl, rfl, rfl, h4, r4⟩ := trodAll_cons r3
  obtain ⟨v5, vs5, d5, ds5, p5, q5, rfl, rfl, rfl, h5, r5⟩ := trodAll_cons r4
  obtain ⟨rfl, rfl, rfl⟩ := trodAll_nil r5
  obtain rfl : args = #[v0, v1, v2, v3, v4, v5] := by cases args; simp_all
  obtain ⟨_, _, _, _, g0, _, _, _, _, _, g1, _, rfl, _⟩ := trodVars_two hV
  obtain ⟨ao0, len0, cap0, rfl⟩ := okWide_slice Efvg.underlying23 (hval 0 23 v0 rfl rfl)
  have k0 := h0
  have lt0 : ∀ x ∈ p0, x.block < W.heap.size := by obtain ⟨m, hm⟩ := k0; exact DataW.trod_lt m _ _ _ hm
  obtain ⟨l0, rfl, hr0⟩ := (by obtain ⟨fuel, hf⟩ := h0; exact reads_of_trod hf : ∃ l : List UInt8, l.length = len0 ∧ Reads W (.slice ao0 len0 cap0) l)
  obtain ⟨s1, rfl, rfl, rfl, hs1⟩ := open_string Efvg.underlying9 (hval 1 9 v1 rfl rfl) h1
  obtain ⟨a2, rfl, rfl, rfl⟩ := open_bool Efvg.underlying4 (hval 2 4 v2 rfl rfl) h2
  obtain ⟨a3, rfl, rfl, rfl, w3⟩ := open_int Efvg.underlying3 (hval 3 3 v3 rfl rfl) h3
  obtain ⟨a4, rfl, rfl, rfl⟩ := open_bool Efvg.underlying4 (hval 4 4 v4 rfl rfl) h4
  obtain ⟨a5, rfl, rfl, rfl⟩ := open_bool Efvg.underlying4 (hval 5 4 v5 rfl rfl) h5
  clear hA0 hval0
  refine (wh_walk ao0 cap0 l0 s1 a2 a3 a4 a5 W hr0 hs1 (max_of_laid hL)).mono fun e W' ⟨he, bel⟩ => ?_
  subst he
  exact ⟨_, rfl, _, _, _, [], _, _, hW', trodAll_mk1 (shut_bool Efvg.underlying4 _), (trodAll_cons_mk (Below.trod laidOut (by kernel_rfl) (of_decide_eq_true (by kernel_rfl)) k0 bel lt0) (trodAll_cons_mk (shut_string Efvg.underlying9 hs1) (trodAll_cons_mk (shut_bool Efvg.underlying4 a2) (trodAll_cons_mk (shut_int Efvg.underlying3 w3) (trodAll_cons_mk (shut_bool Efvg.underlying4 a4) (trodAll_cons_mk (shut_bool Efvg.underlying4 a5) trodAll_mk0)))))), Below.trodVars laidOut bel rowedVars hV, bel.frame _, fun h => by cases h⟩

theorem wh_row : Rows.FnPadStringWidthHonouredSaid :=
  OpenClaim.holds_of_wide 7 Efvg.f7 rfl rfl rfl rfl rfl rfl rfl ⟨rfl, rfl, rfl, rfl, rfl⟩ rfl rfl rfl rfl rfl (by kernel_rfl) Efvg.func7 (by kernel_rfl)
    (of_decide_eq_true (by kernel_rfl)) (by unfold Func.isWrapper; first | (rw [if_pos (by decide +kernel)]; kernel_rfl) | (rw [if_neg (by decide +kernel)]; exact ⟨rfl, rfl⟩))
    (fun os started H enc _ => wh_lifted os started H enc)

/-- ████ THE CARD ████ -/
theorem wh_card : Rows.FnPadStringWidthHonouredCardSaid :=
  Claim7.holds_tied_plain_at .later [] [.called, .data] true (true, "d40194bbd0d0038db6d3adde10a271b34a2552fd9cc42c864bc99931db83af84") false
    wh_row (fun _ h => by cases h) (by kernel_rfl) (fun _ h => by cases h) fnPadStringWidthHonoured_row_tie rfl ⟨rfl, rfl⟩ (by kernel_rfl) rfl
    (fun f fn hf hfn => by
      obtain rfl : f = 7 := Option.some.inj ((show Efvg.prog.funcNamed Rows.fnPadStringWidthHonouredRow.func = some 7 by kernel_rfl).symm.trans hf) |>.symm
      obtain rfl : fn = Efvg.f7 := (Option.some.inj (Efvg.func7.symm.trans hfn)).symm
      exact ⟨by kernel_rfl, fun j t ht => by
        rw [Efvg.params7] at ht
        have hm : t ∈ [23, 9, 4, 3, 4, 4] := by simpa using Array.mem_of_getElem? ht
        have hall : ([23, 9, 4, 3, 4, 4].all fun u => !Efvg.prog.wantsStandIn u) = true := by kernel_rfl
        exact (show Efvg.prog.wantsStandIn t = false by simpa using List.all_eq_true.1 hall t hm)⟩)
    (by kernel_rfl)
end Go.Proofs.YoefvwDoor
