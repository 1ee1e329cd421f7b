/-
  DERIVED. GIVEN WITH THE SEED: THE PROGRAM's TIES (one call each: nine closed facts by the kernel) AND EACH ROW's TIE, after the 31st guide's Derived/Test/Toyas{Tie, Card}.lean. No idea stands in it: it is a product of the set-up. Laid BY PROGRAM, IN A SANDBOX (cutbox-door.mjs). By AI agents, Wed Nov 11 2026. No macro, syntax, notation, axiom, sorry.
-/
import Derived.Test.YoefvwDoorRows
import Derived.LaidByTextLater
import Derived.SevenTiedAt
import Derived.LaidSub
import Derived.LaidOnce
namespace Go.Proofs.YoefvwDoor
open Go
set_option maxRecDepth 100000
theorem seatTie1 : Efvg.prog.laidByTextLater [("github.com/d5/tengo/v2.ErrStringLimit", Rows.laid_github_com_d5_tengo_v2_ErrStringLimit), ("github.com/d5/tengo/v2.MaxStringLen", Rows.laid_github_com_d5_tengo_v2_MaxStringLen)] [.called, .data] true :=
  Program.laidByTextLater_by_one 32 8 2 (by kernel_rfl) (by kernel_rfl) (by kernel_rfl) (by kernel_rfl) (by kernel_rfl) (by kernel_rfl) (fun _ _ => by kernel_rfl)
theorem noOwnUnsafe : Efvg.pinned.checked.prog.headLifts.contains "ownunsafe" = false := by kernel_rfl
theorem tie : Efvg.prog.laidByTextLater [("github.com/d5/tengo/v2.ErrStringLimit", Rows.laid_github_com_d5_tengo_v2_ErrStringLimit), ("github.com/d5/tengo/v2.MaxStringLen", Rows.laid_github_com_d5_tengo_v2_MaxStringLen)] [.called, .data] true :=
  Program.laidByTextLater.sub seatTie1 ["github.com/d5/tengo/v2.ErrStringLimit", "github.com/d5/tengo/v2.MaxStringLen"] (by kernel_rfl) (by kernel_rfl)
theorem fnClearFlagsThenPadStringWritesPlain_row_tie : Rows.fnClearFlagsThenPadStringWritesPlainRow.laidByTextAt .later Efvg.pinned [.called, .data] true :=
  OpenClaim.laidByTextAt_later rfl rfl tie noOwnUnsafe
theorem fnWritePaddingExact_row_tie : Rows.fnWritePaddingExactRow.laidByTextAt .later Efvg.pinned [.called, .data] true :=
  OpenClaim.laidByTextAt_later rfl rfl tie noOwnUnsafe
theorem fnWritePaddingAdditive_row_tie : Rows.fnWritePaddingAdditiveRow.laidByTextAt .later Efvg.pinned [.called, .data] true :=
  OpenClaim.laidByTextAt_later rfl rfl tie noOwnUnsafe
theorem fnPadStringExact_row_tie : Rows.fnPadStringExactRow.laidByTextAt .later Efvg.pinned [.called, .data] true :=
  OpenClaim.laidByTextAt_later rfl rfl tie noOwnUnsafe
theorem fnPadStringWidthHonoured_row_tie : Rows.fnPadStringWidthHonouredRow.laidByTextAt .later Efvg.pinned [.called, .data] true :=
  OpenClaim.laidByTextAt_later rfl rfl tie noOwnUnsafe
theorem fnPadExact_row_tie : Rows.fnPadExactRow.laidByTextAt .later Efvg.pinned [.called, .data] true :=
  OpenClaim.laidByTextAt_later rfl rfl tie noOwnUnsafe
theorem fnPadAgreesWithPadString_row_tie : Rows.fnPadAgreesWithPadStringRow.laidByTextAt .later Efvg.pinned [.called, .data] true :=
  OpenClaim.laidByTextAt_later rfl rfl tie noOwnUnsafe
end Go.Proofs.YoefvwDoor
