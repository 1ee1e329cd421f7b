/-
  DERIVED. GIVEN WITH THE SEED: THE CARDS: each row of YoefvwDoorRows.lean that lists a variable, with what it lists TIED to the program's text (the seventh form; the later family's looks); each row that meets fmt, with fmt's text TOLD by the authors' own Lean function (tested against real Go, not proved from fmt's source: count such statements apart). THE CARD IS WHAT COUNTS. Prove the row's statement (the work); the ties are given (YoefvwDoorTie.lean); close each card by the builder's one call (the guide's Derived/Test/ToyasCard.lean, 'card_holds'). Laid BY PROGRAM, IN A SANDBOX (cutbox-door.mjs). By AI agents, Wed Nov 11 2026. No macro, syntax, notation, axiom, sorry.
-/
import Derived.Test.YoefvwDoorRows
import GoSem.ClaimSeven
namespace Go.Proofs.YoefvwDoor
namespace Rows

/-- THE TIED CARD OF 'zzlaws_root_b1.FnClearFlagsThenPadStringWritesPlain'. -/
def fnClearFlagsThenPadStringWritesPlainCard : Claim7 := { stood := { row := fnClearFlagsThenPadStringWritesPlainRow, standIns := [], harness := (true, "d40194bbd0d0038db6d3adde10a271b34a2552fd9cc42c864bc99931db83af84"), looks := false }, kinds := [], alts := [], laidByText := true, laidKinds := [.called, .data], laidTests := true, laidLooks := .later }
def FnClearFlagsThenPadStringWritesPlainCardSaid : Prop := Claim7.holds Efvg.pinned (.plain (OpenSpec.ofChange fnClearFlagsThenPadStringWritesPlainSpec)) fnClearFlagsThenPadStringWritesPlainCard

/-- THE TIED CARD OF 'zzlaws_root_b1.FnWritePaddingExact'. -/
def fnWritePaddingExactCard : Claim7 := { stood := { row := fnWritePaddingExactRow, standIns := [], harness := (true, "d40194bbd0d0038db6d3adde10a271b34a2552fd9cc42c864bc99931db83af84"), looks := false }, kinds := [], alts := [], laidByText := true, laidKinds := [.called, .data], laidTests := true, laidLooks := .later }
def FnWritePaddingExactCardSaid : Prop := Claim7.holds Efvg.pinned (.plain (OpenSpec.ofChange fnWritePaddingExactSpec)) fnWritePaddingExactCard

/-- THE TIED CARD OF 'zzlaws_root_b1.FnWritePaddingAdditive'. -/
def fnWritePaddingAdditiveCard : Claim7 := { stood := { row := fnWritePaddingAdditiveRow, standIns := [], harness := (true, "d40194bbd0d0038db6d3adde10a271b34a2552fd9cc42c864bc99931db83af84"), looks := false }, kinds := [], alts := [], laidByText := true, laidKinds := [.called, .data], laidTests := true, laidLooks := .later }
def FnWritePaddingAdditiveCardSaid : Prop := Claim7.holds Efvg.pinned (.plain (OpenSpec.ofChange fnWritePaddingAdditiveSpec)) fnWritePaddingAdditiveCard

/-- THE TIED CARD OF 'zzlaws_root_b1.FnPadStringExact'. -/
def fnPadStringExactCard : Claim7 := { stood := { row := fnPadStringExactRow, standIns := [], harness := (true, "d40194bbd0d0038db6d3adde10a271b34a2552fd9cc42c864bc99931db83af84"), looks := false }, kinds := [], alts := [], laidByText := true, laidKinds := [.called, .data], laidTests := true, laidLooks := .later }
def FnPadStringExactCardSaid : Prop := Claim7.holds Efvg.pinned (.plain (OpenSpec.ofChange fnPadStringExactSpec)) fnPadStringExactCard

/-- THE TIED CARD OF 'zzlaws_root_b1.FnPadStringWidthHonoured'. -/
def fnPadStringWidthHonouredCard : Claim7 := { stood := { row := fnPadStringWidthHonouredRow, standIns := [], harness := (true, "d40194bbd0d0038db6d3adde10a271b34a2552fd9cc42c864bc99931db83af84"), looks := false }, kinds := [], alts := [], laidByText := true, laidKinds := [.called, .data], laidTests := true, laidLooks := .later }
def FnPadStringWidthHonouredCardSaid : Prop := Claim7.holds Efvg.pinned (.plain (OpenSpec.ofChange fnPadStringWidthHonouredSpec)) fnPadStringWidthHonouredCard

/-- THE TIED CARD OF 'zzlaws_root_b1.FnPadExact'. -/
def fnPadExactCard : Claim7 := { stood := { row := fnPadExactRow, standIns := [], harness := (true, "d40194bbd0d0038db6d3adde10a271b34a2552fd9cc42c864bc99931db83af84"), looks := false }, kinds := [], alts := [], laidByText := true, laidKinds := [.called, .data], laidTests := true, laidLooks := .later }
def FnPadExactCardSaid : Prop := Claim7.holds Efvg.pinned (.plain (OpenSpec.ofChange fnPadExactSpec)) fnPadExactCard

/-- THE TIED CARD OF 'zzlaws_root_b1.FnPadAgreesWithPadString'. -/
def fnPadAgreesWithPadStringCard : Claim7 := { stood := { row := fnPadAgreesWithPadStringRow, standIns := [], harness := (true, "d40194bbd0d0038db6d3adde10a271b34a2552fd9cc42c864bc99931db83af84"), looks := false }, kinds := [], alts := [], laidByText := true, laidKinds := [.called, .data], laidTests := true, laidLooks := .later }
def FnPadAgreesWithPadStringCardSaid : Prop := Claim7.holds Efvg.pinned (.plain (OpenSpec.ofChange fnPadAgreesWithPadStringSpec)) fnPadAgreesWithPadStringCard
end Rows
end Go.Proofs.YoefvwDoor
