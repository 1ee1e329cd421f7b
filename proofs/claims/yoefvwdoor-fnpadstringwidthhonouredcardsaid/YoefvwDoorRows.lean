/-
  NARROWER THAN 'FOR EVERY INPUT', by the rows' own cells (each row's printed sentence says how): FnClearFlagsThenPadStringWritesPlain: ifaces, laid · FnWritePaddingExact: ifaces, laid · FnWritePaddingAdditive: ifaces, laid · FnPadStringExact: ifaces, laid · FnPadStringWidthHonoured: ifaces, laid · FnPadExact: ifaces, laid · FnPadAgreesWithPadString: ifaces, laid.
  DERIVED. THE GIVEN ROWS OF THIS SEAT. 7 by the template 'for every input the law returns true; each argument reads behind the call as it read before'; 0 by the template 'total and deterministic' (their statements: YoefvwDoorTotals.lean).
  GIVEN WITH THE SEED: the statements are not yours to turn. If you find one false, say at which input.
  Laid BY PROGRAM, IN A SANDBOX (cutbox-rows.mjs): the forced cells as the released guide's own fill.sh prints them over the translation 9d90889c092ac4ef… (all of the seat's roots in one cut). By AI agents, Wed Nov 11 2026. No macro, syntax, notation, axiom, sorry.
-/
import Derived.Test.YoefvwDoorChecked
import GoSem.Claim
import GoSem.ClaimJoined
import GoSem.ClaimMapViews
import Derived.JoinedTies
import Derived.KernelRfl
namespace Go.Proofs.YoefvwDoor
/- THE CELL 'sum', in the pinned program and in every row, IS THE sha256 OF THE DUMP (.gsa) THAT YoefvwDoorProg.lean LOADS. Nothing in Lean hashes anything: it is a label: what it is worth is what the hold of that sum in a sandbox is worth. -/
noncomputable def Efvg.pinned : Pinned := { name := "yoefvwdoor", sum := "9d90889c092ac4efd743bc28b947bc407474165e291a384f5ae8599c85d3bbd8", checked := Efvg.checked }
namespace Rows
def none {H : Type} : Left H := { results := [], args := [] }

/- WHAT THE LISTED PACKAGE-LEVEL VARIABLES READ AS WHEN THE CALL BEGINS. Each datum BY PROGRAM (the guide's laid-datum.mjs) off the statement by which the dump's own 'gosem.cut.vars' lays the variable. In a bare row this is a premise. The card (YoefvwDoorCards.lean) ties it to the program's text. -/
def laid_github_com_d5_tengo_v2_ErrStringLimit {H : Type} : DataW H := .iface "*errors.errorString" (.ptr (.agg [.lit (.string [101, 120, 99, 101, 101, 100, 105, 110, 103, 32, 115, 116, 114, 105, 110, 103, 32, 115, 105, 122, 101, 32, 108, 105, 109, 105, 116])]))
def laid_github_com_d5_tengo_v2_MaxStringLen {H : Type} : DataW H := .lit (.int .i64 2147483647)

/-- 'zzlaws_root_b1.FnClearFlagsThenPadStringWritesPlain': WHATEVER THE INPUT: true; the input reads as it did. -/
def fnClearFlagsThenPadStringWritesPlainSpec : ChangeSpec := { name := "fnClearFlagsThenPadStringWritesPlain", vars := ["github.com/d5/tengo/v2.MaxStringLen", "github.com/d5/tengo/v2.ErrStringLimit"], fn := fun _ => fun
  | [d1, d2, d3, d4, g1, g2] => { results := [.lit (.bool true)], args := [d1, d2, d3, d4], vars := [g1, g2] }
  | _ => none }
def fnClearFlagsThenPadStringWritesPlainRow : OpenClaim := { program := "yoefvwdoor", sum := "9d90889c092ac4efd743bc28b947bc407474165e291a384f5ae8599c85d3bbd8", func := "github.com/d5/tengo/v2/zzlaws_root_b1.FnClearFlagsThenPadStringWritesPlain", spec := "fnClearFlagsThenPadStringWritesPlain", named := ["github.com/d5/tengo/v2.MaxStringLen", "github.com/d5/tengo/v2.ErrStringLimit"], ifaces := true, apart := false, laid := [("github.com/d5/tengo/v2.ErrStringLimit", laid_github_com_d5_tengo_v2_ErrStringLimit), ("github.com/d5/tengo/v2.MaxStringLen", laid_github_com_d5_tengo_v2_MaxStringLen)] }
def FnClearFlagsThenPadStringWritesPlainSaid : Prop := fnClearFlagsThenPadStringWritesPlainRow.holds Efvg.pinned (OpenSpec.ofChange fnClearFlagsThenPadStringWritesPlainSpec)

/-- ITS FALSE NEIGHBOUR: 'it returns false'. Refute it at one input. -/
def fnClearFlagsThenPadStringWritesPlainWrong : ChangeSpec := { name := "fnClearFlagsThenPadStringWritesPlain", vars := ["github.com/d5/tengo/v2.MaxStringLen", "github.com/d5/tengo/v2.ErrStringLimit"], fn := fun _ => fun
  | [d1, d2, d3, d4, g1, g2] => { results := [.lit (.bool false)], args := [d1, d2, d3, d4], vars := [g1, g2] }
  | _ => none }
def FnClearFlagsThenPadStringWritesPlainWrongFalsely : Prop := fnClearFlagsThenPadStringWritesPlainRow.holds Efvg.pinned (OpenSpec.ofChange fnClearFlagsThenPadStringWritesPlainWrong)

/-- 'zzlaws_root_b1.FnWritePaddingExact': WHATEVER THE INPUT: true; the input reads as it did. -/
def fnWritePaddingExactSpec : ChangeSpec := { name := "fnWritePaddingExact", vars := ["github.com/d5/tengo/v2.MaxStringLen", "github.com/d5/tengo/v2.ErrStringLimit"], fn := fun _ => fun
  | [d1, d2, d3, d4, g1, g2] => { results := [.lit (.bool true)], args := [d1, d2, d3, d4], vars := [g1, g2] }
  | _ => none }
def fnWritePaddingExactRow : OpenClaim := { program := "yoefvwdoor", sum := "9d90889c092ac4efd743bc28b947bc407474165e291a384f5ae8599c85d3bbd8", func := "github.com/d5/tengo/v2/zzlaws_root_b1.FnWritePaddingExact", spec := "fnWritePaddingExact", named := ["github.com/d5/tengo/v2.MaxStringLen", "github.com/d5/tengo/v2.ErrStringLimit"], ifaces := true, apart := false, laid := [("github.com/d5/tengo/v2.ErrStringLimit", laid_github_com_d5_tengo_v2_ErrStringLimit), ("github.com/d5/tengo/v2.MaxStringLen", laid_github_com_d5_tengo_v2_MaxStringLen)] }
def FnWritePaddingExactSaid : Prop := fnWritePaddingExactRow.holds Efvg.pinned (OpenSpec.ofChange fnWritePaddingExactSpec)

/-- ITS FALSE NEIGHBOUR: 'it returns false'. Refute it at one input. -/
def fnWritePaddingExactWrong : ChangeSpec := { name := "fnWritePaddingExact", vars := ["github.com/d5/tengo/v2.MaxStringLen", "github.com/d5/tengo/v2.ErrStringLimit"], fn := fun _ => fun
  | [d1, d2, d3, d4, g1, g2] => { results := [.lit (.bool false)], args := [d1, d2, d3, d4], vars := [g1, g2] }
  | _ => none }
def FnWritePaddingExactWrongFalsely : Prop := fnWritePaddingExactRow.holds Efvg.pinned (OpenSpec.ofChange fnWritePaddingExactWrong)

/-- 'zzlaws_root_b1.FnWritePaddingAdditive': WHATEVER THE INPUT: true; the input reads as it did. -/
def fnWritePaddingAdditiveSpec : ChangeSpec := { name := "fnWritePaddingAdditive", vars := ["github.com/d5/tengo/v2.MaxStringLen", "github.com/d5/tengo/v2.ErrStringLimit"], fn := fun _ => fun
  | [d1, d2, d3, d4, g1, g2] => { results := [.lit (.bool true)], args := [d1, d2, d3, d4], vars := [g1, g2] }
  | _ => none }
def fnWritePaddingAdditiveRow : OpenClaim := { program := "yoefvwdoor", sum := "9d90889c092ac4efd743bc28b947bc407474165e291a384f5ae8599c85d3bbd8", func := "github.com/d5/tengo/v2/zzlaws_root_b1.FnWritePaddingAdditive", spec := "fnWritePaddingAdditive", named := ["github.com/d5/tengo/v2.MaxStringLen", "github.com/d5/tengo/v2.ErrStringLimit"], ifaces := true, apart := false, laid := [("github.com/d5/tengo/v2.ErrStringLimit", laid_github_com_d5_tengo_v2_ErrStringLimit), ("github.com/d5/tengo/v2.MaxStringLen", laid_github_com_d5_tengo_v2_MaxStringLen)] }
def FnWritePaddingAdditiveSaid : Prop := fnWritePaddingAdditiveRow.holds Efvg.pinned (OpenSpec.ofChange fnWritePaddingAdditiveSpec)

/-- ITS FALSE NEIGHBOUR: 'it returns false'. Refute it at one input. -/
def fnWritePaddingAdditiveWrong : ChangeSpec := { name := "fnWritePaddingAdditive", vars := ["github.com/d5/tengo/v2.MaxStringLen", "github.com/d5/tengo/v2.ErrStringLimit"], fn := fun _ => fun
  | [d1, d2, d3, d4, g1, g2] => { results := [.lit (.bool false)], args := [d1, d2, d3, d4], vars := [g1, g2] }
  | _ => none }
def FnWritePaddingAdditiveWrongFalsely : Prop := fnWritePaddingAdditiveRow.holds Efvg.pinned (OpenSpec.ofChange fnWritePaddingAdditiveWrong)

/-- 'zzlaws_root_b1.FnPadStringExact': WHATEVER THE INPUT: true; the input reads as it did. -/
def fnPadStringExactSpec : ChangeSpec := { name := "fnPadStringExact", vars := ["github.com/d5/tengo/v2.MaxStringLen", "github.com/d5/tengo/v2.ErrStringLimit"], fn := fun _ => fun
  | [d1, d2, d3, d4, d5, d6, g1, g2] => { results := [.lit (.bool true)], args := [d1, d2, d3, d4, d5, d6], vars := [g1, g2] }
  | _ => none }
def fnPadStringExactRow : OpenClaim := { program := "yoefvwdoor", sum := "9d90889c092ac4efd743bc28b947bc407474165e291a384f5ae8599c85d3bbd8", func := "github.com/d5/tengo/v2/zzlaws_root_b1.FnPadStringExact", spec := "fnPadStringExact", named := ["github.com/d5/tengo/v2.MaxStringLen", "github.com/d5/tengo/v2.ErrStringLimit"], ifaces := true, apart := false, laid := [("github.com/d5/tengo/v2.ErrStringLimit", laid_github_com_d5_tengo_v2_ErrStringLimit), ("github.com/d5/tengo/v2.MaxStringLen", laid_github_com_d5_tengo_v2_MaxStringLen)] }
def FnPadStringExactSaid : Prop := fnPadStringExactRow.holds Efvg.pinned (OpenSpec.ofChange fnPadStringExactSpec)

/-- ITS FALSE NEIGHBOUR: 'it returns false'. Refute it at one input. -/
def fnPadStringExactWrong : ChangeSpec := { name := "fnPadStringExact", vars := ["github.com/d5/tengo/v2.MaxStringLen", "github.com/d5/tengo/v2.ErrStringLimit"], fn := fun _ => fun
  | [d1, d2, d3, d4, d5, d6, g1, g2] => { results := [.lit (.bool false)], args := [d1, d2, d3, d4, d5, d6], vars := [g1, g2] }
  | _ => none }
def FnPadStringExactWrongFalsely : Prop := fnPadStringExactRow.holds Efvg.pinned (OpenSpec.ofChange fnPadStringExactWrong)

/-- 'zzlaws_root_b1.FnPadStringWidthHonoured': WHATEVER THE INPUT: true; the input reads as it did. -/
def fnPadStringWidthHonouredSpec : ChangeSpec := { name := "fnPadStringWidthHonoured", vars := ["github.com/d5/tengo/v2.MaxStringLen", "github.com/d5/tengo/v2.ErrStringLimit"], fn := fun _ => fun
  | [d1, d2, d3, d4, d5, d6, g1, g2] => { results := [.lit (.bool true)], args := [d1, d2, d3, d4, d5, d6], vars := [g1, g2] }
  | _ => none }
def fnPadStringWidthHonouredRow : OpenClaim := { program := "yoefvwdoor", sum := "9d90889c092ac4efd743bc28b947bc407474165e291a384f5ae8599c85d3bbd8", func := "github.com/d5/tengo/v2/zzlaws_root_b1.FnPadStringWidthHonoured", spec := "fnPadStringWidthHonoured", named := ["github.com/d5/tengo/v2.MaxStringLen", "github.com/d5/tengo/v2.ErrStringLimit"], ifaces := true, apart := false, laid := [("github.com/d5/tengo/v2.ErrStringLimit", laid_github_com_d5_tengo_v2_ErrStringLimit), ("github.com/d5/tengo/v2.MaxStringLen", laid_github_com_d5_tengo_v2_MaxStringLen)] }
def FnPadStringWidthHonouredSaid : Prop := fnPadStringWidthHonouredRow.holds Efvg.pinned (OpenSpec.ofChange fnPadStringWidthHonouredSpec)

/-- ITS FALSE NEIGHBOUR: 'it returns false'. Refute it at one input. -/
def fnPadStringWidthHonouredWrong : ChangeSpec := { name := "fnPadStringWidthHonoured", vars := ["github.com/d5/tengo/v2.MaxStringLen", "github.com/d5/tengo/v2.ErrStringLimit"], fn := fun _ => fun
  | [d1, d2, d3, d4, d5, d6, g1, g2] => { results := [.lit (.bool false)], args := [d1, d2, d3, d4, d5, d6], vars := [g1, g2] }
  | _ => none }
def FnPadStringWidthHonouredWrongFalsely : Prop := fnPadStringWidthHonouredRow.holds Efvg.pinned (OpenSpec.ofChange fnPadStringWidthHonouredWrong)

/-- 'zzlaws_root_b1.FnPadExact': WHATEVER THE INPUT: true; the input reads as it did. -/
def fnPadExactSpec : ChangeSpec := { name := "fnPadExact", vars := ["github.com/d5/tengo/v2.MaxStringLen", "github.com/d5/tengo/v2.ErrStringLimit"], fn := fun _ => fun
  | [d1, d2, d3, d4, d5, d6, g1, g2] => { results := [.lit (.bool true)], args := [d1, d2, d3, d4, d5, d6], vars := [g1, g2] }
  | _ => none }
def fnPadExactRow : OpenClaim := { program := "yoefvwdoor", sum := "9d90889c092ac4efd743bc28b947bc407474165e291a384f5ae8599c85d3bbd8", func := "github.com/d5/tengo/v2/zzlaws_root_b1.FnPadExact", spec := "fnPadExact", named := ["github.com/d5/tengo/v2.MaxStringLen", "github.com/d5/tengo/v2.ErrStringLimit"], ifaces := true, apart := false, laid := [("github.com/d5/tengo/v2.ErrStringLimit", laid_github_com_d5_tengo_v2_ErrStringLimit), ("github.com/d5/tengo/v2.MaxStringLen", laid_github_com_d5_tengo_v2_MaxStringLen)] }
def FnPadExactSaid : Prop := fnPadExactRow.holds Efvg.pinned (OpenSpec.ofChange fnPadExactSpec)

/-- ITS FALSE NEIGHBOUR: 'it returns false'. Refute it at one input. -/
def fnPadExactWrong : ChangeSpec := { name := "fnPadExact", vars := ["github.com/d5/tengo/v2.MaxStringLen", "github.com/d5/tengo/v2.ErrStringLimit"], fn := fun _ => fun
  | [d1, d2, d3, d4, d5, d6, g1, g2] => { results := [.lit (.bool false)], args := [d1, d2, d3, d4, d5, d6], vars := [g1, g2] }
  | _ => none }
def FnPadExactWrongFalsely : Prop := fnPadExactRow.holds Efvg.pinned (OpenSpec.ofChange fnPadExactWrong)

/-- 'zzlaws_root_b1.FnPadAgreesWithPadString': WHATEVER THE INPUT: true; the input reads as it did. -/
def fnPadAgreesWithPadStringSpec : ChangeSpec := { name := "fnPadAgreesWithPadString", vars := ["github.com/d5/tengo/v2.MaxStringLen", "github.com/d5/tengo/v2.ErrStringLimit"], fn := fun _ => fun
  | [d1, d2, d3, d4, d5, d6, g1, g2] => { results := [.lit (.bool true)], args := [d1, d2, d3, d4, d5, d6], vars := [g1, g2] }
  | _ => none }
def fnPadAgreesWithPadStringRow : OpenClaim := { program := "yoefvwdoor", sum := "9d90889c092ac4efd743bc28b947bc407474165e291a384f5ae8599c85d3bbd8", func := "github.com/d5/tengo/v2/zzlaws_root_b1.FnPadAgreesWithPadString", spec := "fnPadAgreesWithPadString", named := ["github.com/d5/tengo/v2.MaxStringLen", "github.com/d5/tengo/v2.ErrStringLimit"], ifaces := true, apart := false, laid := [("github.com/d5/tengo/v2.ErrStringLimit", laid_github_com_d5_tengo_v2_ErrStringLimit), ("github.com/d5/tengo/v2.MaxStringLen", laid_github_com_d5_tengo_v2_MaxStringLen)] }
def FnPadAgreesWithPadStringSaid : Prop := fnPadAgreesWithPadStringRow.holds Efvg.pinned (OpenSpec.ofChange fnPadAgreesWithPadStringSpec)

/-- ITS FALSE NEIGHBOUR: 'it returns false'. Refute it at one input. -/
def fnPadAgreesWithPadStringWrong : ChangeSpec := { name := "fnPadAgreesWithPadString", vars := ["github.com/d5/tengo/v2.MaxStringLen", "github.com/d5/tengo/v2.ErrStringLimit"], fn := fun _ => fun
  | [d1, d2, d3, d4, d5, d6, g1, g2] => { results := [.lit (.bool false)], args := [d1, d2, d3, d4, d5, d6], vars := [g1, g2] }
  | _ => none }
def FnPadAgreesWithPadStringWrongFalsely : Prop := fnPadAgreesWithPadStringRow.holds Efvg.pinned (OpenSpec.ofChange fnPadAgreesWithPadStringWrong)

end Rows
end Go.Proofs.YoefvwDoor
