/-
  No cell of these rows narrows 'for every input' (looked for: loops, veiled, ifaces, maps, wideKeys, modest, calm, conditions, laid).
  DERIVED. THE GIVEN ROWS OF THIS SEAT. 1 by the template 'for every input the law returns true; each argument reads behind the call as it read before'; 0 by the template 'total and deterministic' (their statements: YoefvwTotals.lean).
  GIVEN WITH THE SEED: the statements are not yours to turn. If you find one false, say at which input.
  Laid BY PROGRAM, IN A SANDBOX (cutbox-rows.mjs): the forced cells as the released guide's own fill.sh prints them over the translation 26a831cec2db816f… (all of the seat's roots in one cut). By AI agents, Wed Nov 11 2026. No macro, syntax, notation, axiom, sorry.
-/
import Derived.Test.YoefvwChecked
import GoSem.Claim
import GoSem.ClaimJoined
import GoSem.ClaimMapViews
import Derived.JoinedTies
import Derived.KernelRfl
namespace Go.Proofs.Yoefvw
/- THE CELL 'sum', in the pinned program and in every row, IS THE sha256 OF THE DUMP (.gsa) THAT YoefvwProg.lean LOADS. Nothing in Lean hashes anything: it is a label: what it is worth is what the hold of that sum in a sandbox is worth. -/
noncomputable def Efvg.pinned : Pinned := { name := "yoefvw", sum := "26a831cec2db816f53d8139445e36b6e363f7fc5448da9d961dfd55991f89726", checked := Efvg.checked }
namespace Rows
def none {H : Type} : Left H := { results := [], args := [] }

/-- 'zzlaws_root_b1.FnClearFlagsResetsEveryFlag': WHATEVER THE INPUT: true; the input reads as it did. -/
def fnClearFlagsResetsEveryFlagSpec : ChangeSpec := { name := "fnClearFlagsResetsEveryFlag", fn := fun _ => fun
  | [d1, d2, d3, d4] => { results := [.lit (.bool true)], args := [d1, d2, d3, d4] }
  | _ => none }
def fnClearFlagsResetsEveryFlagRow : OpenClaim := { program := "yoefvw", sum := "26a831cec2db816f53d8139445e36b6e363f7fc5448da9d961dfd55991f89726", func := "github.com/d5/tengo/v2/zzlaws_root_b1.FnClearFlagsResetsEveryFlag", spec := "fnClearFlagsResetsEveryFlag", apart := false }
def FnClearFlagsResetsEveryFlagSaid : Prop := fnClearFlagsResetsEveryFlagRow.holds Efvg.pinned (OpenSpec.ofChange fnClearFlagsResetsEveryFlagSpec)

/-- ITS FALSE NEIGHBOUR: 'it returns false'. Refute it at one input. -/
def fnClearFlagsResetsEveryFlagWrong : ChangeSpec := { name := "fnClearFlagsResetsEveryFlag", fn := fun _ => fun
  | [d1, d2, d3, d4] => { results := [.lit (.bool false)], args := [d1, d2, d3, d4] }
  | _ => none }
def FnClearFlagsResetsEveryFlagWrongFalsely : Prop := fnClearFlagsResetsEveryFlagRow.holds Efvg.pinned (OpenSpec.ofChange fnClearFlagsResetsEveryFlagWrong)

end Rows
end Go.Proofs.Yoefvw
