/-
  No cell of these rows narrows 'for every input' (looked for: loops, veiled, ifaces, maps, wideKeys, modest, calm, conditions, laid).
  DERIVED. THE GIVEN ROWS OF THIS SEAT. 2 by the template 'for every input the law returns true; each argument reads behind the call as it read before'; 0 by the template 'total and deterministic' (their statements: YoecqwTotals.lean).
  GIVEN WITH THE SEED: the statements are not yours to turn. If you find one false, say at which input.
  Laid BY PROGRAM, IN A SANDBOX (cutbox-rows.mjs): the forced cells as the released guide's own fill.sh prints them over the translation 23e3722e9c047fc4… (all of the seat's roots in one cut). By AI agents, Wed Nov 11 2026. No macro, syntax, notation, axiom, sorry.
-/
import Derived.Test.YoecqwChecked
import GoSem.Claim
import GoSem.ClaimJoined
import GoSem.ClaimMapViews
import Derived.JoinedTies
import Derived.KernelRfl
namespace Go.Proofs.Yoecqw
/- THE CELL 'sum', in the pinned program and in every row, IS THE sha256 OF THE DUMP (.gsa) THAT YoecqwProg.lean LOADS. Nothing in Lean hashes anything: it is a label: what it is worth is what the hold of that sum in a sandbox is worth. -/
noncomputable def Ecqg.pinned : Pinned := { name := "yoecqw", sum := "23e3722e9c047fc4cbe9f01a6d8369fd6639b86f2d3e7fed0f86eaad6ab69b72", checked := Ecqg.checked }
namespace Rows
def none {H : Type} : Left H := { results := [], args := [] }

/-- 'zzlaws_parser_b12.FnFuncTypeStringIgnoresPositions': WHATEVER THE INPUT: true; the input reads as it did. -/
def fnFuncTypeStringIgnoresPositionsSpec : ChangeSpec := { name := "fnFuncTypeStringIgnoresPositions", fn := fun _ => fun
  | [d1, d2, d3, d4, d5, d6, d7] => { results := [.lit (.bool true)], args := [d1, d2, d3, d4, d5, d6, d7] }
  | _ => none }
def fnFuncTypeStringIgnoresPositionsRow : OpenClaim := { program := "yoecqw", sum := "23e3722e9c047fc4cbe9f01a6d8369fd6639b86f2d3e7fed0f86eaad6ab69b72", func := "github.com/d5/tengo/v2/zzlaws_parser_b12.FnFuncTypeStringIgnoresPositions", spec := "fnFuncTypeStringIgnoresPositions", inPlace := ["internal/abi.NoEscape", "internal/bytealg.MakeNoZero"], apart := false }
def FnFuncTypeStringIgnoresPositionsSaid : Prop := fnFuncTypeStringIgnoresPositionsRow.holds Ecqg.pinned (OpenSpec.ofChange fnFuncTypeStringIgnoresPositionsSpec)

/-- ITS FALSE NEIGHBOUR: 'it returns false'. Refute it at one input. -/
def fnFuncTypeStringIgnoresPositionsWrong : ChangeSpec := { name := "fnFuncTypeStringIgnoresPositions", fn := fun _ => fun
  | [d1, d2, d3, d4, d5, d6, d7] => { results := [.lit (.bool false)], args := [d1, d2, d3, d4, d5, d6, d7] }
  | _ => none }
def FnFuncTypeStringIgnoresPositionsWrongFalsely : Prop := fnFuncTypeStringIgnoresPositionsRow.holds Ecqg.pinned (OpenSpec.ofChange fnFuncTypeStringIgnoresPositionsWrong)

/-- 'zzlaws_parser_b12.FnFuncTypeSpanEnclosesParams': WHATEVER THE INPUT: true; the input reads as it did. -/
def fnFuncTypeSpanEnclosesParamsSpec : ChangeSpec := { name := "fnFuncTypeSpanEnclosesParams", fn := fun _ => fun
  | [d1, d2, d3, d4, d5, d6] => { results := [.lit (.bool true)], args := [d1, d2, d3, d4, d5, d6] }
  | _ => none }
def fnFuncTypeSpanEnclosesParamsRow : OpenClaim := { program := "yoecqw", sum := "23e3722e9c047fc4cbe9f01a6d8369fd6639b86f2d3e7fed0f86eaad6ab69b72", func := "github.com/d5/tengo/v2/zzlaws_parser_b12.FnFuncTypeSpanEnclosesParams", spec := "fnFuncTypeSpanEnclosesParams", apart := false }
def FnFuncTypeSpanEnclosesParamsSaid : Prop := fnFuncTypeSpanEnclosesParamsRow.holds Ecqg.pinned (OpenSpec.ofChange fnFuncTypeSpanEnclosesParamsSpec)

/-- ITS FALSE NEIGHBOUR: 'it returns false'. Refute it at one input. -/
def fnFuncTypeSpanEnclosesParamsWrong : ChangeSpec := { name := "fnFuncTypeSpanEnclosesParams", fn := fun _ => fun
  | [d1, d2, d3, d4, d5, d6] => { results := [.lit (.bool false)], args := [d1, d2, d3, d4, d5, d6] }
  | _ => none }
def FnFuncTypeSpanEnclosesParamsWrongFalsely : Prop := fnFuncTypeSpanEnclosesParamsRow.holds Ecqg.pinned (OpenSpec.ofChange fnFuncTypeSpanEnclosesParamsWrong)

end Rows
end Go.Proofs.Yoecqw
