/-
  No cell of these rows narrows 'for every input' (looked for: loops, veiled, ifaces, maps, wideKeys, modest, calm, conditions, laid).
  DERIVED. THE GIVEN ROWS OF THIS SEAT. 2 by the template 'for every input the law returns true; each argument reads behind the call as it read before'; 0 by the template 'total and deterministic' (their statements: YoeaswTotals.lean).
  GIVEN WITH THE SEED: the statements are not yours to turn. If you find one false, say at which input.
  Laid BY PROGRAM, IN A SANDBOX (cutbox-rows.mjs): the forced cells as the released guide's own fill.sh prints them over the translation 961afd213da433b7… (all of the seat's roots in one cut). By AI agents, Wed Nov 11 2026. No macro, syntax, notation, axiom, sorry.
-/
import Derived.Test.YoeaswChecked
import GoSem.Claim
import GoSem.ClaimJoined
import GoSem.ClaimMapViews
import Derived.JoinedTies
import Derived.KernelRfl
namespace Go.Proofs.Yoeasw
/- THE CELL 'sum', in the pinned program and in every row, IS THE sha256 OF THE DUMP (.gsa) THAT YoeaswProg.lean LOADS. Nothing in Lean hashes anything: it is a label: what it is worth is what the hold of that sum in a sandbox is worth. -/
noncomputable def Easg.pinned : Pinned := { name := "yoeasw", sum := "961afd213da433b777ac49ee0f26b954d0ba65d7f012e6e7a7cf1f332670d5fa", checked := Easg.checked }
namespace Rows
def none {H : Type} : Left H := { results := [], args := [] }

/-- 'zzlaws_parser_b16.FnIndexExprChainSpec': WHATEVER THE INPUT: true; the input reads as it did. -/
def fnIndexExprChainSpecSpec : ChangeSpec := { name := "fnIndexExprChainSpec", fn := fun _ => fun
  | [d1, d2, d3, d4] => { results := [.lit (.bool true)], args := [d1, d2, d3, d4] }
  | _ => none }
def fnIndexExprChainSpecRow : OpenClaim := { program := "yoeasw", sum := "961afd213da433b777ac49ee0f26b954d0ba65d7f012e6e7a7cf1f332670d5fa", func := "github.com/d5/tengo/v2/zzlaws_parser_b16.FnIndexExprChainSpec", spec := "fnIndexExprChainSpec", unfollowed := true, recurses := true, apart := false }
def FnIndexExprChainSpecSaid : Prop := fnIndexExprChainSpecRow.holds Easg.pinned (OpenSpec.ofChange fnIndexExprChainSpecSpec)

/-- ITS FALSE NEIGHBOUR: 'it returns false'. Refute it at one input. -/
def fnIndexExprChainSpecWrong : ChangeSpec := { name := "fnIndexExprChainSpec", fn := fun _ => fun
  | [d1, d2, d3, d4] => { results := [.lit (.bool false)], args := [d1, d2, d3, d4] }
  | _ => none }
def FnIndexExprChainSpecWrongFalsely : Prop := fnIndexExprChainSpecRow.holds Easg.pinned (OpenSpec.ofChange fnIndexExprChainSpecWrong)

/-- 'zzlaws_parser_b16.FnIndexExprAgreesWithSliceExpr': WHATEVER THE INPUT: true; the input reads as it did. -/
def fnIndexExprAgreesWithSliceExprSpec : ChangeSpec := { name := "fnIndexExprAgreesWithSliceExpr", fn := fun _ => fun
  | [d1, d2, d3, d4, d5, d6] => { results := [.lit (.bool true)], args := [d1, d2, d3, d4, d5, d6] }
  | _ => none }
def fnIndexExprAgreesWithSliceExprRow : OpenClaim := { program := "yoeasw", sum := "961afd213da433b777ac49ee0f26b954d0ba65d7f012e6e7a7cf1f332670d5fa", func := "github.com/d5/tengo/v2/zzlaws_parser_b16.FnIndexExprAgreesWithSliceExpr", spec := "fnIndexExprAgreesWithSliceExpr", unfollowed := true, recurses := true, apart := false }
def FnIndexExprAgreesWithSliceExprSaid : Prop := fnIndexExprAgreesWithSliceExprRow.holds Easg.pinned (OpenSpec.ofChange fnIndexExprAgreesWithSliceExprSpec)

/-- ITS FALSE NEIGHBOUR: 'it returns false'. Refute it at one input. -/
def fnIndexExprAgreesWithSliceExprWrong : ChangeSpec := { name := "fnIndexExprAgreesWithSliceExpr", fn := fun _ => fun
  | [d1, d2, d3, d4, d5, d6] => { results := [.lit (.bool false)], args := [d1, d2, d3, d4, d5, d6] }
  | _ => none }
def FnIndexExprAgreesWithSliceExprWrongFalsely : Prop := fnIndexExprAgreesWithSliceExprRow.holds Easg.pinned (OpenSpec.ofChange fnIndexExprAgreesWithSliceExprWrong)

end Rows
end Go.Proofs.Yoeasw
