/-
  No cell of these rows narrows 'for every input' (looked for: loops, veiled, ifaces, maps, wideKeys, modest, calm, conditions, laid).
  DERIVED. THE GIVEN ROWS OF THIS SEAT. 4 by the template 'for every input the law returns true; each argument reads behind the call as it read before'; 0 by the template 'total and deterministic' (their statements: YbulkafpcTotals.lean).
  GIVEN WITH THE SEED: the statements are not yours to turn. If you find one false, say at which input.
  Laid BY PROGRAM, IN A SANDBOX (cutbox-rows.mjs): the forced cells as the released guide's own fill.sh prints them over the translation e5432188c43ddb4e… (all of the seat's roots in one cut). By AI agents, Wed Nov 11 2026. No macro, syntax, notation, axiom, sorry.
-/
import Derived.Test.YbulkafpcChecked
import GoSem.Claim
import GoSem.ClaimJoined
import GoSem.ClaimMapViews
import Derived.JoinedTies
import Derived.KernelRfl
namespace Go.Proofs.Ybulkafpc
/- THE CELL 'sum', in the pinned program and in every row, IS THE sha256 OF THE DUMP (.gsa) THAT YbulkafpcProg.lean LOADS. Nothing in Lean hashes anything: it is a label: what it is worth is what the hold of that sum in a sandbox is worth. -/
noncomputable def Yba.pinned : Pinned := { name := "ybulkafpc", sum := "e5432188c43ddb4e9c31638e3accacbce92f2501080c39037f3777f68a05721a", checked := Yba.checked }
namespace Rows
def none {H : Type} : Left H := { results := [], args := [] }

/-- 'expand.LawS1575ACount': WHATEVER THE INPUT: true; the input reads as it did. -/
def lawS1575ACountSpec : ChangeSpec := { name := "lawS1575ACount", fn := fun _ => fun
  | [d1, d2, d3] => { results := [.lit (.bool true)], args := [d1, d2, d3] }
  | _ => none }
def lawS1575ACountRow : OpenClaim := { program := "ybulkafpc", sum := "e5432188c43ddb4e9c31638e3accacbce92f2501080c39037f3777f68a05721a", func := "example.com/graft-tags/graft-tags/pkg/expand.LawS1575ACount", spec := "lawS1575ACount", inPlace := ["internal/abi.NoEscape"], apart := false }
def LawS1575ACountSaid : Prop := lawS1575ACountRow.holds Yba.pinned (OpenSpec.ofChange lawS1575ACountSpec)

/-- ITS FALSE NEIGHBOUR: 'it returns false'. Refute it at one input. -/
def lawS1575ACountWrong : ChangeSpec := { name := "lawS1575ACount", fn := fun _ => fun
  | [d1, d2, d3] => { results := [.lit (.bool false)], args := [d1, d2, d3] }
  | _ => none }
def LawS1575ACountWrongFalsely : Prop := lawS1575ACountRow.holds Yba.pinned (OpenSpec.ofChange lawS1575ACountWrong)

/-- 'expand.LawS1575AText': WHATEVER THE INPUT: true; the input reads as it did. -/
def lawS1575ATextSpec : ChangeSpec := { name := "lawS1575AText", fn := fun _ => fun
  | [d1, d2, d3] => { results := [.lit (.bool true)], args := [d1, d2, d3] }
  | _ => none }
def lawS1575ATextRow : OpenClaim := { program := "ybulkafpc", sum := "e5432188c43ddb4e9c31638e3accacbce92f2501080c39037f3777f68a05721a", func := "example.com/graft-tags/graft-tags/pkg/expand.LawS1575AText", spec := "lawS1575AText", inPlace := ["internal/abi.NoEscape"], apart := false }
def LawS1575ATextSaid : Prop := lawS1575ATextRow.holds Yba.pinned (OpenSpec.ofChange lawS1575ATextSpec)

/-- ITS FALSE NEIGHBOUR: 'it returns false'. Refute it at one input. -/
def lawS1575ATextWrong : ChangeSpec := { name := "lawS1575AText", fn := fun _ => fun
  | [d1, d2, d3] => { results := [.lit (.bool false)], args := [d1, d2, d3] }
  | _ => none }
def LawS1575ATextWrongFalsely : Prop := lawS1575ATextRow.holds Yba.pinned (OpenSpec.ofChange lawS1575ATextWrong)

/-- 'htmlstate.LawS1575CExact': WHATEVER THE INPUT: true; the input reads as it did. -/
def lawS1575CExactSpec : ChangeSpec := { name := "lawS1575CExact", fn := fun _ => fun
  | [d] => { results := [.lit (.bool true)], args := [d] }
  | _ => none }
def lawS1575CExactRow : OpenClaim := { program := "ybulkafpc", sum := "e5432188c43ddb4e9c31638e3accacbce92f2501080c39037f3777f68a05721a", func := "example.com/graft-tags/graft-tags/pkg/htmlstate.LawS1575CExact", spec := "lawS1575CExact", unfollowed := true, recurses := true, apart := false }
def LawS1575CExactSaid : Prop := lawS1575CExactRow.holds Yba.pinned (OpenSpec.ofChange lawS1575CExactSpec)

/-- ITS FALSE NEIGHBOUR: 'it returns false'. Refute it at one input. -/
def lawS1575CExactWrong : ChangeSpec := { name := "lawS1575CExact", fn := fun _ => fun
  | [d] => { results := [.lit (.bool false)], args := [d] }
  | _ => none }
def LawS1575CExactWrongFalsely : Prop := lawS1575CExactRow.holds Yba.pinned (OpenSpec.ofChange lawS1575CExactWrong)

/-- 'htmlstate.LawS1575CIdempotent': WHATEVER THE INPUT: true; the input reads as it did. -/
def lawS1575CIdempotentSpec : ChangeSpec := { name := "lawS1575CIdempotent", fn := fun _ => fun
  | [d] => { results := [.lit (.bool true)], args := [d] }
  | _ => none }
def lawS1575CIdempotentRow : OpenClaim := { program := "ybulkafpc", sum := "e5432188c43ddb4e9c31638e3accacbce92f2501080c39037f3777f68a05721a", func := "example.com/graft-tags/graft-tags/pkg/htmlstate.LawS1575CIdempotent", spec := "lawS1575CIdempotent", unfollowed := true, recurses := true, apart := false }
def LawS1575CIdempotentSaid : Prop := lawS1575CIdempotentRow.holds Yba.pinned (OpenSpec.ofChange lawS1575CIdempotentSpec)

/-- ITS FALSE NEIGHBOUR: 'it returns false'. Refute it at one input. -/
def lawS1575CIdempotentWrong : ChangeSpec := { name := "lawS1575CIdempotent", fn := fun _ => fun
  | [d] => { results := [.lit (.bool false)], args := [d] }
  | _ => none }
def LawS1575CIdempotentWrongFalsely : Prop := lawS1575CIdempotentRow.holds Yba.pinned (OpenSpec.ofChange lawS1575CIdempotentWrong)

end Rows
end Go.Proofs.Ybulkafpc
