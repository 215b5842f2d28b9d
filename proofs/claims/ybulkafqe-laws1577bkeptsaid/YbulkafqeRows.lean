/-
  No cell of these rows narrows 'for every input' (looked for: loops, veiled, ifaces, maps, wideKeys, modest, calm, conditions, laid).
  DERIVED. THE GIVEN ROWS OF THIS SEAT. 5 by the template 'for every input the law returns true; each argument reads behind the call as it read before'; 0 by the template 'total and deterministic' (their statements: YbulkafqeTotals.lean).
  GIVEN WITH THE SEED: the statements are not yours to turn. If you find one false, say at which input.
  Laid BY PROGRAM, IN A SANDBOX (cutbox-rows.mjs): the forced cells as the released guide's own fill.sh prints them over the translation e405c06455575ee9… (all of the seat's roots in one cut). By AI agents, Wed Nov 11 2026. No macro, syntax, notation, axiom, sorry.
-/
import Derived.Test.YbulkafqeChecked
import GoSem.Claim
import GoSem.ClaimJoined
import GoSem.ClaimMapViews
import Derived.JoinedTies
import Derived.KernelRfl
namespace Go.Proofs.Ybulkafqe
/- THE CELL 'sum', in the pinned program and in every row, IS THE sha256 OF THE DUMP (.gsa) THAT YbulkafqeProg.lean LOADS. Nothing in Lean hashes anything: it is a label: what it is worth is what the hold of that sum in a sandbox is worth. -/
noncomputable def Yba.pinned : Pinned := { name := "ybulkafqe", sum := "e405c06455575ee9becbc73f298cd8b25d23c3655dc5d5a31bb39ca8164c3e87", checked := Yba.checked }
namespace Rows
def none {H : Type} : Left H := { results := [], args := [] }

/-- 'tagline.LawS1577BExact': WHATEVER THE INPUT: true; the input reads as it did. -/
def lawS1577BExactSpec : ChangeSpec := { name := "lawS1577BExact", fn := fun _ => fun
  | [d1, d2, d3] => { results := [.lit (.bool true)], args := [d1, d2, d3] }
  | _ => none }
def lawS1577BExactRow : OpenClaim := { program := "ybulkafqe", sum := "e405c06455575ee9becbc73f298cd8b25d23c3655dc5d5a31bb39ca8164c3e87", func := "example.com/tagline/tagline.LawS1577BExact", spec := "lawS1577BExact", apart := false }
def LawS1577BExactSaid : Prop := lawS1577BExactRow.holds Yba.pinned (OpenSpec.ofChange lawS1577BExactSpec)

/-- ITS FALSE NEIGHBOUR: 'it returns false'. Refute it at one input. -/
def lawS1577BExactWrong : ChangeSpec := { name := "lawS1577BExact", fn := fun _ => fun
  | [d1, d2, d3] => { results := [.lit (.bool false)], args := [d1, d2, d3] }
  | _ => none }
def LawS1577BExactWrongFalsely : Prop := lawS1577BExactRow.holds Yba.pinned (OpenSpec.ofChange lawS1577BExactWrong)

/-- 'tagline.LawS1577BJoin': WHATEVER THE INPUT: true; the input reads as it did. -/
def lawS1577BJoinSpec : ChangeSpec := { name := "lawS1577BJoin", fn := fun _ => fun
  | [d1, d2, d3] => { results := [.lit (.bool true)], args := [d1, d2, d3] }
  | _ => none }
def lawS1577BJoinRow : OpenClaim := { program := "ybulkafqe", sum := "e405c06455575ee9becbc73f298cd8b25d23c3655dc5d5a31bb39ca8164c3e87", func := "example.com/tagline/tagline.LawS1577BJoin", spec := "lawS1577BJoin", apart := false }
def LawS1577BJoinSaid : Prop := lawS1577BJoinRow.holds Yba.pinned (OpenSpec.ofChange lawS1577BJoinSpec)

/-- ITS FALSE NEIGHBOUR: 'it returns false'. Refute it at one input. -/
def lawS1577BJoinWrong : ChangeSpec := { name := "lawS1577BJoin", fn := fun _ => fun
  | [d1, d2, d3] => { results := [.lit (.bool false)], args := [d1, d2, d3] }
  | _ => none }
def LawS1577BJoinWrongFalsely : Prop := lawS1577BJoinRow.holds Yba.pinned (OpenSpec.ofChange lawS1577BJoinWrong)

/-- 'tagline.LawS1577BKept': WHATEVER THE INPUT: true; the input reads as it did. -/
def lawS1577BKeptSpec : ChangeSpec := { name := "lawS1577BKept", fn := fun _ => fun
  | [d1, d2, d3, d4] => { results := [.lit (.bool true)], args := [d1, d2, d3, d4] }
  | _ => none }
def lawS1577BKeptRow : OpenClaim := { program := "ybulkafqe", sum := "e405c06455575ee9becbc73f298cd8b25d23c3655dc5d5a31bb39ca8164c3e87", func := "example.com/tagline/tagline.LawS1577BKept", spec := "lawS1577BKept", inPlace := ["internal/abi.NoEscape", "internal/bytealg.MakeNoZero"], apart := false }
def LawS1577BKeptSaid : Prop := lawS1577BKeptRow.holds Yba.pinned (OpenSpec.ofChange lawS1577BKeptSpec)

/-- ITS FALSE NEIGHBOUR: 'it returns false'. Refute it at one input. -/
def lawS1577BKeptWrong : ChangeSpec := { name := "lawS1577BKept", fn := fun _ => fun
  | [d1, d2, d3, d4] => { results := [.lit (.bool false)], args := [d1, d2, d3, d4] }
  | _ => none }
def LawS1577BKeptWrongFalsely : Prop := lawS1577BKeptRow.holds Yba.pinned (OpenSpec.ofChange lawS1577BKeptWrong)

/-- 'tagline.LawS1577CMask': WHATEVER THE INPUT: true; the input reads as it did. -/
def lawS1577CMaskSpec : ChangeSpec := { name := "lawS1577CMask", fn := fun _ => fun
  | [d1, d2, d3] => { results := [.lit (.bool true)], args := [d1, d2, d3] }
  | _ => none }
def lawS1577CMaskRow : OpenClaim := { program := "ybulkafqe", sum := "e405c06455575ee9becbc73f298cd8b25d23c3655dc5d5a31bb39ca8164c3e87", func := "example.com/tagline/tagline.LawS1577CMask", spec := "lawS1577CMask", apart := false }
def LawS1577CMaskSaid : Prop := lawS1577CMaskRow.holds Yba.pinned (OpenSpec.ofChange lawS1577CMaskSpec)

/-- ITS FALSE NEIGHBOUR: 'it returns false'. Refute it at one input. -/
def lawS1577CMaskWrong : ChangeSpec := { name := "lawS1577CMask", fn := fun _ => fun
  | [d1, d2, d3] => { results := [.lit (.bool false)], args := [d1, d2, d3] }
  | _ => none }
def LawS1577CMaskWrongFalsely : Prop := lawS1577CMaskRow.holds Yba.pinned (OpenSpec.ofChange lawS1577CMaskWrong)

/-- 'tagline.LawS1577CText': WHATEVER THE INPUT: true; the input reads as it did. -/
def lawS1577CTextSpec : ChangeSpec := { name := "lawS1577CText", fn := fun _ => fun
  | [d1, d2] => { results := [.lit (.bool true)], args := [d1, d2] }
  | _ => none }
def lawS1577CTextRow : OpenClaim := { program := "ybulkafqe", sum := "e405c06455575ee9becbc73f298cd8b25d23c3655dc5d5a31bb39ca8164c3e87", func := "example.com/tagline/tagline.LawS1577CText", spec := "lawS1577CText", apart := false }
def LawS1577CTextSaid : Prop := lawS1577CTextRow.holds Yba.pinned (OpenSpec.ofChange lawS1577CTextSpec)

/-- ITS FALSE NEIGHBOUR: 'it returns false'. Refute it at one input. -/
def lawS1577CTextWrong : ChangeSpec := { name := "lawS1577CText", fn := fun _ => fun
  | [d1, d2] => { results := [.lit (.bool false)], args := [d1, d2] }
  | _ => none }
def LawS1577CTextWrongFalsely : Prop := lawS1577CTextRow.holds Yba.pinned (OpenSpec.ofChange lawS1577CTextWrong)

end Rows
end Go.Proofs.Ybulkafqe
