/-
  NARROWER THAN 'FOR EVERY INPUT', by the rows' own cells (each row's printed sentence says how): LawS1582BExact: ifaces, laid · LawS1582BAccepts: ifaces, laid.
  DERIVED. THE GIVEN ROWS OF THIS SEAT. 3 by the template 'for every input the law returns true; each argument reads behind the call as it read before'; 0 by the template 'total and deterministic' (their statements: YbulkafswFmtTotals.lean).
  GIVEN WITH THE SEED: the statements are not yours to turn. If you find one false, say at which input.
  Laid BY PROGRAM, IN A SANDBOX (cutbox-rows.mjs): the forced cells as the released guide's own fill.sh prints them over the translation fc39714af116581d… (all of the seat's roots in one cut). By AI agents, Wed Nov 11 2026. No macro, syntax, notation, axiom, sorry.
-/
import Derived.Test.YbulkafswFmtChecked
import GoSem.Claim
import GoSem.ClaimJoined
import GoSem.ClaimMapViews
import Derived.JoinedTies
import Derived.KernelRfl
namespace Go.Proofs.YbulkafswFmt
/- THE CELL 'sum', in the pinned program and in every row, IS THE sha256 OF THE DUMP (.gsa) THAT YbulkafswFmtProg.lean LOADS. Nothing in Lean hashes anything: it is a label: what it is worth is what the hold of that sum in a sandbox is worth. -/
noncomputable def Ybaf.pinned : Pinned := { name := "ybulkafswfmt", sum := "fc39714af116581d3a9f074b4b8c35ff7d83f0208fa0373b89fe294d85e92d55", checked := Ybaf.checked }
namespace Rows
def none {H : Type} : Left H := { results := [], args := [] }

/- WHAT THE LISTED PACKAGE-LEVEL VARIABLES READ AS WHEN THE CALL BEGINS. Each datum BY PROGRAM (the guide's laid-datum.mjs) off the statement by which the dump's own 'gosem.cut.vars' lays the variable. In a bare row this is a premise. The card (YbulkafswFmtCards.lean) ties it to the program's text. -/
def laid_io_EOF {H : Type} : DataW H := .iface "*errors.errorString" (.ptr (.agg [.lit (.string [69, 79, 70])]))
def laid_math_big_errNoDigits {H : Type} : DataW H := .iface "*errors.errorString" (.ptr (.agg [.lit (.string [110, 117, 109, 98, 101, 114, 32, 104, 97, 115, 32, 110, 111, 32, 100, 105, 103, 105, 116, 115])]))
def laid_math_big_errInvalSep {H : Type} : DataW H := .iface "*errors.errorString" (.ptr (.agg [.lit (.string [39, 95, 39, 32, 109, 117, 115, 116, 32, 115, 101, 112, 97, 114, 97, 116, 101, 32, 115, 117, 99, 99, 101, 115, 115, 105, 118, 101, 32, 100, 105, 103, 105, 116, 115])]))
def laid_example_com_reserveframe_reserveframe_errNotDecimal {H : Type} : DataW H := .iface "*errors.errorString" (.ptr (.agg [.lit (.string [110, 111, 116, 32, 97, 32, 100, 101, 99, 105, 109, 97, 108, 32, 110, 117, 109, 98, 101, 114, 32, 40, 97, 110, 32, 111, 112, 116, 105, 111, 110, 97, 108, 32, 115, 105, 103, 110, 44, 32, 100, 105, 103, 105, 116, 115, 44, 32, 97, 110, 100, 32, 111, 112, 116, 105, 111, 110, 97, 108, 108, 121, 32, 39, 46, 39, 32, 97, 110, 100, 32, 100, 105, 103, 105, 116, 115, 41])]))
def laid_example_com_reserveframe_reserveframe_uint64PowersOf10 {H : Type} : DataW H := .agg [.lit (.int .u64 1), .lit (.int .u64 10), .lit (.int .u64 100), .lit (.int .u64 1000), .lit (.int .u64 10000), .lit (.int .u64 100000), .lit (.int .u64 1000000), .lit (.int .u64 10000000), .lit (.int .u64 100000000), .lit (.int .u64 1000000000), .lit (.int .u64 10000000000), .lit (.int .u64 100000000000), .lit (.int .u64 1000000000000), .lit (.int .u64 10000000000000), .lit (.int .u64 100000000000000), .lit (.int .u64 1000000000000000), .lit (.int .u64 10000000000000000), .lit (.int .u64 100000000000000000), .lit (.int .u64 1000000000000000000), .lit (.int .u64 10000000000000000000)]

/-- 'reserveframe.LawS1582AHeaderName': WHATEVER THE INPUT: true; the input reads as it did. -/
def lawS1582AHeaderNameSpec : ChangeSpec := { name := "lawS1582AHeaderName", fn := fun _ => fun
  | [d1, d2] => { results := [.lit (.bool true)], args := [d1, d2] }
  | _ => none }
def lawS1582AHeaderNameRow : OpenClaim := { program := "ybulkafswfmt", sum := "fc39714af116581d3a9f074b4b8c35ff7d83f0208fa0373b89fe294d85e92d55", func := "example.com/reserveframe/reserveframe.LawS1582AHeaderName", spec := "lawS1582AHeaderName", stops := ["fmt.Sprintf"], inPlace := ["fmt.Sprintf"], apart := false }
/-- NO THEOREM (fmt's text is open here; it may be false): for the released tool's asking of the row's closed facts alone. THE STATEMENT IS 'LawS1582AHeaderNameToldSaid' (YbulkafswFmtCards.lean). -/
def LawS1582AHeaderNameFormAsk : Prop := lawS1582AHeaderNameRow.holds Ybaf.pinned (OpenSpec.ofChange lawS1582AHeaderNameSpec)

/-- ITS FALSE NEIGHBOUR: 'it returns false'. Refute it at one input. -/
def lawS1582AHeaderNameWrong : ChangeSpec := { name := "lawS1582AHeaderName", fn := fun _ => fun
  | [d1, d2] => { results := [.lit (.bool false)], args := [d1, d2] }
  | _ => none }
def LawS1582AHeaderNameWrongFormAsk : Prop := lawS1582AHeaderNameRow.holds Ybaf.pinned (OpenSpec.ofChange lawS1582AHeaderNameWrong)

/-- 'reserveframe.LawS1582BExact': WHATEVER THE INPUT: true; the input reads as it did. -/
def lawS1582BExactSpec : ChangeSpec := { name := "lawS1582BExact", vars := ["example.com/reserveframe/reserveframe.errNotDecimal", "example.com/reserveframe/reserveframe.uint64PowersOf10"], fn := fun _ => fun
  | [d1, d2, d3, d4, g1, g2] => { results := [.lit (.bool true)], args := [d1, d2, d3, d4], vars := [g1, g2] }
  | _ => none }
def lawS1582BExactRow : OpenClaim := { program := "ybulkafswfmt", sum := "fc39714af116581d3a9f074b4b8c35ff7d83f0208fa0373b89fe294d85e92d55", func := "example.com/reserveframe/reserveframe.LawS1582BExact", spec := "lawS1582BExact", stops := ["fmt.Sprintf"], inPlace := ["internal/bytealg.IndexByteString", "internal/bytealg.IndexString", "fmt.Sprintf", "math/big.mulAddVWW", "math/bits.Add64", "math/big.rshVU"], unfollowed := true, recurses := true, named := ["example.com/reserveframe/reserveframe.errNotDecimal", "example.com/reserveframe/reserveframe.uint64PowersOf10", "internal/bytealg.MaxLen", "io.EOF", "math/big.errInvalSep", "math/big.errNoDigits"], ifaces := true, apart := false, laid := [("io.EOF", laid_io_EOF), ("math/big.errNoDigits", laid_math_big_errNoDigits), ("math/big.errInvalSep", laid_math_big_errInvalSep), ("example.com/reserveframe/reserveframe.errNotDecimal", laid_example_com_reserveframe_reserveframe_errNotDecimal), ("example.com/reserveframe/reserveframe.uint64PowersOf10", laid_example_com_reserveframe_reserveframe_uint64PowersOf10)] }
/-- NO THEOREM (fmt's text is open here; it may be false): for the released tool's asking of the row's closed facts alone. THE STATEMENT IS 'LawS1582BExactToldSaid' (YbulkafswFmtCards.lean). -/
def LawS1582BExactFormAsk : Prop := lawS1582BExactRow.holds Ybaf.pinned (OpenSpec.ofChange lawS1582BExactSpec)

/-- ITS FALSE NEIGHBOUR: 'it returns false'. Refute it at one input. -/
def lawS1582BExactWrong : ChangeSpec := { name := "lawS1582BExact", vars := ["example.com/reserveframe/reserveframe.errNotDecimal", "example.com/reserveframe/reserveframe.uint64PowersOf10"], fn := fun _ => fun
  | [d1, d2, d3, d4, g1, g2] => { results := [.lit (.bool false)], args := [d1, d2, d3, d4], vars := [g1, g2] }
  | _ => none }
def LawS1582BExactWrongFormAsk : Prop := lawS1582BExactRow.holds Ybaf.pinned (OpenSpec.ofChange lawS1582BExactWrong)

/-- 'reserveframe.LawS1582BAccepts': WHATEVER THE INPUT: true; the input reads as it did. -/
def lawS1582BAcceptsSpec : ChangeSpec := { name := "lawS1582BAccepts", vars := ["example.com/reserveframe/reserveframe.errNotDecimal", "example.com/reserveframe/reserveframe.uint64PowersOf10"], fn := fun _ => fun
  | [d, g1, g2] => { results := [.lit (.bool true)], args := [d], vars := [g1, g2] }
  | _ => none }
def lawS1582BAcceptsRow : OpenClaim := { program := "ybulkafswfmt", sum := "fc39714af116581d3a9f074b4b8c35ff7d83f0208fa0373b89fe294d85e92d55", func := "example.com/reserveframe/reserveframe.LawS1582BAccepts", spec := "lawS1582BAccepts", stops := ["fmt.Sprintf"], inPlace := ["internal/bytealg.IndexByteString", "internal/bytealg.IndexString", "fmt.Sprintf", "math/big.mulAddVWW", "math/bits.Add64", "math/big.rshVU"], unfollowed := true, recurses := true, named := ["example.com/reserveframe/reserveframe.errNotDecimal", "example.com/reserveframe/reserveframe.uint64PowersOf10", "internal/bytealg.MaxLen", "io.EOF", "math/big.errInvalSep", "math/big.errNoDigits"], ifaces := true, apart := false, laid := [("io.EOF", laid_io_EOF), ("math/big.errNoDigits", laid_math_big_errNoDigits), ("math/big.errInvalSep", laid_math_big_errInvalSep), ("example.com/reserveframe/reserveframe.errNotDecimal", laid_example_com_reserveframe_reserveframe_errNotDecimal), ("example.com/reserveframe/reserveframe.uint64PowersOf10", laid_example_com_reserveframe_reserveframe_uint64PowersOf10)] }
/-- NO THEOREM (fmt's text is open here; it may be false): for the released tool's asking of the row's closed facts alone. THE STATEMENT IS 'LawS1582BAcceptsToldSaid' (YbulkafswFmtCards.lean). -/
def LawS1582BAcceptsFormAsk : Prop := lawS1582BAcceptsRow.holds Ybaf.pinned (OpenSpec.ofChange lawS1582BAcceptsSpec)

/-- ITS FALSE NEIGHBOUR: 'it returns false'. Refute it at one input. -/
def lawS1582BAcceptsWrong : ChangeSpec := { name := "lawS1582BAccepts", vars := ["example.com/reserveframe/reserveframe.errNotDecimal", "example.com/reserveframe/reserveframe.uint64PowersOf10"], fn := fun _ => fun
  | [d, g1, g2] => { results := [.lit (.bool false)], args := [d], vars := [g1, g2] }
  | _ => none }
def LawS1582BAcceptsWrongFormAsk : Prop := lawS1582BAcceptsRow.holds Ybaf.pinned (OpenSpec.ofChange lawS1582BAcceptsWrong)

end Rows
end Go.Proofs.YbulkafswFmt
