/-
  NARROWER THAN 'FOR EVERY INPUT', by the rows' own cells (each row's printed sentence says how): LawS2047CPassThrough: ifaces, laid · LawS2047CParse: ifaces, laid · LawS2047CTooLong: ifaces, laid.
  DERIVED. THE GIVEN ROWS OF THIS SEAT. 5 by the template 'for every input the law returns true; each argument reads behind the call as it read before'; 0 by the template 'total and deterministic' (their statements: YbulkapjgFmtTotals.lean).
  GIVEN WITH THE SEED: the statements are not yours to turn. If you find one false, say at which input.
  Laid BY PROGRAM, IN A SANDBOX (cutbox-rows.mjs): the forced cells as the released guide's own fill.sh prints them over the translation efe4318811360dc9… (all of the seat's roots in one cut). By AI agents, Wed Nov 11 2026. No macro, syntax, notation, axiom, sorry.
-/
import Derived.Test.YbulkapjgFmtChecked
import GoSem.Claim
import GoSem.ClaimJoined
import GoSem.ClaimMapViews
import Derived.JoinedTies
import Derived.KernelRfl
namespace Go.Proofs.YbulkapjgFmt
/- THE CELL 'sum', in the pinned program and in every row, IS THE sha256 OF THE DUMP (.gsa) THAT YbulkapjgFmtProg.lean LOADS. Nothing in Lean hashes anything: it is a label: what it is worth is what the hold of that sum in a sandbox is worth. -/
noncomputable def Ybaf.pinned : Pinned := { name := "ybulkapjgfmt", sum := "efe4318811360dc945879e42b154fd51e745dd6b712a2cb33d95f3e47410727d", checked := Ybaf.checked }
namespace Rows
def none {H : Type} : Left H := { results := [], args := [] }

/- WHAT THE LISTED PACKAGE-LEVEL VARIABLES READ AS WHEN THE CALL BEGINS. Each datum BY PROGRAM (the guide's laid-datum.mjs) off the statement by which the dump's own 'gosem.cut.vars' lays the variable. In a bare row this is a premise. The card (YbulkapjgFmtCards.lean) ties it to the program's text. -/
def laid_errors_errorType {H : Type} : DataW H := .iface "internal/reflectlite.rtype" (.agg [.ptr (.lit (.string [101, 114, 114, 111, 114]))])
def laid_encoding_csv_ErrFieldCount {H : Type} : DataW H := .iface "*errors.errorString" (.ptr (.agg [.lit (.string [119, 114, 111, 110, 103, 32, 110, 117, 109, 98, 101, 114, 32, 111, 102, 32, 102, 105, 101, 108, 100, 115])]))
def laid_example_com_capmax_capmax_errRecordTooLong {H : Type} : DataW H := .iface "*errors.errorString" (.ptr (.agg [.lit (.string [114, 101, 99, 111, 114, 100, 32, 116, 111, 111, 32, 108, 111, 110, 103])]))

/-- 'capmax.LawS2047BOptimal': WHATEVER THE INPUT: true; the input reads as it did. -/
def lawS2047BOptimalSpec : ChangeSpec := { name := "lawS2047BOptimal", fn := fun _ => fun
  | [d1, d2] => { results := [.lit (.bool true)], args := [d1, d2] }
  | _ => none }
def lawS2047BOptimalRow : OpenClaim := { program := "ybulkapjgfmt", sum := "efe4318811360dc945879e42b154fd51e745dd6b712a2cb33d95f3e47410727d", func := "example.com/capmax/capmax.LawS2047BOptimal", spec := "lawS2047BOptimal", stops := ["fmt.errorf, its operands' methods called", "fmt.Sprintf, its operands' methods called"], inPlace := ["fmt.errorf", "internal/reflectlite.ValueOf", "internal/reflectlite.Swapper", "(internal/reflectlite.Value).Len"], unfollowed := true, recurses := true, apart := false }
/-- NO THEOREM (fmt's text is open here; it may be false): for the released tool's asking of the row's closed facts alone. THE STATEMENT IS 'LawS2047BOptimalToldSaid' (YbulkapjgFmtCards.lean). -/
def LawS2047BOptimalFormAsk : Prop := lawS2047BOptimalRow.holds Ybaf.pinned (OpenSpec.ofChange lawS2047BOptimalSpec)

/-- ITS FALSE NEIGHBOUR: 'it returns false'. Refute it at one input. -/
def lawS2047BOptimalWrong : ChangeSpec := { name := "lawS2047BOptimal", fn := fun _ => fun
  | [d1, d2] => { results := [.lit (.bool false)], args := [d1, d2] }
  | _ => none }
def LawS2047BOptimalWrongFormAsk : Prop := lawS2047BOptimalRow.holds Ybaf.pinned (OpenSpec.ofChange lawS2047BOptimalWrong)

/-- 'capmax.LawS2047BVector': WHATEVER THE INPUT: true; the input reads as it did. -/
def lawS2047BVectorSpec : ChangeSpec := { name := "lawS2047BVector", fn := fun _ => fun
  | [d1, d2] => { results := [.lit (.bool true)], args := [d1, d2] }
  | _ => none }
def lawS2047BVectorRow : OpenClaim := { program := "ybulkapjgfmt", sum := "efe4318811360dc945879e42b154fd51e745dd6b712a2cb33d95f3e47410727d", func := "example.com/capmax/capmax.LawS2047BVector", spec := "lawS2047BVector", stops := ["fmt.errorf, its operands' methods called", "fmt.Sprintf, its operands' methods called"], inPlace := ["fmt.errorf", "internal/reflectlite.ValueOf", "internal/reflectlite.Swapper", "(internal/reflectlite.Value).Len"], unfollowed := true, recurses := true, apart := false }
/-- NO THEOREM (fmt's text is open here; it may be false): for the released tool's asking of the row's closed facts alone. THE STATEMENT IS 'LawS2047BVectorToldSaid' (YbulkapjgFmtCards.lean). -/
def LawS2047BVectorFormAsk : Prop := lawS2047BVectorRow.holds Ybaf.pinned (OpenSpec.ofChange lawS2047BVectorSpec)

/-- ITS FALSE NEIGHBOUR: 'it returns false'. Refute it at one input. -/
def lawS2047BVectorWrong : ChangeSpec := { name := "lawS2047BVector", fn := fun _ => fun
  | [d1, d2] => { results := [.lit (.bool false)], args := [d1, d2] }
  | _ => none }
def LawS2047BVectorWrongFormAsk : Prop := lawS2047BVectorRow.holds Ybaf.pinned (OpenSpec.ofChange lawS2047BVectorWrong)

/-- 'capmax.LawS2047CPassThrough': WHATEVER THE INPUT: true; the input reads as it did. -/
def lawS2047CPassThroughSpec : ChangeSpec := { name := "lawS2047CPassThrough", vars := ["example.com/capmax/capmax.errRecordTooLong"], fn := fun _ => fun
  | [d1, d2, d3, g1] => { results := [.lit (.bool true)], args := [d1, d2, d3], vars := [g1] }
  | _ => none }
def lawS2047CPassThroughRow : OpenClaim := { program := "ybulkapjgfmt", sum := "efe4318811360dc945879e42b154fd51e745dd6b712a2cb33d95f3e47410727d", func := "example.com/capmax/capmax.LawS2047CPassThrough", spec := "lawS2047CPassThrough", stops := ["fmt.errorf, its operands' methods called", "fmt.Sprintf, its operands' methods called"], inPlace := ["internal/reflectlite.TypeOf", "internal/bytealg.CountString", "internal/bytealg.IndexByteString", "internal/bytealg.IndexString", "fmt.errorf", "internal/reflectlite.ValueOf", "(internal/reflectlite.Value).Type", "(internal/reflectlite.Value).IsNil", "(internal/reflectlite.Value).Elem", "(internal/reflectlite.Value).Set"], unfollowed := true, recurses := true, named := ["example.com/capmax/capmax.errRecordTooLong", "encoding/csv.ErrFieldCount", "internal/bytealg.MaxLen", "errors.errorType"], ifaces := true, apart := false, laid := [("errors.errorType", laid_errors_errorType), ("encoding/csv.ErrFieldCount", laid_encoding_csv_ErrFieldCount), ("example.com/capmax/capmax.errRecordTooLong", laid_example_com_capmax_capmax_errRecordTooLong)] }
/-- NO THEOREM (fmt's text is open here; it may be false): for the released tool's asking of the row's closed facts alone. THE STATEMENT IS 'LawS2047CPassThroughToldSaid' (YbulkapjgFmtCards.lean). -/
def LawS2047CPassThroughFormAsk : Prop := lawS2047CPassThroughRow.holds Ybaf.pinned (OpenSpec.ofChange lawS2047CPassThroughSpec)

/-- ITS FALSE NEIGHBOUR: 'it returns false'. Refute it at one input. -/
def lawS2047CPassThroughWrong : ChangeSpec := { name := "lawS2047CPassThrough", vars := ["example.com/capmax/capmax.errRecordTooLong"], fn := fun _ => fun
  | [d1, d2, d3, g1] => { results := [.lit (.bool false)], args := [d1, d2, d3], vars := [g1] }
  | _ => none }
def LawS2047CPassThroughWrongFormAsk : Prop := lawS2047CPassThroughRow.holds Ybaf.pinned (OpenSpec.ofChange lawS2047CPassThroughWrong)

/-- 'capmax.LawS2047CParse': WHATEVER THE INPUT: true; the input reads as it did. -/
def lawS2047CParseSpec : ChangeSpec := { name := "lawS2047CParse", vars := ["example.com/capmax/capmax.errRecordTooLong"], fn := fun _ => fun
  | [d1, d2, d3, d4, d5, d6, g1] => { results := [.lit (.bool true)], args := [d1, d2, d3, d4, d5, d6], vars := [g1] }
  | _ => none }
def lawS2047CParseRow : OpenClaim := { program := "ybulkapjgfmt", sum := "efe4318811360dc945879e42b154fd51e745dd6b712a2cb33d95f3e47410727d", func := "example.com/capmax/capmax.LawS2047CParse", spec := "lawS2047CParse", stops := ["fmt.errorf, its operands' methods called", "fmt.Sprintf, its operands' methods called"], inPlace := ["internal/reflectlite.TypeOf", "internal/bytealg.CountString", "internal/bytealg.IndexByteString", "internal/bytealg.IndexString", "fmt.errorf", "internal/reflectlite.ValueOf", "(internal/reflectlite.Value).Type", "(internal/reflectlite.Value).IsNil", "(internal/reflectlite.Value).Elem", "(internal/reflectlite.Value).Set"], unfollowed := true, recurses := true, named := ["encoding/csv.ErrFieldCount", "example.com/capmax/capmax.errRecordTooLong", "internal/bytealg.MaxLen", "errors.errorType"], ifaces := true, apart := false, laid := [("errors.errorType", laid_errors_errorType), ("encoding/csv.ErrFieldCount", laid_encoding_csv_ErrFieldCount), ("example.com/capmax/capmax.errRecordTooLong", laid_example_com_capmax_capmax_errRecordTooLong)] }
/-- NO THEOREM (fmt's text is open here; it may be false): for the released tool's asking of the row's closed facts alone. THE STATEMENT IS 'LawS2047CParseToldSaid' (YbulkapjgFmtCards.lean). -/
def LawS2047CParseFormAsk : Prop := lawS2047CParseRow.holds Ybaf.pinned (OpenSpec.ofChange lawS2047CParseSpec)

/-- ITS FALSE NEIGHBOUR: 'it returns false'. Refute it at one input. -/
def lawS2047CParseWrong : ChangeSpec := { name := "lawS2047CParse", vars := ["example.com/capmax/capmax.errRecordTooLong"], fn := fun _ => fun
  | [d1, d2, d3, d4, d5, d6, g1] => { results := [.lit (.bool false)], args := [d1, d2, d3, d4, d5, d6], vars := [g1] }
  | _ => none }
def LawS2047CParseWrongFormAsk : Prop := lawS2047CParseRow.holds Ybaf.pinned (OpenSpec.ofChange lawS2047CParseWrong)

/-- 'capmax.LawS2047CTooLong': WHATEVER THE INPUT: true; the input reads as it did. -/
def lawS2047CTooLongSpec : ChangeSpec := { name := "lawS2047CTooLong", vars := ["example.com/capmax/capmax.errRecordTooLong"], fn := fun _ => fun
  | [d1, d2, d3, d4, g1] => { results := [.lit (.bool true)], args := [d1, d2, d3, d4], vars := [g1] }
  | _ => none }
def lawS2047CTooLongRow : OpenClaim := { program := "ybulkapjgfmt", sum := "efe4318811360dc945879e42b154fd51e745dd6b712a2cb33d95f3e47410727d", func := "example.com/capmax/capmax.LawS2047CTooLong", spec := "lawS2047CTooLong", stops := ["fmt.errorf, its operands' methods called", "fmt.Sprintf, its operands' methods called"], inPlace := ["internal/reflectlite.TypeOf", "internal/bytealg.CountString", "internal/bytealg.IndexByteString", "internal/bytealg.IndexString", "fmt.errorf", "internal/reflectlite.ValueOf", "(internal/reflectlite.Value).Type", "(internal/reflectlite.Value).IsNil", "(internal/reflectlite.Value).Elem", "(internal/reflectlite.Value).Set"], unfollowed := true, recurses := true, named := ["example.com/capmax/capmax.errRecordTooLong", "encoding/csv.ErrFieldCount", "internal/bytealg.MaxLen", "errors.errorType"], ifaces := true, apart := false, laid := [("errors.errorType", laid_errors_errorType), ("encoding/csv.ErrFieldCount", laid_encoding_csv_ErrFieldCount), ("example.com/capmax/capmax.errRecordTooLong", laid_example_com_capmax_capmax_errRecordTooLong)] }
/-- NO THEOREM (fmt's text is open here; it may be false): for the released tool's asking of the row's closed facts alone. THE STATEMENT IS 'LawS2047CTooLongToldSaid' (YbulkapjgFmtCards.lean). -/
def LawS2047CTooLongFormAsk : Prop := lawS2047CTooLongRow.holds Ybaf.pinned (OpenSpec.ofChange lawS2047CTooLongSpec)

/-- ITS FALSE NEIGHBOUR: 'it returns false'. Refute it at one input. -/
def lawS2047CTooLongWrong : ChangeSpec := { name := "lawS2047CTooLong", vars := ["example.com/capmax/capmax.errRecordTooLong"], fn := fun _ => fun
  | [d1, d2, d3, d4, g1] => { results := [.lit (.bool false)], args := [d1, d2, d3, d4], vars := [g1] }
  | _ => none }
def LawS2047CTooLongWrongFormAsk : Prop := lawS2047CTooLongRow.holds Ybaf.pinned (OpenSpec.ofChange lawS2047CTooLongWrong)

end Rows
end Go.Proofs.YbulkapjgFmt
