/-
  NARROWER THAN 'FOR EVERY INPUT', by the rows' own cells (each row's printed sentence says how): LawS1567ACorrupt: ifaces, laid · LawS1567CDecode: ifaces, laid · LawS1567CTextRoundTrip: ifaces, laid.
  DERIVED. THE GIVEN ROWS OF THIS SEAT. 3 by the template 'for every input the law returns true; each argument reads behind the call as it read before'; 0 by the template 'total and deterministic' (their statements: YbulkafkuFmtTotals.lean).
  GIVEN WITH THE SEED: the statements are not yours to turn. If you find one false, say at which input.
  Laid BY PROGRAM, IN A SANDBOX (cutbox-rows.mjs): the forced cells as the released guide's own fill.sh prints them over the translation bee4b76c9a974962… (all of the seat's roots in one cut). By AI agents, Wed Nov 11 2026. No macro, syntax, notation, axiom, sorry.
-/
import Derived.Test.YbulkafkuFmtChecked
import GoSem.PinnedTables
import GoSem.Claim
import GoSem.ClaimJoined
import GoSem.ClaimMapViews
import Derived.JoinedTies
import Derived.KernelRfl
namespace Go.Proofs.YbulkafkuFmt
/- THE CELL 'sum', in the pinned program and in every row, IS THE sha256 OF THE DUMP (.gsa) THAT YbulkafkuFmtProg.lean LOADS. Nothing in Lean hashes anything: it is a label: what it is worth is what the hold of that sum in a sandbox is worth. -/
noncomputable def Ybaf.pinned : Pinned := { name := "ybulkafkufmt", sum := "bee4b76c9a9749626b0aca7eb18b9f3b7b7a14627f00b497fa8fc1e03e448b88", checked := Ybaf.checked }
namespace Rows
def none {H : Type} : Left H := { results := [], args := [] }

/- WHAT THE LISTED PACKAGE-LEVEL VARIABLES READ AS WHEN THE CALL BEGINS. Each datum BY PROGRAM (the guide's laid-datum.mjs) off the statement by which the dump's own 'gosem.cut.vars' lays the variable. In a bare row this is a premise. The card (YbulkafkuFmtCards.lean) ties it to the program's text. -/
def laid_unicode_utf8_acceptRanges {H : Type} : DataW H := .agg [.agg [.lit (.int .u8 128), .lit (.int .u8 191)], .agg [.lit (.int .u8 160), .lit (.int .u8 191)], .agg [.lit (.int .u8 128), .lit (.int .u8 159)], .agg [.lit (.int .u8 144), .lit (.int .u8 191)], .agg [.lit (.int .u8 128), .lit (.int .u8 143)], .agg [.lit (.int .u8 0), .lit (.int .u8 0)], .agg [.lit (.int .u8 0), .lit (.int .u8 0)], .agg [.lit (.int .u8 0), .lit (.int .u8 0)], .agg [.lit (.int .u8 0), .lit (.int .u8 0)], .agg [.lit (.int .u8 0), .lit (.int .u8 0)], .agg [.lit (.int .u8 0), .lit (.int .u8 0)], .agg [.lit (.int .u8 0), .lit (.int .u8 0)], .agg [.lit (.int .u8 0), .lit (.int .u8 0)], .agg [.lit (.int .u8 0), .lit (.int .u8 0)], .agg [.lit (.int .u8 0), .lit (.int .u8 0)], .agg [.lit (.int .u8 0), .lit (.int .u8 0)]]
def laid_example_com_pagewright_pagewright_ErrCorrupt {H : Type} : DataW H := .iface "*errors.errorString" (.ptr (.agg [.lit (.string [100, 97, 116, 97, 98, 97, 115, 101, 32, 102, 105, 108, 101, 32, 105, 115, 32, 100, 97, 109, 97, 103, 101, 100])]))
/-- One of Go's own tables, pinned by name: the form's constant. -/
def laid_unicode_utf8_first : DataW Unit := Go.Pinned.utf8First
def laid_example_com_pagewright_pagewright_internal_record_ErrMalformed {H : Type} : DataW H := .iface "*errors.errorString" (.ptr (.agg [.lit (.string [109, 97, 108, 102, 111, 114, 109, 101, 100, 32, 114, 101, 99, 111, 114, 100])]))

/-- 'pagewright.LawS1567ACorrupt': WHATEVER THE INPUT: true; the input reads as it did. -/
def lawS1567ACorruptSpec : ChangeSpec := { name := "lawS1567ACorrupt", vars := ["example.com/pagewright/pagewright.ErrCorrupt"], fn := fun _ => fun
  | [d1, d2, d3, d4, d5, d6, d7, d8, d9, d10, d11, g1] => { results := [.lit (.bool true)], args := [d1, d2, d3, d4, d5, d6, d7, d8, d9, d10, d11], vars := [g1] }
  | _ => none }
def lawS1567ACorruptRow : OpenClaim := { program := "ybulkafkufmt", sum := "bee4b76c9a9749626b0aca7eb18b9f3b7b7a14627f00b497fa8fc1e03e448b88", func := "example.com/pagewright/pagewright.LawS1567ACorrupt", spec := "lawS1567ACorrupt", stops := ["fmt.Sprintf, its operands' methods called", "fmt.Sprint, its operands' methods called", "fmt.errorf"], inPlace := ["internal/bytealg.CountString", "internal/bytealg.IndexByteString", "internal/bytealg.IndexString", "internal/abi.NoEscape", "internal/bytealg.MakeNoZero", "fmt.Sprint", "fmt.Sprintf", "fmt.errorf", "internal/reflectlite.TypeOf"], unfollowed := true, recurses := true, named := ["example.com/pagewright/pagewright.ErrCorrupt", "internal/bytealg.MaxLen", "unicode/utf8.first", "unicode/utf8.acceptRanges"], ifaces := true, apart := false, laid := [("unicode/utf8.acceptRanges", laid_unicode_utf8_acceptRanges), ("example.com/pagewright/pagewright.ErrCorrupt", laid_example_com_pagewright_pagewright_ErrCorrupt), ("unicode/utf8.first", laid_unicode_utf8_first)] }
/-- NO THEOREM (fmt's text is open here; it may be false): for the released tool's asking of the row's closed facts alone. THE STATEMENT IS 'LawS1567ACorruptToldSaid' (YbulkafkuFmtCards.lean). -/
def LawS1567ACorruptFormAsk : Prop := lawS1567ACorruptRow.holds Ybaf.pinned (OpenSpec.ofChange lawS1567ACorruptSpec)

/-- ITS FALSE NEIGHBOUR: 'it returns false'. Refute it at one input. -/
def lawS1567ACorruptWrong : ChangeSpec := { name := "lawS1567ACorrupt", vars := ["example.com/pagewright/pagewright.ErrCorrupt"], fn := fun _ => fun
  | [d1, d2, d3, d4, d5, d6, d7, d8, d9, d10, d11, g1] => { results := [.lit (.bool false)], args := [d1, d2, d3, d4, d5, d6, d7, d8, d9, d10, d11], vars := [g1] }
  | _ => none }
def LawS1567ACorruptWrongFormAsk : Prop := lawS1567ACorruptRow.holds Ybaf.pinned (OpenSpec.ofChange lawS1567ACorruptWrong)

/-- 'pagewright.LawS1567CDecode': WHATEVER THE INPUT: true; the input reads as it did. -/
def lawS1567CDecodeSpec : ChangeSpec := { name := "lawS1567CDecode", vars := ["example.com/pagewright/pagewright/internal/record.ErrMalformed"], fn := fun _ => fun
  | [d1, d2, d3, g1] => { results := [.lit (.bool true)], args := [d1, d2, d3], vars := [g1] }
  | _ => none }
def lawS1567CDecodeRow : OpenClaim := { program := "ybulkafkufmt", sum := "bee4b76c9a9749626b0aca7eb18b9f3b7b7a14627f00b497fa8fc1e03e448b88", func := "example.com/pagewright/pagewright.LawS1567CDecode", spec := "lawS1567CDecode", stops := ["fmt.Sprintf, its operands' methods called", "fmt.Sprint, its operands' methods called", "fmt.errorf"], inPlace := ["fmt.errorf", "internal/reflectlite.TypeOf"], unfollowed := true, recurses := true, named := ["example.com/pagewright/pagewright/internal/record.ErrMalformed", "encoding/binary.BigEndian"], ifaces := true, apart := false, laid := [("example.com/pagewright/pagewright/internal/record.ErrMalformed", laid_example_com_pagewright_pagewright_internal_record_ErrMalformed)] }
/-- NO THEOREM (fmt's text is open here; it may be false): for the released tool's asking of the row's closed facts alone. THE STATEMENT IS 'LawS1567CDecodeToldSaid' (YbulkafkuFmtCards.lean). -/
def LawS1567CDecodeFormAsk : Prop := lawS1567CDecodeRow.holds Ybaf.pinned (OpenSpec.ofChange lawS1567CDecodeSpec)

/-- ITS FALSE NEIGHBOUR: 'it returns false'. Refute it at one input. -/
def lawS1567CDecodeWrong : ChangeSpec := { name := "lawS1567CDecode", vars := ["example.com/pagewright/pagewright/internal/record.ErrMalformed"], fn := fun _ => fun
  | [d1, d2, d3, g1] => { results := [.lit (.bool false)], args := [d1, d2, d3], vars := [g1] }
  | _ => none }
def LawS1567CDecodeWrongFormAsk : Prop := lawS1567CDecodeRow.holds Ybaf.pinned (OpenSpec.ofChange lawS1567CDecodeWrong)

/-- 'pagewright.LawS1567CTextRoundTrip': WHATEVER THE INPUT: true; the input reads as it did. -/
def lawS1567CTextRoundTripSpec : ChangeSpec := { name := "lawS1567CTextRoundTrip", vars := ["example.com/pagewright/pagewright/internal/record.ErrMalformed"], fn := fun _ => fun
  | [d1, d2, g1] => { results := [.lit (.bool true)], args := [d1, d2], vars := [g1] }
  | _ => none }
def lawS1567CTextRoundTripRow : OpenClaim := { program := "ybulkafkufmt", sum := "bee4b76c9a9749626b0aca7eb18b9f3b7b7a14627f00b497fa8fc1e03e448b88", func := "example.com/pagewright/pagewright.LawS1567CTextRoundTrip", spec := "lawS1567CTextRoundTrip", stops := ["fmt.Sprintf, its operands' methods called", "fmt.Sprint, its operands' methods called", "fmt.errorf"], inPlace := ["fmt.errorf"], named := ["encoding/binary.BigEndian", "example.com/pagewright/pagewright/internal/record.ErrMalformed"], ifaces := true, apart := false, laid := [("example.com/pagewright/pagewright/internal/record.ErrMalformed", laid_example_com_pagewright_pagewright_internal_record_ErrMalformed)] }
/-- NO THEOREM (fmt's text is open here; it may be false): for the released tool's asking of the row's closed facts alone. THE STATEMENT IS 'LawS1567CTextRoundTripToldSaid' (YbulkafkuFmtCards.lean). -/
def LawS1567CTextRoundTripFormAsk : Prop := lawS1567CTextRoundTripRow.holds Ybaf.pinned (OpenSpec.ofChange lawS1567CTextRoundTripSpec)

/-- ITS FALSE NEIGHBOUR: 'it returns false'. Refute it at one input. -/
def lawS1567CTextRoundTripWrong : ChangeSpec := { name := "lawS1567CTextRoundTrip", vars := ["example.com/pagewright/pagewright/internal/record.ErrMalformed"], fn := fun _ => fun
  | [d1, d2, g1] => { results := [.lit (.bool false)], args := [d1, d2], vars := [g1] }
  | _ => none }
def LawS1567CTextRoundTripWrongFormAsk : Prop := lawS1567CTextRoundTripRow.holds Ybaf.pinned (OpenSpec.ofChange lawS1567CTextRoundTripWrong)

end Rows
end Go.Proofs.YbulkafkuFmt
