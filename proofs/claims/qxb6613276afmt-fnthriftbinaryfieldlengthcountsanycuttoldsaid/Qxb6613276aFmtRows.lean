/-
  NARROWER THAN 'FOR EVERY INPUT', by the rows' own cells (each row's printed sentence says how): FnJSONEscapeCutShortEndsNeverRefuses: laid · FnJSONEscapeRefusalIsFinal: laid.
  DERIVED. THE GIVEN ROWS OF THIS SEAT. 4 by the template 'for every input the law returns true; each argument reads behind the call as it read before'; 0 by the template 'total and deterministic' (their statements: Qxb6613276aFmtTotals.lean).
  GIVEN WITH THE SEED: the statements are not yours to turn. If you find one false, say at which input.
  Laid BY PROGRAM, IN A SANDBOX (cutbox-rows.mjs): the forced cells as the released guide's own fill.sh prints them over the translation 397f241fa9d88c57… (all of the seat's roots in one cut). By AI agents, Wed Nov 11 2026. No macro, syntax, notation, axiom, sorry.
-/
import Derived.Test.Qxb6613276aFmtChecked
import GoSem.PinnedTables
import GoSem.Claim
import GoSem.ClaimJoined
import GoSem.ClaimMapViews
import Derived.JoinedTies
import Derived.KernelRfl
namespace Go.Proofs.Qxb6613276aFmt
/- THE CELL 'sum', in the pinned program and in every row, IS THE sha256 OF THE DUMP (.gsa) THAT Qxb6613276aFmtProg.lean LOADS. Nothing in Lean hashes anything: it is a label: what it is worth is what the hold of that sum in a sandbox is worth. -/
noncomputable def Tryf.pinned : Pinned := { name := "qxb6613276afmt", sum := "397f241fa9d88c571c7b3015f9e5a72b9c4d95eed5fe303955f37e41bf0e66e3", checked := Tryf.checked }
namespace Rows
def none {H : Type} : Left H := { results := [], args := [] }

/- WHAT THE LISTED PACKAGE-LEVEL VARIABLES READ AS WHEN THE CALL BEGINS. Each datum BY PROGRAM (the guide's laid-datum.mjs) off the statement by which the dump's own 'gosem.cut.vars' lays the variable. In a bare row this is a premise. The card (Qxb6613276aFmtCards.lean) ties it to the program's text. -/
def laid_unicode_utf8_acceptRanges {H : Type} : DataW H := .agg [.agg [.lit (.int .u8 128), .lit (.int .u8 191)], .agg [.lit (.int .u8 160), .lit (.int .u8 191)], .agg [.lit (.int .u8 128), .lit (.int .u8 159)], .agg [.lit (.int .u8 144), .lit (.int .u8 191)], .agg [.lit (.int .u8 128), .lit (.int .u8 143)], .agg [.lit (.int .u8 0), .lit (.int .u8 0)], .agg [.lit (.int .u8 0), .lit (.int .u8 0)], .agg [.lit (.int .u8 0), .lit (.int .u8 0)], .agg [.lit (.int .u8 0), .lit (.int .u8 0)], .agg [.lit (.int .u8 0), .lit (.int .u8 0)], .agg [.lit (.int .u8 0), .lit (.int .u8 0)], .agg [.lit (.int .u8 0), .lit (.int .u8 0)], .agg [.lit (.int .u8 0), .lit (.int .u8 0)], .agg [.lit (.int .u8 0), .lit (.int .u8 0)], .agg [.lit (.int .u8 0), .lit (.int .u8 0)], .agg [.lit (.int .u8 0), .lit (.int .u8 0)]]
/-- One of Go's own tables, pinned by name: the form's constant. -/
def laid_strconv_isGraphic : DataW Unit := Go.Pinned.isGraphic
/-- One of Go's own tables, pinned by name: the form's constant. -/
def laid_strconv_isNotPrint16 : DataW Unit := Go.Pinned.isNotPrint16
/-- One of Go's own tables, pinned by name: the form's constant. -/
def laid_strconv_isNotPrint32 : DataW Unit := Go.Pinned.isNotPrint32
/-- One of Go's own tables, pinned by name: the form's constant. -/
def laid_strconv_isPrint16 : DataW Unit := Go.Pinned.isPrint16
/-- One of Go's own tables, pinned by name: the form's constant. -/
def laid_strconv_isPrint32 : DataW Unit := Go.Pinned.isPrint32
/-- One of Go's own tables, pinned by name: the form's constant. -/
def laid_unicode_utf8_first : DataW Unit := Go.Pinned.utf8First

/-- 'zzlaws_root_b1.FnJSONEscapeCutShortEndsNeverRefuses': WHATEVER THE INPUT: true; the input reads as it did. -/
def fnJSONEscapeCutShortEndsNeverRefusesSpec : ChangeSpec := { name := "fnJSONEscapeCutShortEndsNeverRefuses", fn := fun _ => fun
  | [d1, d2, d3] => { results := [.lit (.bool true)], args := [d1, d2, d3] }
  | _ => none }
def fnJSONEscapeCutShortEndsNeverRefusesRow : OpenClaim := { program := "qxb6613276afmt", sum := "397f241fa9d88c571c7b3015f9e5a72b9c4d95eed5fe303955f37e41bf0e66e3", func := "example.com/uni-span/uni-span/zzlaws_root_b1.FnJSONEscapeCutShortEndsNeverRefuses", spec := "fnJSONEscapeCutShortEndsNeverRefuses", stops := ["fmt.Sprintf", "fmt.errorf"], inPlace := ["fmt.Sprintf"], named := ["unicode/utf8.first", "unicode/utf8.acceptRanges", "strconv.isPrint16", "strconv.isNotPrint16", "strconv.isPrint32", "strconv.isNotPrint32", "strconv.isGraphic"], apart := false, laid := [("unicode/utf8.acceptRanges", laid_unicode_utf8_acceptRanges), ("strconv.isGraphic", laid_strconv_isGraphic), ("strconv.isNotPrint16", laid_strconv_isNotPrint16), ("strconv.isNotPrint32", laid_strconv_isNotPrint32), ("strconv.isPrint16", laid_strconv_isPrint16), ("strconv.isPrint32", laid_strconv_isPrint32), ("unicode/utf8.first", laid_unicode_utf8_first)] }
/-- NO THEOREM (fmt's text is open here; it may be false): for the released tool's asking of the row's closed facts alone. THE STATEMENT IS 'FnJSONEscapeCutShortEndsNeverRefusesToldSaid' (Qxb6613276aFmtCards.lean). -/
def FnJSONEscapeCutShortEndsNeverRefusesFormAsk : Prop := fnJSONEscapeCutShortEndsNeverRefusesRow.holds Tryf.pinned (OpenSpec.ofChange fnJSONEscapeCutShortEndsNeverRefusesSpec)

/-- ITS FALSE NEIGHBOUR: 'it returns false'. Refute it at one input. -/
def fnJSONEscapeCutShortEndsNeverRefusesWrong : ChangeSpec := { name := "fnJSONEscapeCutShortEndsNeverRefuses", fn := fun _ => fun
  | [d1, d2, d3] => { results := [.lit (.bool false)], args := [d1, d2, d3] }
  | _ => none }
def FnJSONEscapeCutShortEndsNeverRefusesWrongFormAsk : Prop := fnJSONEscapeCutShortEndsNeverRefusesRow.holds Tryf.pinned (OpenSpec.ofChange fnJSONEscapeCutShortEndsNeverRefusesWrong)

/-- 'zzlaws_root_b1.FnJSONEscapeRefusalIsFinal': WHATEVER THE INPUT: true; the input reads as it did. -/
def fnJSONEscapeRefusalIsFinalSpec : ChangeSpec := { name := "fnJSONEscapeRefusalIsFinal", fn := fun _ => fun
  | [d1, d2, d3] => { results := [.lit (.bool true)], args := [d1, d2, d3] }
  | _ => none }
def fnJSONEscapeRefusalIsFinalRow : OpenClaim := { program := "qxb6613276afmt", sum := "397f241fa9d88c571c7b3015f9e5a72b9c4d95eed5fe303955f37e41bf0e66e3", func := "example.com/uni-span/uni-span/zzlaws_root_b1.FnJSONEscapeRefusalIsFinal", spec := "fnJSONEscapeRefusalIsFinal", stops := ["fmt.Sprintf", "fmt.errorf"], inPlace := ["fmt.Sprintf"], named := ["unicode/utf8.first", "unicode/utf8.acceptRanges", "strconv.isPrint16", "strconv.isNotPrint16", "strconv.isPrint32", "strconv.isNotPrint32", "strconv.isGraphic"], apart := false, laid := [("unicode/utf8.acceptRanges", laid_unicode_utf8_acceptRanges), ("strconv.isGraphic", laid_strconv_isGraphic), ("strconv.isNotPrint16", laid_strconv_isNotPrint16), ("strconv.isNotPrint32", laid_strconv_isNotPrint32), ("strconv.isPrint16", laid_strconv_isPrint16), ("strconv.isPrint32", laid_strconv_isPrint32), ("unicode/utf8.first", laid_unicode_utf8_first)] }
/-- NO THEOREM (fmt's text is open here; it may be false): for the released tool's asking of the row's closed facts alone. THE STATEMENT IS 'FnJSONEscapeRefusalIsFinalToldSaid' (Qxb6613276aFmtCards.lean). -/
def FnJSONEscapeRefusalIsFinalFormAsk : Prop := fnJSONEscapeRefusalIsFinalRow.holds Tryf.pinned (OpenSpec.ofChange fnJSONEscapeRefusalIsFinalSpec)

/-- ITS FALSE NEIGHBOUR: 'it returns false'. Refute it at one input. -/
def fnJSONEscapeRefusalIsFinalWrong : ChangeSpec := { name := "fnJSONEscapeRefusalIsFinal", fn := fun _ => fun
  | [d1, d2, d3] => { results := [.lit (.bool false)], args := [d1, d2, d3] }
  | _ => none }
def FnJSONEscapeRefusalIsFinalWrongFormAsk : Prop := fnJSONEscapeRefusalIsFinalRow.holds Tryf.pinned (OpenSpec.ofChange fnJSONEscapeRefusalIsFinalWrong)

/-- 'zzlaws_root_b1.FnThriftBinaryFieldsReadBackInOrder': WHATEVER THE INPUT: true; the input reads as it did. -/
def fnThriftBinaryFieldsReadBackInOrderSpec : ChangeSpec := { name := "fnThriftBinaryFieldsReadBackInOrder", fn := fun _ => fun
  | [d1, d2, d3, d4, d5] => { results := [.lit (.bool true)], args := [d1, d2, d3, d4, d5] }
  | _ => none }
def fnThriftBinaryFieldsReadBackInOrderRow : OpenClaim := { program := "qxb6613276afmt", sum := "397f241fa9d88c571c7b3015f9e5a72b9c4d95eed5fe303955f37e41bf0e66e3", func := "example.com/uni-span/uni-span/zzlaws_root_b1.FnThriftBinaryFieldsReadBackInOrder", spec := "fnThriftBinaryFieldsReadBackInOrder", stops := ["fmt.Sprintf", "fmt.errorf"], inPlace := ["fmt.errorf"], named := ["encoding/binary.BigEndian"], apart := false }
/-- NO THEOREM (fmt's text is open here; it may be false): for the released tool's asking of the row's closed facts alone. THE STATEMENT IS 'FnThriftBinaryFieldsReadBackInOrderToldSaid' (Qxb6613276aFmtCards.lean). -/
def FnThriftBinaryFieldsReadBackInOrderFormAsk : Prop := fnThriftBinaryFieldsReadBackInOrderRow.holds Tryf.pinned (OpenSpec.ofChange fnThriftBinaryFieldsReadBackInOrderSpec)

/-- ITS FALSE NEIGHBOUR: 'it returns false'. Refute it at one input. -/
def fnThriftBinaryFieldsReadBackInOrderWrong : ChangeSpec := { name := "fnThriftBinaryFieldsReadBackInOrder", fn := fun _ => fun
  | [d1, d2, d3, d4, d5] => { results := [.lit (.bool false)], args := [d1, d2, d3, d4, d5] }
  | _ => none }
def FnThriftBinaryFieldsReadBackInOrderWrongFormAsk : Prop := fnThriftBinaryFieldsReadBackInOrderRow.holds Tryf.pinned (OpenSpec.ofChange fnThriftBinaryFieldsReadBackInOrderWrong)

/-- 'zzlaws_root_b1.FnThriftBinaryFieldLengthCountsAnyCut': WHATEVER THE INPUT: true; the input reads as it did. -/
def fnThriftBinaryFieldLengthCountsAnyCutSpec : ChangeSpec := { name := "fnThriftBinaryFieldLengthCountsAnyCut", fn := fun _ => fun
  | [d1, d2, d3] => { results := [.lit (.bool true)], args := [d1, d2, d3] }
  | _ => none }
def fnThriftBinaryFieldLengthCountsAnyCutRow : OpenClaim := { program := "qxb6613276afmt", sum := "397f241fa9d88c571c7b3015f9e5a72b9c4d95eed5fe303955f37e41bf0e66e3", func := "example.com/uni-span/uni-span/zzlaws_root_b1.FnThriftBinaryFieldLengthCountsAnyCut", spec := "fnThriftBinaryFieldLengthCountsAnyCut", stops := ["fmt.Sprintf", "fmt.errorf"], inPlace := ["fmt.errorf"], named := ["encoding/binary.BigEndian"], apart := false }
/-- NO THEOREM (fmt's text is open here; it may be false): for the released tool's asking of the row's closed facts alone. THE STATEMENT IS 'FnThriftBinaryFieldLengthCountsAnyCutToldSaid' (Qxb6613276aFmtCards.lean). -/
def FnThriftBinaryFieldLengthCountsAnyCutFormAsk : Prop := fnThriftBinaryFieldLengthCountsAnyCutRow.holds Tryf.pinned (OpenSpec.ofChange fnThriftBinaryFieldLengthCountsAnyCutSpec)

/-- ITS FALSE NEIGHBOUR: 'it returns false'. Refute it at one input. -/
def fnThriftBinaryFieldLengthCountsAnyCutWrong : ChangeSpec := { name := "fnThriftBinaryFieldLengthCountsAnyCut", fn := fun _ => fun
  | [d1, d2, d3] => { results := [.lit (.bool false)], args := [d1, d2, d3] }
  | _ => none }
def FnThriftBinaryFieldLengthCountsAnyCutWrongFormAsk : Prop := fnThriftBinaryFieldLengthCountsAnyCutRow.holds Tryf.pinned (OpenSpec.ofChange fnThriftBinaryFieldLengthCountsAnyCutWrong)

end Rows
end Go.Proofs.Qxb6613276aFmt
