/-
  NARROWER THAN 'FOR EVERY INPUT', by the rows' own cells (each row's printed sentence says how): LawS4154AShort: laid · LawS4154ALong: laid.
  DERIVED. THE GIVEN ROWS OF THIS SEAT. 3 by the template 'for every input the law returns true; each argument reads behind the call as it read before'; 0 by the template 'total and deterministic' (their statements: YbulkcgzuFmtTotals.lean).
  GIVEN WITH THE SEED: the statements are not yours to turn. If you find one false, say at which input.
  Laid BY PROGRAM, IN A SANDBOX (cutbox-rows.mjs): the forced cells as the released guide's own fill.sh prints them over the translation bfa553ffa23d681b… (all of the seat's roots in one cut). By AI agents, Wed Nov 11 2026. No macro, syntax, notation, axiom, sorry.
-/
import Derived.Test.YbulkcgzuFmtChecked
import GoSem.PinnedTables
import GoSem.Claim
import GoSem.ClaimJoined
import GoSem.ClaimMapViews
import Derived.JoinedTies
import Derived.KernelRfl
namespace Go.Proofs.YbulkcgzuFmt
/- THE CELL 'sum', in the pinned program and in every row, IS THE sha256 OF THE DUMP (.gsa) THAT YbulkcgzuFmtProg.lean LOADS. Nothing in Lean hashes anything: it is a label: what it is worth is what the hold of that sum in a sandbox is worth. -/
noncomputable def Ybaf.pinned : Pinned := { name := "ybulkcgzufmt", sum := "bfa553ffa23d681b60b501d9c0bf2192e6736e484ec9e5f36074af3d9499ae34", checked := Ybaf.checked }
namespace Rows
def none {H : Type} : Left H := { results := [], args := [] }

/- WHAT THE LISTED PACKAGE-LEVEL VARIABLES READ AS WHEN THE CALL BEGINS. Each datum BY PROGRAM (the guide's laid-datum.mjs) off the statement by which the dump's own 'gosem.cut.vars' lays the variable. In a bare row this is a premise. The card (YbulkcgzuFmtCards.lean) ties it to the program's text. -/
def laid_unicode_utf8_acceptRanges {H : Type} : DataW H := .agg [.agg [.lit (.int .u8 128), .lit (.int .u8 191)], .agg [.lit (.int .u8 160), .lit (.int .u8 191)], .agg [.lit (.int .u8 128), .lit (.int .u8 159)], .agg [.lit (.int .u8 144), .lit (.int .u8 191)], .agg [.lit (.int .u8 128), .lit (.int .u8 143)], .agg [.lit (.int .u8 0), .lit (.int .u8 0)], .agg [.lit (.int .u8 0), .lit (.int .u8 0)], .agg [.lit (.int .u8 0), .lit (.int .u8 0)], .agg [.lit (.int .u8 0), .lit (.int .u8 0)], .agg [.lit (.int .u8 0), .lit (.int .u8 0)], .agg [.lit (.int .u8 0), .lit (.int .u8 0)], .agg [.lit (.int .u8 0), .lit (.int .u8 0)], .agg [.lit (.int .u8 0), .lit (.int .u8 0)], .agg [.lit (.int .u8 0), .lit (.int .u8 0)], .agg [.lit (.int .u8 0), .lit (.int .u8 0)], .agg [.lit (.int .u8 0), .lit (.int .u8 0)]]
/-- One of Go's own tables, pinned by name: the form's constant. -/
def laid_strconv_isGraphic : DataW Unit := Go.Pinned.isGraphic
/-- One of Go's own tables, pinned by name: the form's constant. -/
def laid_strconv_isNotPrint16 : DataW Unit := Go.Pinned.isNotPrint16
/-- One of Go's own tables, pinned by name: the form's constant. -/
def laid_strconv_isNotPrint32 : DataW Unit := Go.Pinned.isNotPrint32
/-- One of Go's own tables, pinned by name: the form's constant. -/
def laid_strconv_isPrint16 : DataW Unit := Go.Pinned.isPrint16
/-- One of Go's own tables, pinned by name: the form's constant. -/
def laid_strconv_isPrint32 : DataW Unit := Go.Pinned.isPrint32
/-- One of Go's own tables, pinned by name: the form's constant. -/
def laid_unicode_utf8_first : DataW Unit := Go.Pinned.utf8First

/-- 'clip.LawS4154AShort': WHATEVER THE INPUT: true; the input reads as it did. -/
def lawS4154AShortSpec : ChangeSpec := { name := "lawS4154AShort", fn := fun _ => fun
  | [d] => { results := [.lit (.bool true)], args := [d] }
  | _ => none }
def lawS4154AShortRow : OpenClaim := { program := "ybulkcgzufmt", sum := "bfa553ffa23d681b60b501d9c0bf2192e6736e484ec9e5f36074af3d9499ae34", func := "example.com/tenorbook/tenorbook/internal/clip.LawS4154AShort", spec := "lawS4154AShort", stops := ["fmt.Sprintf", "fmt.errorf"], inPlace := ["fmt.Sprintf"], unfollowed := true, recurses := true, named := ["unicode/utf8.first", "unicode/utf8.acceptRanges", "strconv.isPrint16", "strconv.isNotPrint16", "strconv.isPrint32", "strconv.isNotPrint32", "strconv.isGraphic"], apart := false, laid := [("unicode/utf8.acceptRanges", laid_unicode_utf8_acceptRanges), ("strconv.isGraphic", laid_strconv_isGraphic), ("strconv.isNotPrint16", laid_strconv_isNotPrint16), ("strconv.isNotPrint32", laid_strconv_isNotPrint32), ("strconv.isPrint16", laid_strconv_isPrint16), ("strconv.isPrint32", laid_strconv_isPrint32), ("unicode/utf8.first", laid_unicode_utf8_first)] }
/-- NO THEOREM (fmt's text is open here; it may be false): for the released tool's asking of the row's closed facts alone. THE STATEMENT IS 'LawS4154AShortToldSaid' (YbulkcgzuFmtCards.lean). -/
def LawS4154AShortFormAsk : Prop := lawS4154AShortRow.holds Ybaf.pinned (OpenSpec.ofChange lawS4154AShortSpec)

/-- ITS FALSE NEIGHBOUR: 'it returns false'. Refute it at one input. -/
def lawS4154AShortWrong : ChangeSpec := { name := "lawS4154AShort", fn := fun _ => fun
  | [d] => { results := [.lit (.bool false)], args := [d] }
  | _ => none }
def LawS4154AShortWrongFormAsk : Prop := lawS4154AShortRow.holds Ybaf.pinned (OpenSpec.ofChange lawS4154AShortWrong)

/-- 'clip.LawS4154ALong': WHATEVER THE INPUT: true; the input reads as it did. -/
def lawS4154ALongSpec : ChangeSpec := { name := "lawS4154ALong", fn := fun _ => fun
  | [d] => { results := [.lit (.bool true)], args := [d] }
  | _ => none }
def lawS4154ALongRow : OpenClaim := { program := "ybulkcgzufmt", sum := "bfa553ffa23d681b60b501d9c0bf2192e6736e484ec9e5f36074af3d9499ae34", func := "example.com/tenorbook/tenorbook/internal/clip.LawS4154ALong", spec := "lawS4154ALong", stops := ["fmt.Sprintf", "fmt.errorf"], inPlace := ["fmt.Sprintf"], unfollowed := true, recurses := true, named := ["unicode/utf8.first", "unicode/utf8.acceptRanges", "strconv.isPrint16", "strconv.isNotPrint16", "strconv.isPrint32", "strconv.isNotPrint32", "strconv.isGraphic"], apart := false, laid := [("unicode/utf8.acceptRanges", laid_unicode_utf8_acceptRanges), ("strconv.isGraphic", laid_strconv_isGraphic), ("strconv.isNotPrint16", laid_strconv_isNotPrint16), ("strconv.isNotPrint32", laid_strconv_isNotPrint32), ("strconv.isPrint16", laid_strconv_isPrint16), ("strconv.isPrint32", laid_strconv_isPrint32), ("unicode/utf8.first", laid_unicode_utf8_first)] }
/-- NO THEOREM (fmt's text is open here; it may be false): for the released tool's asking of the row's closed facts alone. THE STATEMENT IS 'LawS4154ALongToldSaid' (YbulkcgzuFmtCards.lean). -/
def LawS4154ALongFormAsk : Prop := lawS4154ALongRow.holds Ybaf.pinned (OpenSpec.ofChange lawS4154ALongSpec)

/-- ITS FALSE NEIGHBOUR: 'it returns false'. Refute it at one input. -/
def lawS4154ALongWrong : ChangeSpec := { name := "lawS4154ALong", fn := fun _ => fun
  | [d] => { results := [.lit (.bool false)], args := [d] }
  | _ => none }
def LawS4154ALongWrongFormAsk : Prop := lawS4154ALongRow.holds Ybaf.pinned (OpenSpec.ofChange lawS4154ALongWrong)

/-- 'dealfile.LawS4154CText': WHATEVER THE INPUT: true; the input reads as it did. -/
def lawS4154CTextSpec : ChangeSpec := { name := "lawS4154CText", fn := fun _ => fun
  | [d1, d2, d3, d4, d5, d6, d7] => { results := [.lit (.bool true)], args := [d1, d2, d3, d4, d5, d6, d7] }
  | _ => none }
def lawS4154CTextRow : OpenClaim := { program := "ybulkcgzufmt", sum := "bfa553ffa23d681b60b501d9c0bf2192e6736e484ec9e5f36074af3d9499ae34", func := "example.com/tenorbook/tenorbook/internal/dealfile.LawS4154CText", spec := "lawS4154CText", stops := ["fmt.Sprintf", "fmt.errorf"], inPlace := ["fmt.errorf"], apart := false }
/-- NO THEOREM (fmt's text is open here; it may be false): for the released tool's asking of the row's closed facts alone. THE STATEMENT IS 'LawS4154CTextToldSaid' (YbulkcgzuFmtCards.lean). -/
def LawS4154CTextFormAsk : Prop := lawS4154CTextRow.holds Ybaf.pinned (OpenSpec.ofChange lawS4154CTextSpec)

/-- ITS FALSE NEIGHBOUR: 'it returns false'. Refute it at one input. -/
def lawS4154CTextWrong : ChangeSpec := { name := "lawS4154CText", fn := fun _ => fun
  | [d1, d2, d3, d4, d5, d6, d7] => { results := [.lit (.bool false)], args := [d1, d2, d3, d4, d5, d6, d7] }
  | _ => none }
def LawS4154CTextWrongFormAsk : Prop := lawS4154CTextRow.holds Ybaf.pinned (OpenSpec.ofChange lawS4154CTextWrong)

end Rows
end Go.Proofs.YbulkcgzuFmt
