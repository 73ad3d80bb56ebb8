/-
  NARROWER THAN 'FOR EVERY INPUT', by the rows' own cells (each row's printed sentence says how): FnAppendWordReadsBackAsOneWord: laid · FnAppendEscapedReadsBackAsOneWord: laid · FnBackslashReadsNumericEscapes: laid.
  DERIVED. THE GIVEN ROWS OF THIS SEAT. 3 by the template 'for every input the law returns true; each argument reads behind the call as it read before'; 0 by the template 'total and deterministic' (their statements: Qxb6003380aDoorTotals.lean).
  GIVEN WITH THE SEED: the statements are not yours to turn. If you find one false, say at which input.
  Laid BY PROGRAM, IN A SANDBOX (cutbox-rows.mjs): the forced cells as the released guide's own fill.sh prints them over the translation 87721f366c225bd1… (all of the seat's roots in one cut). By AI agents, Wed Nov 11 2026. No macro, syntax, notation, axiom, sorry.
-/
import Derived.Test.Qxb6003380aDoorChecked
import GoSem.PinnedTables
import GoSem.Claim
import GoSem.ClaimJoined
import GoSem.ClaimMapViews
import Derived.JoinedTies
import Derived.KernelRfl
namespace Go.Proofs.Qxb6003380aDoor
/- THE CELL 'sum', in the pinned program and in every row, IS THE sha256 OF THE DUMP (.gsa) THAT Qxb6003380aDoorProg.lean LOADS. Nothing in Lean hashes anything: it is a label: what it is worth is what the hold of that sum in a sandbox is worth. -/
noncomputable def Tryd.pinned : Pinned := { name := "qxb6003380adoor", sum := "87721f366c225bd1986362fb7ab3c9071fe4df7fff0c707450e777689dd63d34", checked := Tryd.checked }
namespace Rows
def none {H : Type} : Left H := { results := [], args := [] }

/- WHAT THE LISTED PACKAGE-LEVEL VARIABLES READ AS WHEN THE CALL BEGINS. Each datum BY PROGRAM (the guide's laid-datum.mjs) off the statement by which the dump's own 'gosem.cut.vars' lays the variable. In a bare row this is a premise. The card (Qxb6003380aDoorCards.lean) ties it to the program's text. -/
def laid_unicode_utf8_acceptRanges {H : Type} : DataW H := .agg [.agg [.lit (.int .u8 128), .lit (.int .u8 191)], .agg [.lit (.int .u8 160), .lit (.int .u8 191)], .agg [.lit (.int .u8 128), .lit (.int .u8 159)], .agg [.lit (.int .u8 144), .lit (.int .u8 191)], .agg [.lit (.int .u8 128), .lit (.int .u8 143)], .agg [.lit (.int .u8 0), .lit (.int .u8 0)], .agg [.lit (.int .u8 0), .lit (.int .u8 0)], .agg [.lit (.int .u8 0), .lit (.int .u8 0)], .agg [.lit (.int .u8 0), .lit (.int .u8 0)], .agg [.lit (.int .u8 0), .lit (.int .u8 0)], .agg [.lit (.int .u8 0), .lit (.int .u8 0)], .agg [.lit (.int .u8 0), .lit (.int .u8 0)], .agg [.lit (.int .u8 0), .lit (.int .u8 0)], .agg [.lit (.int .u8 0), .lit (.int .u8 0)], .agg [.lit (.int .u8 0), .lit (.int .u8 0)], .agg [.lit (.int .u8 0), .lit (.int .u8 0)]]
/-- One of Go's own tables, pinned by name: the form's constant. -/
def laid_unicode_utf8_first : DataW Unit := Go.Pinned.utf8First

/-- 'zzlaws_tdl_g1.FnAppendWordReadsBackAsOneWord': WHATEVER THE INPUT: true; the input reads as it did. -/
def fnAppendWordReadsBackAsOneWordSpec : ChangeSpec := { name := "fnAppendWordReadsBackAsOneWord", fn := fun _ => fun
  | [d1, d2, d3] => { results := [.lit (.bool true)], args := [d1, d2, d3] }
  | _ => none }
def fnAppendWordReadsBackAsOneWordRow : OpenClaim := { program := "qxb6003380adoor", sum := "87721f366c225bd1986362fb7ab3c9071fe4df7fff0c707450e777689dd63d34", func := "example.com/lineform/lineform/zzlaws_tdl_g1.FnAppendWordReadsBackAsOneWord", spec := "fnAppendWordReadsBackAsOneWord", inPlace := ["internal/bytealg.IndexByteString"], named := ["unicode/utf8.first", "unicode/utf8.acceptRanges"], apart := false, laid := [("unicode/utf8.acceptRanges", laid_unicode_utf8_acceptRanges), ("unicode/utf8.first", laid_unicode_utf8_first)] }
def FnAppendWordReadsBackAsOneWordSaid : Prop := fnAppendWordReadsBackAsOneWordRow.holds Tryd.pinned (OpenSpec.ofChange fnAppendWordReadsBackAsOneWordSpec)

/-- ITS FALSE NEIGHBOUR: 'it returns false'. Refute it at one input. -/
def fnAppendWordReadsBackAsOneWordWrong : ChangeSpec := { name := "fnAppendWordReadsBackAsOneWord", fn := fun _ => fun
  | [d1, d2, d3] => { results := [.lit (.bool false)], args := [d1, d2, d3] }
  | _ => none }
def FnAppendWordReadsBackAsOneWordWrongFalsely : Prop := fnAppendWordReadsBackAsOneWordRow.holds Tryd.pinned (OpenSpec.ofChange fnAppendWordReadsBackAsOneWordWrong)

/-- 'zzlaws_tdl_g1.FnAppendEscapedReadsBackAsOneWord': WHATEVER THE INPUT: true; the input reads as it did. -/
def fnAppendEscapedReadsBackAsOneWordSpec : ChangeSpec := { name := "fnAppendEscapedReadsBackAsOneWord", fn := fun _ => fun
  | [d1, d2, d3, d4] => { results := [.lit (.bool true)], args := [d1, d2, d3, d4] }
  | _ => none }
def fnAppendEscapedReadsBackAsOneWordRow : OpenClaim := { program := "qxb6003380adoor", sum := "87721f366c225bd1986362fb7ab3c9071fe4df7fff0c707450e777689dd63d34", func := "example.com/lineform/lineform/zzlaws_tdl_g1.FnAppendEscapedReadsBackAsOneWord", spec := "fnAppendEscapedReadsBackAsOneWord", inPlace := ["internal/bytealg.IndexByteString"], named := ["unicode/utf8.first", "unicode/utf8.acceptRanges"], apart := false, laid := [("unicode/utf8.acceptRanges", laid_unicode_utf8_acceptRanges), ("unicode/utf8.first", laid_unicode_utf8_first)] }
def FnAppendEscapedReadsBackAsOneWordSaid : Prop := fnAppendEscapedReadsBackAsOneWordRow.holds Tryd.pinned (OpenSpec.ofChange fnAppendEscapedReadsBackAsOneWordSpec)

/-- ITS FALSE NEIGHBOUR: 'it returns false'. Refute it at one input. -/
def fnAppendEscapedReadsBackAsOneWordWrong : ChangeSpec := { name := "fnAppendEscapedReadsBackAsOneWord", fn := fun _ => fun
  | [d1, d2, d3, d4] => { results := [.lit (.bool false)], args := [d1, d2, d3, d4] }
  | _ => none }
def FnAppendEscapedReadsBackAsOneWordWrongFalsely : Prop := fnAppendEscapedReadsBackAsOneWordRow.holds Tryd.pinned (OpenSpec.ofChange fnAppendEscapedReadsBackAsOneWordWrong)

/-- 'zzlaws_tdl_g1.FnBackslashReadsNumericEscapes': WHATEVER THE INPUT: true; the input reads as it did. -/
def fnBackslashReadsNumericEscapesSpec : ChangeSpec := { name := "fnBackslashReadsNumericEscapes", fn := fun _ => fun
  | [d1, d2, d3, d4] => { results := [.lit (.bool true)], args := [d1, d2, d3, d4] }
  | _ => none }
def fnBackslashReadsNumericEscapesRow : OpenClaim := { program := "qxb6003380adoor", sum := "87721f366c225bd1986362fb7ab3c9071fe4df7fff0c707450e777689dd63d34", func := "example.com/lineform/lineform/zzlaws_tdl_g1.FnBackslashReadsNumericEscapes", spec := "fnBackslashReadsNumericEscapes", inPlace := ["internal/bytealg.IndexByteString"], named := ["unicode/utf8.first", "unicode/utf8.acceptRanges"], apart := false, laid := [("unicode/utf8.acceptRanges", laid_unicode_utf8_acceptRanges), ("unicode/utf8.first", laid_unicode_utf8_first)] }
def FnBackslashReadsNumericEscapesSaid : Prop := fnBackslashReadsNumericEscapesRow.holds Tryd.pinned (OpenSpec.ofChange fnBackslashReadsNumericEscapesSpec)

/-- ITS FALSE NEIGHBOUR: 'it returns false'. Refute it at one input. -/
def fnBackslashReadsNumericEscapesWrong : ChangeSpec := { name := "fnBackslashReadsNumericEscapes", fn := fun _ => fun
  | [d1, d2, d3, d4] => { results := [.lit (.bool false)], args := [d1, d2, d3, d4] }
  | _ => none }
def FnBackslashReadsNumericEscapesWrongFalsely : Prop := fnBackslashReadsNumericEscapesRow.holds Tryd.pinned (OpenSpec.ofChange fnBackslashReadsNumericEscapesWrong)

end Rows
end Go.Proofs.Qxb6003380aDoor
