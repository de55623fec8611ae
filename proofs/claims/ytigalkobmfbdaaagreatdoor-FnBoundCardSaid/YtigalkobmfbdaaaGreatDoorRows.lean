/-
  NARROWER THAN 'FOR EVERY INPUT', by the rows' own cells (each row's printed sentence says how): FnCalls: loops, laid · FnCount: loops, laid · FnCut: loops, laid · FnEntry: loops, laid · FnNames: loops, laid · FnParse: loops, laid · FnUnknown: loops, laid · FnPrint: loops, laid · FnBound: loops, laid · FnEmpty: loops, laid · FnItself: loops, laid · FnMatch: loops, laid · FnNot: loops, laid · FnTwice: loops, laid · FnWrong: loops, laid.
  DERIVED. THE GIVEN ROWS OF THIS SEAT. 15 by the template 'for every input the law returns true; each argument reads behind the call as it read before'; 0 by the template 'total and deterministic' (their statements: YtigalkobmfbdaaaGreatDoorTotals.lean).
  GIVEN WITH THE SEED: the statements are not yours to turn. If you find one false, say at which input.
  Laid BY PROGRAM, IN A SANDBOX (cutbox-rows.mjs): the forced cells as the released guide's own fill.sh prints them over the translation 679bac542899f4a6… (all of the seat's roots in one cut). By AI agents, Wed Nov 11 2026. No macro, syntax, notation, axiom, sorry.
-/
import Derived.Test.YtigalkobmfbdaaaGreatDoorChecked
import GoSem.PinnedTables
import GoSem.Claim
import GoSem.ClaimJoined
import GoSem.ClaimMapViews
import Derived.JoinedTies
import Derived.KernelRfl
namespace Go.Proofs.YtigalkobmfbdaaaGreatDoor
/- THE CELL 'sum', in the pinned program and in every row, IS THE sha256 OF THE DUMP (.gsa) THAT YtigalkobmfbdaaaGreatDoorProg.lean LOADS. Nothing in Lean hashes anything: it is a label: what it is worth is what the hold of that sum in a sandbox is worth. -/
noncomputable def Tryz.pinned : Pinned := { name := "ytigalkobmfbdaaagreatdoor", sum := "679bac542899f4a6604581230a69c9a2c321cca3e88e2b961686bbe9197e931f", checked := Tryz.checked }
namespace Rows
def none {H : Type} : Left H := { results := [], args := [] }

/- WHAT THE LISTED PACKAGE-LEVEL VARIABLES READ AS WHEN THE CALL BEGINS. Each datum BY PROGRAM (the guide's laid-datum.mjs) off the statement by which the dump's own 'gosem.cut.vars' lays the variable. In a bare row this is a premise. The card (YtigalkobmfbdaaaGreatDoorCards.lean) ties it to the program's text. -/
def laid_unicode_utf8_acceptRanges {H : Type} : DataW H := .agg [.agg [.lit (.int .u8 128), .lit (.int .u8 191)], .agg [.lit (.int .u8 160), .lit (.int .u8 191)], .agg [.lit (.int .u8 128), .lit (.int .u8 159)], .agg [.lit (.int .u8 144), .lit (.int .u8 191)], .agg [.lit (.int .u8 128), .lit (.int .u8 143)], .agg [.lit (.int .u8 0), .lit (.int .u8 0)], .agg [.lit (.int .u8 0), .lit (.int .u8 0)], .agg [.lit (.int .u8 0), .lit (.int .u8 0)], .agg [.lit (.int .u8 0), .lit (.int .u8 0)], .agg [.lit (.int .u8 0), .lit (.int .u8 0)], .agg [.lit (.int .u8 0), .lit (.int .u8 0)], .agg [.lit (.int .u8 0), .lit (.int .u8 0)], .agg [.lit (.int .u8 0), .lit (.int .u8 0)], .agg [.lit (.int .u8 0), .lit (.int .u8 0)], .agg [.lit (.int .u8 0), .lit (.int .u8 0)], .agg [.lit (.int .u8 0), .lit (.int .u8 0)]]
def laid_unicode_White_Space {H : Type} : DataW H := .ptr (.agg [.slice [.agg [.lit (.int .u16 9), .lit (.int .u16 13), .lit (.int .u16 1)], .agg [.lit (.int .u16 32), .lit (.int .u16 133), .lit (.int .u16 101)], .agg [.lit (.int .u16 160), .lit (.int .u16 5760), .lit (.int .u16 5600)], .agg [.lit (.int .u16 8192), .lit (.int .u16 8202), .lit (.int .u16 1)], .agg [.lit (.int .u16 8232), .lit (.int .u16 8233), .lit (.int .u16 1)], .agg [.lit (.int .u16 8239), .lit (.int .u16 8287), .lit (.int .u16 48)], .agg [.lit (.int .u16 12288), .lit (.int .u16 12288), .lit (.int .u16 1)]] [], .nil, .lit (.int .i64 2)])
def laid_unicode_properties {H : Type} : DataW H := .agg [.lit (.int .u8 1), .lit (.int .u8 1), .lit (.int .u8 1), .lit (.int .u8 1), .lit (.int .u8 1), .lit (.int .u8 1), .lit (.int .u8 1), .lit (.int .u8 1), .lit (.int .u8 1), .lit (.int .u8 1), .lit (.int .u8 1), .lit (.int .u8 1), .lit (.int .u8 1), .lit (.int .u8 1), .lit (.int .u8 1), .lit (.int .u8 1), .lit (.int .u8 1), .lit (.int .u8 1), .lit (.int .u8 1), .lit (.int .u8 1), .lit (.int .u8 1), .lit (.int .u8 1), .lit (.int .u8 1), .lit (.int .u8 1), .lit (.int .u8 1), .lit (.int .u8 1), .lit (.int .u8 1), .lit (.int .u8 1), .lit (.int .u8 1), .lit (.int .u8 1), .lit (.int .u8 1), .lit (.int .u8 1), .lit (.int .u8 144), .lit (.int .u8 130), .lit (.int .u8 130), .lit (.int .u8 130), .lit (.int .u8 136), .lit (.int .u8 130), .lit (.int .u8 130), .lit (.int .u8 130), .lit (.int .u8 130), .lit (.int .u8 130), .lit (.int .u8 130), .lit (.int .u8 136), .lit (.int .u8 130), .lit (.int .u8 130), .lit (.int .u8 130), .lit (.int .u8 130), .lit (.int .u8 132), .lit (.int .u8 132), .lit (.int .u8 132), .lit (.int .u8 132), .lit (.int .u8 132), .lit (.int .u8 132), .lit (.int .u8 132), .lit (.int .u8 132), .lit (.int .u8 132), .lit (.int .u8 132), .lit (.int .u8 130), .lit (.int .u8 130), .lit (.int .u8 136), .lit (.int .u8 136), .lit (.int .u8 136), .lit (.int .u8 130), .lit (.int .u8 130), .lit (.int .u8 160), .lit (.int .u8 160), .lit (.int .u8 160), .lit (.int .u8 160), .lit (.int .u8 160), .lit (.int .u8 160), .lit (.int .u8 160), .lit (.int .u8 160), .lit (.int .u8 160), .lit (.int .u8 160), .lit (.int .u8 160), .lit (.int .u8 160), .lit (.int .u8 160), .lit (.int .u8 160), .lit (.int .u8 160), .lit (.int .u8 160), .lit (.int .u8 160), .lit (.int .u8 160), .lit (.int .u8 160), .lit (.int .u8 160), .lit (.int .u8 160), .lit (.int .u8 160), .lit (.int .u8 160), .lit (.int .u8 160), .lit (.int .u8 160), .lit (.int .u8 160), .lit (.int .u8 130), .lit (.int .u8 130), .lit (.int .u8 130), .lit (.int .u8 136), .lit (.int .u8 130), .lit (.int .u8 136), .lit (.int .u8 192), .lit (.int .u8 192), .lit (.int .u8 192), .lit (.int .u8 192), .lit (.int .u8 192), .lit (.int .u8 192), .lit (.int .u8 192), .lit (.int .u8 192), .lit (.int .u8 192), .lit (.int .u8 192), .lit (.int .u8 192), .lit (.int .u8 192), .lit (.int .u8 192), .lit (.int .u8 192), .lit (.int .u8 192), .lit (.int .u8 192), .lit (.int .u8 192), .lit (.int .u8 192), .lit (.int .u8 192), .lit (.int .u8 192), .lit (.int .u8 192), .lit (.int .u8 192), .lit (.int .u8 192), .lit (.int .u8 192), .lit (.int .u8 192), .lit (.int .u8 192), .lit (.int .u8 130), .lit (.int .u8 136), .lit (.int .u8 130), .lit (.int .u8 136), .lit (.int .u8 1), .lit (.int .u8 1), .lit (.int .u8 1), .lit (.int .u8 1), .lit (.int .u8 1), .lit (.int .u8 1), .lit (.int .u8 1), .lit (.int .u8 1), .lit (.int .u8 1), .lit (.int .u8 1), .lit (.int .u8 1), .lit (.int .u8 1), .lit (.int .u8 1), .lit (.int .u8 1), .lit (.int .u8 1), .lit (.int .u8 1), .lit (.int .u8 1), .lit (.int .u8 1), .lit (.int .u8 1), .lit (.int .u8 1), .lit (.int .u8 1), .lit (.int .u8 1), .lit (.int .u8 1), .lit (.int .u8 1), .lit (.int .u8 1), .lit (.int .u8 1), .lit (.int .u8 1), .lit (.int .u8 1), .lit (.int .u8 1), .lit (.int .u8 1), .lit (.int .u8 1), .lit (.int .u8 1), .lit (.int .u8 1), .lit (.int .u8 16), .lit (.int .u8 130), .lit (.int .u8 136), .lit (.int .u8 136), .lit (.int .u8 136), .lit (.int .u8 136), .lit (.int .u8 136), .lit (.int .u8 130), .lit (.int .u8 136), .lit (.int .u8 136), .lit (.int .u8 224), .lit (.int .u8 130), .lit (.int .u8 136), .lit (.int .u8 0), .lit (.int .u8 136), .lit (.int .u8 136), .lit (.int .u8 136), .lit (.int .u8 136), .lit (.int .u8 132), .lit (.int .u8 132), .lit (.int .u8 136), .lit (.int .u8 192), .lit (.int .u8 130), .lit (.int .u8 130), .lit (.int .u8 136), .lit (.int .u8 132), .lit (.int .u8 224), .lit (.int .u8 130), .lit (.int .u8 132), .lit (.int .u8 132), .lit (.int .u8 132), .lit (.int .u8 130), .lit (.int .u8 160), .lit (.int .u8 160), .lit (.int .u8 160), .lit (.int .u8 160), .lit (.int .u8 160), .lit (.int .u8 160), .lit (.int .u8 160), .lit (.int .u8 160), .lit (.int .u8 160), .lit (.int .u8 160), .lit (.int .u8 160), .lit (.int .u8 160), .lit (.int .u8 160), .lit (.int .u8 160), .lit (.int .u8 160), .lit (.int .u8 160), .lit (.int .u8 160), .lit (.int .u8 160), .lit (.int .u8 160), .lit (.int .u8 160), .lit (.int .u8 160), .lit (.int .u8 160), .lit (.int .u8 160), .lit (.int .u8 136), .lit (.int .u8 160), .lit (.int .u8 160), .lit (.int .u8 160), .lit (.int .u8 160), .lit (.int .u8 160), .lit (.int .u8 160), .lit (.int .u8 160), .lit (.int .u8 192), .lit (.int .u8 192), .lit (.int .u8 192), .lit (.int .u8 192), .lit (.int .u8 192), .lit (.int .u8 192), .lit (.int .u8 192), .lit (.int .u8 192), .lit (.int .u8 192), .lit (.int .u8 192), .lit (.int .u8 192), .lit (.int .u8 192), .lit (.int .u8 192), .lit (.int .u8 192), .lit (.int .u8 192), .lit (.int .u8 192), .lit (.int .u8 192), .lit (.int .u8 192), .lit (.int .u8 192), .lit (.int .u8 192), .lit (.int .u8 192), .lit (.int .u8 192), .lit (.int .u8 192), .lit (.int .u8 192), .lit (.int .u8 136), .lit (.int .u8 192), .lit (.int .u8 192), .lit (.int .u8 192), .lit (.int .u8 192), .lit (.int .u8 192), .lit (.int .u8 192), .lit (.int .u8 192), .lit (.int .u8 192)]
/-- One of Go's own tables, pinned by name: the form's constant. -/
def laid_unicode_Lower : DataW Unit := Go.Pinned.lower
/-- One of Go's own tables, pinned by name: the form's constant. -/
def laid_unicode_Upper : DataW Unit := Go.Pinned.upper
/-- One of Go's own tables, pinned by name: the form's constant. -/
def laid_unicode_utf8_first : DataW Unit := Go.Pinned.utf8First

/-- 'laws.FnCalls': WHATEVER THE INPUT: true; the input reads as it did. -/
def fnCallsSpec : ChangeSpec := { name := "fnCalls", fn := fun _ => fun
  | [d1, d2, d3, d4] => { results := [.lit (.bool true)], args := [d1, d2, d3, d4] }
  | _ => none }
def fnCallsRow : OpenClaim := { program := "ytigalkobmfbdaaagreatdoor", sum := "679bac542899f4a6604581230a69c9a2c321cca3e88e2b961686bbe9197e931f", func := "loop.example/pub-g03264/laws.FnCalls", spec := "fnCalls", unfollowed := true, recurses := true, named := ["unicode/utf8.first", "unicode/utf8.acceptRanges", "unicode.White_Space", "unicode.properties", "unicode.Upper", "unicode.Lower"], loops := true, apart := false, laid := [("unicode/utf8.acceptRanges", laid_unicode_utf8_acceptRanges), ("unicode.White_Space", laid_unicode_White_Space), ("unicode.properties", laid_unicode_properties), ("unicode.Lower", laid_unicode_Lower), ("unicode.Upper", laid_unicode_Upper), ("unicode/utf8.first", laid_unicode_utf8_first)] }
def FnCallsSaid : Prop := fnCallsRow.holds Tryz.pinned (OpenSpec.ofChange fnCallsSpec)

/-- ITS FALSE NEIGHBOUR: 'it returns false'. Refute it at one input. -/
def fnCallsWrong : ChangeSpec := { name := "fnCalls", fn := fun _ => fun
  | [d1, d2, d3, d4] => { results := [.lit (.bool false)], args := [d1, d2, d3, d4] }
  | _ => none }
def FnCallsWrongFalsely : Prop := fnCallsRow.holds Tryz.pinned (OpenSpec.ofChange fnCallsWrong)

/-- 'laws.FnCount': WHATEVER THE INPUT: true; the input reads as it did. -/
def fnCountSpec : ChangeSpec := { name := "fnCount", fn := fun _ => fun
  | [d1, d2] => { results := [.lit (.bool true)], args := [d1, d2] }
  | _ => none }
def fnCountRow : OpenClaim := { program := "ytigalkobmfbdaaagreatdoor", sum := "679bac542899f4a6604581230a69c9a2c321cca3e88e2b961686bbe9197e931f", func := "loop.example/pub-g03264/laws.FnCount", spec := "fnCount", unfollowed := true, recurses := true, named := ["unicode/utf8.first", "unicode/utf8.acceptRanges", "unicode.White_Space", "unicode.properties", "unicode.Upper", "unicode.Lower"], loops := true, apart := false, laid := [("unicode/utf8.acceptRanges", laid_unicode_utf8_acceptRanges), ("unicode.White_Space", laid_unicode_White_Space), ("unicode.properties", laid_unicode_properties), ("unicode.Lower", laid_unicode_Lower), ("unicode.Upper", laid_unicode_Upper), ("unicode/utf8.first", laid_unicode_utf8_first)] }
def FnCountSaid : Prop := fnCountRow.holds Tryz.pinned (OpenSpec.ofChange fnCountSpec)

/-- ITS FALSE NEIGHBOUR: 'it returns false'. Refute it at one input. -/
def fnCountWrong : ChangeSpec := { name := "fnCount", fn := fun _ => fun
  | [d1, d2] => { results := [.lit (.bool false)], args := [d1, d2] }
  | _ => none }
def FnCountWrongFalsely : Prop := fnCountRow.holds Tryz.pinned (OpenSpec.ofChange fnCountWrong)

/-- 'laws.FnCut': WHATEVER THE INPUT: true; the input reads as it did. -/
def fnCutSpec : ChangeSpec := { name := "fnCut", fn := fun _ => fun
  | [d1, d2, d3] => { results := [.lit (.bool true)], args := [d1, d2, d3] }
  | _ => none }
def fnCutRow : OpenClaim := { program := "ytigalkobmfbdaaagreatdoor", sum := "679bac542899f4a6604581230a69c9a2c321cca3e88e2b961686bbe9197e931f", func := "loop.example/pub-g03264/laws.FnCut", spec := "fnCut", unfollowed := true, recurses := true, named := ["unicode/utf8.first", "unicode/utf8.acceptRanges", "unicode.White_Space", "unicode.properties", "unicode.Upper", "unicode.Lower"], loops := true, apart := false, laid := [("unicode/utf8.acceptRanges", laid_unicode_utf8_acceptRanges), ("unicode.White_Space", laid_unicode_White_Space), ("unicode.properties", laid_unicode_properties), ("unicode.Lower", laid_unicode_Lower), ("unicode.Upper", laid_unicode_Upper), ("unicode/utf8.first", laid_unicode_utf8_first)] }
def FnCutSaid : Prop := fnCutRow.holds Tryz.pinned (OpenSpec.ofChange fnCutSpec)

/-- ITS FALSE NEIGHBOUR: 'it returns false'. Refute it at one input. -/
def fnCutWrong : ChangeSpec := { name := "fnCut", fn := fun _ => fun
  | [d1, d2, d3] => { results := [.lit (.bool false)], args := [d1, d2, d3] }
  | _ => none }
def FnCutWrongFalsely : Prop := fnCutRow.holds Tryz.pinned (OpenSpec.ofChange fnCutWrong)

/-- 'laws.FnEntry': WHATEVER THE INPUT: true; the input reads as it did. -/
def fnEntrySpec : ChangeSpec := { name := "fnEntry", fn := fun _ => fun
  | [d] => { results := [.lit (.bool true)], args := [d] }
  | _ => none }
def fnEntryRow : OpenClaim := { program := "ytigalkobmfbdaaagreatdoor", sum := "679bac542899f4a6604581230a69c9a2c321cca3e88e2b961686bbe9197e931f", func := "loop.example/pub-g03264/laws.FnEntry", spec := "fnEntry", unfollowed := true, recurses := true, named := ["unicode/utf8.first", "unicode/utf8.acceptRanges", "unicode.White_Space", "unicode.properties", "unicode.Upper", "unicode.Lower"], loops := true, apart := false, laid := [("unicode/utf8.acceptRanges", laid_unicode_utf8_acceptRanges), ("unicode.White_Space", laid_unicode_White_Space), ("unicode.properties", laid_unicode_properties), ("unicode.Lower", laid_unicode_Lower), ("unicode.Upper", laid_unicode_Upper), ("unicode/utf8.first", laid_unicode_utf8_first)] }
def FnEntrySaid : Prop := fnEntryRow.holds Tryz.pinned (OpenSpec.ofChange fnEntrySpec)

/-- ITS FALSE NEIGHBOUR: 'it returns false'. Refute it at one input. -/
def fnEntryWrong : ChangeSpec := { name := "fnEntry", fn := fun _ => fun
  | [d] => { results := [.lit (.bool false)], args := [d] }
  | _ => none }
def FnEntryWrongFalsely : Prop := fnEntryRow.holds Tryz.pinned (OpenSpec.ofChange fnEntryWrong)

/-- 'laws.FnNames': WHATEVER THE INPUT: true; the input reads as it did. -/
def fnNamesSpec : ChangeSpec := { name := "fnNames", fn := fun _ => fun
  | [d] => { results := [.lit (.bool true)], args := [d] }
  | _ => none }
def fnNamesRow : OpenClaim := { program := "ytigalkobmfbdaaagreatdoor", sum := "679bac542899f4a6604581230a69c9a2c321cca3e88e2b961686bbe9197e931f", func := "loop.example/pub-g03264/laws.FnNames", spec := "fnNames", unfollowed := true, recurses := true, named := ["unicode/utf8.first", "unicode/utf8.acceptRanges", "unicode.White_Space", "unicode.properties", "unicode.Upper", "unicode.Lower"], loops := true, apart := false, laid := [("unicode/utf8.acceptRanges", laid_unicode_utf8_acceptRanges), ("unicode.White_Space", laid_unicode_White_Space), ("unicode.properties", laid_unicode_properties), ("unicode.Lower", laid_unicode_Lower), ("unicode.Upper", laid_unicode_Upper), ("unicode/utf8.first", laid_unicode_utf8_first)] }
def FnNamesSaid : Prop := fnNamesRow.holds Tryz.pinned (OpenSpec.ofChange fnNamesSpec)

/-- ITS FALSE NEIGHBOUR: 'it returns false'. Refute it at one input. -/
def fnNamesWrong : ChangeSpec := { name := "fnNames", fn := fun _ => fun
  | [d] => { results := [.lit (.bool false)], args := [d] }
  | _ => none }
def FnNamesWrongFalsely : Prop := fnNamesRow.holds Tryz.pinned (OpenSpec.ofChange fnNamesWrong)

/-- 'laws.FnParse': WHATEVER THE INPUT: true; the input reads as it did. -/
def fnParseSpec : ChangeSpec := { name := "fnParse", fn := fun _ => fun
  | [d1, d2] => { results := [.lit (.bool true)], args := [d1, d2] }
  | _ => none }
def fnParseRow : OpenClaim := { program := "ytigalkobmfbdaaagreatdoor", sum := "679bac542899f4a6604581230a69c9a2c321cca3e88e2b961686bbe9197e931f", func := "loop.example/pub-g03264/laws.FnParse", spec := "fnParse", unfollowed := true, recurses := true, named := ["unicode/utf8.first", "unicode/utf8.acceptRanges", "unicode.White_Space", "unicode.properties", "unicode.Upper", "unicode.Lower"], loops := true, apart := false, laid := [("unicode/utf8.acceptRanges", laid_unicode_utf8_acceptRanges), ("unicode.White_Space", laid_unicode_White_Space), ("unicode.properties", laid_unicode_properties), ("unicode.Lower", laid_unicode_Lower), ("unicode.Upper", laid_unicode_Upper), ("unicode/utf8.first", laid_unicode_utf8_first)] }
def FnParseSaid : Prop := fnParseRow.holds Tryz.pinned (OpenSpec.ofChange fnParseSpec)

/-- ITS FALSE NEIGHBOUR: 'it returns false'. Refute it at one input. -/
def fnParseWrong : ChangeSpec := { name := "fnParse", fn := fun _ => fun
  | [d1, d2] => { results := [.lit (.bool false)], args := [d1, d2] }
  | _ => none }
def FnParseWrongFalsely : Prop := fnParseRow.holds Tryz.pinned (OpenSpec.ofChange fnParseWrong)

/-- 'laws.FnUnknown': WHATEVER THE INPUT: true; the input reads as it did. -/
def fnUnknownSpec : ChangeSpec := { name := "fnUnknown", fn := fun _ => fun
  | [d1, d2] => { results := [.lit (.bool true)], args := [d1, d2] }
  | _ => none }
def fnUnknownRow : OpenClaim := { program := "ytigalkobmfbdaaagreatdoor", sum := "679bac542899f4a6604581230a69c9a2c321cca3e88e2b961686bbe9197e931f", func := "loop.example/pub-g03264/laws.FnUnknown", spec := "fnUnknown", unfollowed := true, recurses := true, named := ["unicode/utf8.first", "unicode/utf8.acceptRanges", "unicode.White_Space", "unicode.properties", "unicode.Upper", "unicode.Lower"], loops := true, apart := false, laid := [("unicode/utf8.acceptRanges", laid_unicode_utf8_acceptRanges), ("unicode.White_Space", laid_unicode_White_Space), ("unicode.properties", laid_unicode_properties), ("unicode.Lower", laid_unicode_Lower), ("unicode.Upper", laid_unicode_Upper), ("unicode/utf8.first", laid_unicode_utf8_first)] }
def FnUnknownSaid : Prop := fnUnknownRow.holds Tryz.pinned (OpenSpec.ofChange fnUnknownSpec)

/-- ITS FALSE NEIGHBOUR: 'it returns false'. Refute it at one input. -/
def fnUnknownWrong : ChangeSpec := { name := "fnUnknown", fn := fun _ => fun
  | [d1, d2] => { results := [.lit (.bool false)], args := [d1, d2] }
  | _ => none }
def FnUnknownWrongFalsely : Prop := fnUnknownRow.holds Tryz.pinned (OpenSpec.ofChange fnUnknownWrong)

/-- 'laws.FnPrint': WHATEVER THE INPUT: true; the input reads as it did. -/
def fnPrintSpec : ChangeSpec := { name := "fnPrint", fn := fun _ => fun
  | [d1, d2] => { results := [.lit (.bool true)], args := [d1, d2] }
  | _ => none }
def fnPrintRow : OpenClaim := { program := "ytigalkobmfbdaaagreatdoor", sum := "679bac542899f4a6604581230a69c9a2c321cca3e88e2b961686bbe9197e931f", func := "loop.example/pub-g03264/laws.FnPrint", spec := "fnPrint", unfollowed := true, recurses := true, named := ["unicode/utf8.first", "unicode/utf8.acceptRanges", "unicode.White_Space", "unicode.properties", "unicode.Upper", "unicode.Lower"], loops := true, apart := false, laid := [("unicode/utf8.acceptRanges", laid_unicode_utf8_acceptRanges), ("unicode.White_Space", laid_unicode_White_Space), ("unicode.properties", laid_unicode_properties), ("unicode.Lower", laid_unicode_Lower), ("unicode.Upper", laid_unicode_Upper), ("unicode/utf8.first", laid_unicode_utf8_first)] }
def FnPrintSaid : Prop := fnPrintRow.holds Tryz.pinned (OpenSpec.ofChange fnPrintSpec)

/-- ITS FALSE NEIGHBOUR: 'it returns false'. Refute it at one input. -/
def fnPrintWrong : ChangeSpec := { name := "fnPrint", fn := fun _ => fun
  | [d1, d2] => { results := [.lit (.bool false)], args := [d1, d2] }
  | _ => none }
def FnPrintWrongFalsely : Prop := fnPrintRow.holds Tryz.pinned (OpenSpec.ofChange fnPrintWrong)

/-- 'laws.FnBound': WHATEVER THE INPUT: true; the input reads as it did. -/
def fnBoundSpec : ChangeSpec := { name := "fnBound", fn := fun _ => fun
  | [d1, d2] => { results := [.lit (.bool true)], args := [d1, d2] }
  | _ => none }
def fnBoundRow : OpenClaim := { program := "ytigalkobmfbdaaagreatdoor", sum := "679bac542899f4a6604581230a69c9a2c321cca3e88e2b961686bbe9197e931f", func := "loop.example/pub-g03264/laws.FnBound", spec := "fnBound", unfollowed := true, recurses := true, named := ["unicode/utf8.first", "unicode/utf8.acceptRanges", "unicode.White_Space", "unicode.properties", "unicode.Upper", "unicode.Lower"], loops := true, apart := false, laid := [("unicode/utf8.acceptRanges", laid_unicode_utf8_acceptRanges), ("unicode.White_Space", laid_unicode_White_Space), ("unicode.properties", laid_unicode_properties), ("unicode.Lower", laid_unicode_Lower), ("unicode.Upper", laid_unicode_Upper), ("unicode/utf8.first", laid_unicode_utf8_first)] }
def FnBoundSaid : Prop := fnBoundRow.holds Tryz.pinned (OpenSpec.ofChange fnBoundSpec)

/-- ITS FALSE NEIGHBOUR: 'it returns false'. Refute it at one input. -/
def fnBoundWrong : ChangeSpec := { name := "fnBound", fn := fun _ => fun
  | [d1, d2] => { results := [.lit (.bool false)], args := [d1, d2] }
  | _ => none }
def FnBoundWrongFalsely : Prop := fnBoundRow.holds Tryz.pinned (OpenSpec.ofChange fnBoundWrong)

/-- 'laws.FnEmpty': WHATEVER THE INPUT: true; the input reads as it did. -/
def fnEmptySpec : ChangeSpec := { name := "fnEmpty", fn := fun _ => fun
  | [d1, d2] => { results := [.lit (.bool true)], args := [d1, d2] }
  | _ => none }
def fnEmptyRow : OpenClaim := { program := "ytigalkobmfbdaaagreatdoor", sum := "679bac542899f4a6604581230a69c9a2c321cca3e88e2b961686bbe9197e931f", func := "loop.example/pub-g03264/laws.FnEmpty", spec := "fnEmpty", unfollowed := true, recurses := true, named := ["unicode/utf8.first", "unicode/utf8.acceptRanges", "unicode.White_Space", "unicode.properties", "unicode.Upper", "unicode.Lower"], loops := true, apart := false, laid := [("unicode/utf8.acceptRanges", laid_unicode_utf8_acceptRanges), ("unicode.White_Space", laid_unicode_White_Space), ("unicode.properties", laid_unicode_properties), ("unicode.Lower", laid_unicode_Lower), ("unicode.Upper", laid_unicode_Upper), ("unicode/utf8.first", laid_unicode_utf8_first)] }
def FnEmptySaid : Prop := fnEmptyRow.holds Tryz.pinned (OpenSpec.ofChange fnEmptySpec)

/-- ITS FALSE NEIGHBOUR: 'it returns false'. Refute it at one input. -/
def fnEmptyWrong : ChangeSpec := { name := "fnEmpty", fn := fun _ => fun
  | [d1, d2] => { results := [.lit (.bool false)], args := [d1, d2] }
  | _ => none }
def FnEmptyWrongFalsely : Prop := fnEmptyRow.holds Tryz.pinned (OpenSpec.ofChange fnEmptyWrong)

/-- 'laws.FnItself': WHATEVER THE INPUT: true; the input reads as it did. -/
def fnItselfSpec : ChangeSpec := { name := "fnItself", fn := fun _ => fun
  | [d1, d2] => { results := [.lit (.bool true)], args := [d1, d2] }
  | _ => none }
def fnItselfRow : OpenClaim := { program := "ytigalkobmfbdaaagreatdoor", sum := "679bac542899f4a6604581230a69c9a2c321cca3e88e2b961686bbe9197e931f", func := "loop.example/pub-g03264/laws.FnItself", spec := "fnItself", unfollowed := true, recurses := true, named := ["unicode/utf8.first", "unicode/utf8.acceptRanges", "unicode.White_Space", "unicode.properties", "unicode.Upper", "unicode.Lower"], loops := true, apart := false, laid := [("unicode/utf8.acceptRanges", laid_unicode_utf8_acceptRanges), ("unicode.White_Space", laid_unicode_White_Space), ("unicode.properties", laid_unicode_properties), ("unicode.Lower", laid_unicode_Lower), ("unicode.Upper", laid_unicode_Upper), ("unicode/utf8.first", laid_unicode_utf8_first)] }
def FnItselfSaid : Prop := fnItselfRow.holds Tryz.pinned (OpenSpec.ofChange fnItselfSpec)

/-- ITS FALSE NEIGHBOUR: 'it returns false'. Refute it at one input. -/
def fnItselfWrong : ChangeSpec := { name := "fnItself", fn := fun _ => fun
  | [d1, d2] => { results := [.lit (.bool false)], args := [d1, d2] }
  | _ => none }
def FnItselfWrongFalsely : Prop := fnItselfRow.holds Tryz.pinned (OpenSpec.ofChange fnItselfWrong)

/-- 'laws.FnMatch': WHATEVER THE INPUT: true; the input reads as it did. -/
def fnMatchSpec : ChangeSpec := { name := "fnMatch", fn := fun _ => fun
  | [d1, d2, d3] => { results := [.lit (.bool true)], args := [d1, d2, d3] }
  | _ => none }
def fnMatchRow : OpenClaim := { program := "ytigalkobmfbdaaagreatdoor", sum := "679bac542899f4a6604581230a69c9a2c321cca3e88e2b961686bbe9197e931f", func := "loop.example/pub-g03264/laws.FnMatch", spec := "fnMatch", unfollowed := true, recurses := true, named := ["unicode/utf8.first", "unicode/utf8.acceptRanges", "unicode.White_Space", "unicode.properties", "unicode.Upper", "unicode.Lower"], loops := true, apart := false, laid := [("unicode/utf8.acceptRanges", laid_unicode_utf8_acceptRanges), ("unicode.White_Space", laid_unicode_White_Space), ("unicode.properties", laid_unicode_properties), ("unicode.Lower", laid_unicode_Lower), ("unicode.Upper", laid_unicode_Upper), ("unicode/utf8.first", laid_unicode_utf8_first)] }
def FnMatchSaid : Prop := fnMatchRow.holds Tryz.pinned (OpenSpec.ofChange fnMatchSpec)

/-- ITS FALSE NEIGHBOUR: 'it returns false'. Refute it at one input. -/
def fnMatchWrong : ChangeSpec := { name := "fnMatch", fn := fun _ => fun
  | [d1, d2, d3] => { results := [.lit (.bool false)], args := [d1, d2, d3] }
  | _ => none }
def FnMatchWrongFalsely : Prop := fnMatchRow.holds Tryz.pinned (OpenSpec.ofChange fnMatchWrong)

/-- 'laws.FnNot': WHATEVER THE INPUT: true; the input reads as it did. -/
def fnNotSpec : ChangeSpec := { name := "fnNot", fn := fun _ => fun
  | [d1, d2] => { results := [.lit (.bool true)], args := [d1, d2] }
  | _ => none }
def fnNotRow : OpenClaim := { program := "ytigalkobmfbdaaagreatdoor", sum := "679bac542899f4a6604581230a69c9a2c321cca3e88e2b961686bbe9197e931f", func := "loop.example/pub-g03264/laws.FnNot", spec := "fnNot", unfollowed := true, recurses := true, named := ["unicode/utf8.first", "unicode/utf8.acceptRanges", "unicode.White_Space", "unicode.properties", "unicode.Upper", "unicode.Lower"], loops := true, apart := false, laid := [("unicode/utf8.acceptRanges", laid_unicode_utf8_acceptRanges), ("unicode.White_Space", laid_unicode_White_Space), ("unicode.properties", laid_unicode_properties), ("unicode.Lower", laid_unicode_Lower), ("unicode.Upper", laid_unicode_Upper), ("unicode/utf8.first", laid_unicode_utf8_first)] }
def FnNotSaid : Prop := fnNotRow.holds Tryz.pinned (OpenSpec.ofChange fnNotSpec)

/-- ITS FALSE NEIGHBOUR: 'it returns false'. Refute it at one input. -/
def fnNotWrong : ChangeSpec := { name := "fnNot", fn := fun _ => fun
  | [d1, d2] => { results := [.lit (.bool false)], args := [d1, d2] }
  | _ => none }
def FnNotWrongFalsely : Prop := fnNotRow.holds Tryz.pinned (OpenSpec.ofChange fnNotWrong)

/-- 'laws.FnTwice': WHATEVER THE INPUT: true; the input reads as it did. -/
def fnTwiceSpec : ChangeSpec := { name := "fnTwice", fn := fun _ => fun
  | [d1, d2] => { results := [.lit (.bool true)], args := [d1, d2] }
  | _ => none }
def fnTwiceRow : OpenClaim := { program := "ytigalkobmfbdaaagreatdoor", sum := "679bac542899f4a6604581230a69c9a2c321cca3e88e2b961686bbe9197e931f", func := "loop.example/pub-g03264/laws.FnTwice", spec := "fnTwice", unfollowed := true, recurses := true, named := ["unicode/utf8.first", "unicode/utf8.acceptRanges", "unicode.White_Space", "unicode.properties", "unicode.Upper", "unicode.Lower"], loops := true, apart := false, laid := [("unicode/utf8.acceptRanges", laid_unicode_utf8_acceptRanges), ("unicode.White_Space", laid_unicode_White_Space), ("unicode.properties", laid_unicode_properties), ("unicode.Lower", laid_unicode_Lower), ("unicode.Upper", laid_unicode_Upper), ("unicode/utf8.first", laid_unicode_utf8_first)] }
def FnTwiceSaid : Prop := fnTwiceRow.holds Tryz.pinned (OpenSpec.ofChange fnTwiceSpec)

/-- ITS FALSE NEIGHBOUR: 'it returns false'. Refute it at one input. -/
def fnTwiceWrong : ChangeSpec := { name := "fnTwice", fn := fun _ => fun
  | [d1, d2] => { results := [.lit (.bool false)], args := [d1, d2] }
  | _ => none }
def FnTwiceWrongFalsely : Prop := fnTwiceRow.holds Tryz.pinned (OpenSpec.ofChange fnTwiceWrong)

/-- 'laws.FnWrong': WHATEVER THE INPUT: true; the input reads as it did. -/
def fnWrongSpec : ChangeSpec := { name := "fnWrong", fn := fun _ => fun
  | [d1, d2] => { results := [.lit (.bool true)], args := [d1, d2] }
  | _ => none }
def fnWrongRow : OpenClaim := { program := "ytigalkobmfbdaaagreatdoor", sum := "679bac542899f4a6604581230a69c9a2c321cca3e88e2b961686bbe9197e931f", func := "loop.example/pub-g03264/laws.FnWrong", spec := "fnWrong", unfollowed := true, recurses := true, named := ["unicode/utf8.first", "unicode/utf8.acceptRanges", "unicode.White_Space", "unicode.properties", "unicode.Upper", "unicode.Lower"], loops := true, apart := false, laid := [("unicode/utf8.acceptRanges", laid_unicode_utf8_acceptRanges), ("unicode.White_Space", laid_unicode_White_Space), ("unicode.properties", laid_unicode_properties), ("unicode.Lower", laid_unicode_Lower), ("unicode.Upper", laid_unicode_Upper), ("unicode/utf8.first", laid_unicode_utf8_first)] }
def FnWrongSaid : Prop := fnWrongRow.holds Tryz.pinned (OpenSpec.ofChange fnWrongSpec)

/-- ITS FALSE NEIGHBOUR: 'it returns false'. Refute it at one input. -/
def fnWrongWrong : ChangeSpec := { name := "fnWrong", fn := fun _ => fun
  | [d1, d2] => { results := [.lit (.bool false)], args := [d1, d2] }
  | _ => none }
def FnWrongWrongFalsely : Prop := fnWrongRow.holds Tryz.pinned (OpenSpec.ofChange fnWrongWrong)

/- THE SECOND FORM. 'bulk': how many values and letters a reading holds, each counted each time it is reached (what is shared counts as often as it is met; a slice's spare places count too). A statement '..UptoSaid' is the law's where the arguments, and the package variables that the reading takes, are together of bulk at most 1048576: NARROWER than '..Said'. Prove '..Said' where nothing that the law and all that it calls make is longer than what came in: it says more and counts as full. Else prove '..UptoSaid'. A law counts once. -/
mutual
def uptoBulk {H : Type} : DataW H → Nat
  | .lit (.string bytes) => bytes.length + 1
  | .lit _ => 1
  | .nil => 1
  | .ptr d => uptoBulk d + 1
  | .slice elems spare => uptoBulkAll elems + uptoBulkAll spare + 1
  | .agg parts => uptoBulkAll parts + 1
  | .iface _ d => uptoBulk d + 1
  | .map entries => uptoBulkEntries entries + 1
  | .held _ => 1
def uptoBulkAll {H : Type} : List (DataW H) → Nat
  | [] => 0
  | d :: r => uptoBulk d + uptoBulkAll r
def uptoBulkEntries {H : Type} : List (Lit × DataW H) → Nat
  | [] => 0
  | x :: r => uptoBulkEntry x + uptoBulkEntries r
def uptoBulkEntry {H : Type} : Lit × DataW H → Nat
  | (.string bytes, d) => bytes.length + uptoBulk d + 1
  | (_, d) => uptoBulk d + 1
 end
def uptoSmall : (H : Type) → List (DataW H) → Bool := fun _ ds => decide (uptoBulkAll ds ≤ 1048576)
def OpenSpec.upto (s : _root_.Go.ChangeSpec) : _root_.Go.OpenSpec := { _root_.Go.OpenSpec.ofChange s with cond := some uptoSmall }

/-- 'laws.FnCalls', WHERE WHAT IT READS IS OF BULK AT MOST 1048576: true; the input reads as it did. -/
def fnCallsUptoRow : OpenClaim := { program := "ytigalkobmfbdaaagreatdoor", sum := "679bac542899f4a6604581230a69c9a2c321cca3e88e2b961686bbe9197e931f", func := "loop.example/pub-g03264/laws.FnCalls", spec := "fnCalls", unfollowed := true, recurses := true, named := ["unicode/utf8.first", "unicode/utf8.acceptRanges", "unicode.White_Space", "unicode.properties", "unicode.Upper", "unicode.Lower"], loops := true, apart := false, laid := [("unicode/utf8.acceptRanges", laid_unicode_utf8_acceptRanges), ("unicode.White_Space", laid_unicode_White_Space), ("unicode.properties", laid_unicode_properties), ("unicode.Lower", laid_unicode_Lower), ("unicode.Upper", laid_unicode_Upper), ("unicode/utf8.first", laid_unicode_utf8_first)], narrowed := true }
def FnCallsUptoSaid : Prop := fnCallsUptoRow.holds Tryz.pinned (OpenSpec.upto fnCallsSpec)

/-- 'laws.FnCount', WHERE WHAT IT READS IS OF BULK AT MOST 1048576: true; the input reads as it did. -/
def fnCountUptoRow : OpenClaim := { program := "ytigalkobmfbdaaagreatdoor", sum := "679bac542899f4a6604581230a69c9a2c321cca3e88e2b961686bbe9197e931f", func := "loop.example/pub-g03264/laws.FnCount", spec := "fnCount", unfollowed := true, recurses := true, named := ["unicode/utf8.first", "unicode/utf8.acceptRanges", "unicode.White_Space", "unicode.properties", "unicode.Upper", "unicode.Lower"], loops := true, apart := false, laid := [("unicode/utf8.acceptRanges", laid_unicode_utf8_acceptRanges), ("unicode.White_Space", laid_unicode_White_Space), ("unicode.properties", laid_unicode_properties), ("unicode.Lower", laid_unicode_Lower), ("unicode.Upper", laid_unicode_Upper), ("unicode/utf8.first", laid_unicode_utf8_first)], narrowed := true }
def FnCountUptoSaid : Prop := fnCountUptoRow.holds Tryz.pinned (OpenSpec.upto fnCountSpec)

/-- 'laws.FnCut', WHERE WHAT IT READS IS OF BULK AT MOST 1048576: true; the input reads as it did. -/
def fnCutUptoRow : OpenClaim := { program := "ytigalkobmfbdaaagreatdoor", sum := "679bac542899f4a6604581230a69c9a2c321cca3e88e2b961686bbe9197e931f", func := "loop.example/pub-g03264/laws.FnCut", spec := "fnCut", unfollowed := true, recurses := true, named := ["unicode/utf8.first", "unicode/utf8.acceptRanges", "unicode.White_Space", "unicode.properties", "unicode.Upper", "unicode.Lower"], loops := true, apart := false, laid := [("unicode/utf8.acceptRanges", laid_unicode_utf8_acceptRanges), ("unicode.White_Space", laid_unicode_White_Space), ("unicode.properties", laid_unicode_properties), ("unicode.Lower", laid_unicode_Lower), ("unicode.Upper", laid_unicode_Upper), ("unicode/utf8.first", laid_unicode_utf8_first)], narrowed := true }
def FnCutUptoSaid : Prop := fnCutUptoRow.holds Tryz.pinned (OpenSpec.upto fnCutSpec)

/-- 'laws.FnEntry', WHERE WHAT IT READS IS OF BULK AT MOST 1048576: true; the input reads as it did. -/
def fnEntryUptoRow : OpenClaim := { program := "ytigalkobmfbdaaagreatdoor", sum := "679bac542899f4a6604581230a69c9a2c321cca3e88e2b961686bbe9197e931f", func := "loop.example/pub-g03264/laws.FnEntry", spec := "fnEntry", unfollowed := true, recurses := true, named := ["unicode/utf8.first", "unicode/utf8.acceptRanges", "unicode.White_Space", "unicode.properties", "unicode.Upper", "unicode.Lower"], loops := true, apart := false, laid := [("unicode/utf8.acceptRanges", laid_unicode_utf8_acceptRanges), ("unicode.White_Space", laid_unicode_White_Space), ("unicode.properties", laid_unicode_properties), ("unicode.Lower", laid_unicode_Lower), ("unicode.Upper", laid_unicode_Upper), ("unicode/utf8.first", laid_unicode_utf8_first)], narrowed := true }
def FnEntryUptoSaid : Prop := fnEntryUptoRow.holds Tryz.pinned (OpenSpec.upto fnEntrySpec)

/-- 'laws.FnNames', WHERE WHAT IT READS IS OF BULK AT MOST 1048576: true; the input reads as it did. -/
def fnNamesUptoRow : OpenClaim := { program := "ytigalkobmfbdaaagreatdoor", sum := "679bac542899f4a6604581230a69c9a2c321cca3e88e2b961686bbe9197e931f", func := "loop.example/pub-g03264/laws.FnNames", spec := "fnNames", unfollowed := true, recurses := true, named := ["unicode/utf8.first", "unicode/utf8.acceptRanges", "unicode.White_Space", "unicode.properties", "unicode.Upper", "unicode.Lower"], loops := true, apart := false, laid := [("unicode/utf8.acceptRanges", laid_unicode_utf8_acceptRanges), ("unicode.White_Space", laid_unicode_White_Space), ("unicode.properties", laid_unicode_properties), ("unicode.Lower", laid_unicode_Lower), ("unicode.Upper", laid_unicode_Upper), ("unicode/utf8.first", laid_unicode_utf8_first)], narrowed := true }
def FnNamesUptoSaid : Prop := fnNamesUptoRow.holds Tryz.pinned (OpenSpec.upto fnNamesSpec)

/-- 'laws.FnParse', WHERE WHAT IT READS IS OF BULK AT MOST 1048576: true; the input reads as it did. -/
def fnParseUptoRow : OpenClaim := { program := "ytigalkobmfbdaaagreatdoor", sum := "679bac542899f4a6604581230a69c9a2c321cca3e88e2b961686bbe9197e931f", func := "loop.example/pub-g03264/laws.FnParse", spec := "fnParse", unfollowed := true, recurses := true, named := ["unicode/utf8.first", "unicode/utf8.acceptRanges", "unicode.White_Space", "unicode.properties", "unicode.Upper", "unicode.Lower"], loops := true, apart := false, laid := [("unicode/utf8.acceptRanges", laid_unicode_utf8_acceptRanges), ("unicode.White_Space", laid_unicode_White_Space), ("unicode.properties", laid_unicode_properties), ("unicode.Lower", laid_unicode_Lower), ("unicode.Upper", laid_unicode_Upper), ("unicode/utf8.first", laid_unicode_utf8_first)], narrowed := true }
def FnParseUptoSaid : Prop := fnParseUptoRow.holds Tryz.pinned (OpenSpec.upto fnParseSpec)

/-- 'laws.FnUnknown', WHERE WHAT IT READS IS OF BULK AT MOST 1048576: true; the input reads as it did. -/
def fnUnknownUptoRow : OpenClaim := { program := "ytigalkobmfbdaaagreatdoor", sum := "679bac542899f4a6604581230a69c9a2c321cca3e88e2b961686bbe9197e931f", func := "loop.example/pub-g03264/laws.FnUnknown", spec := "fnUnknown", unfollowed := true, recurses := true, named := ["unicode/utf8.first", "unicode/utf8.acceptRanges", "unicode.White_Space", "unicode.properties", "unicode.Upper", "unicode.Lower"], loops := true, apart := false, laid := [("unicode/utf8.acceptRanges", laid_unicode_utf8_acceptRanges), ("unicode.White_Space", laid_unicode_White_Space), ("unicode.properties", laid_unicode_properties), ("unicode.Lower", laid_unicode_Lower), ("unicode.Upper", laid_unicode_Upper), ("unicode/utf8.first", laid_unicode_utf8_first)], narrowed := true }
def FnUnknownUptoSaid : Prop := fnUnknownUptoRow.holds Tryz.pinned (OpenSpec.upto fnUnknownSpec)

/-- 'laws.FnPrint', WHERE WHAT IT READS IS OF BULK AT MOST 1048576: true; the input reads as it did. -/
def fnPrintUptoRow : OpenClaim := { program := "ytigalkobmfbdaaagreatdoor", sum := "679bac542899f4a6604581230a69c9a2c321cca3e88e2b961686bbe9197e931f", func := "loop.example/pub-g03264/laws.FnPrint", spec := "fnPrint", unfollowed := true, recurses := true, named := ["unicode/utf8.first", "unicode/utf8.acceptRanges", "unicode.White_Space", "unicode.properties", "unicode.Upper", "unicode.Lower"], loops := true, apart := false, laid := [("unicode/utf8.acceptRanges", laid_unicode_utf8_acceptRanges), ("unicode.White_Space", laid_unicode_White_Space), ("unicode.properties", laid_unicode_properties), ("unicode.Lower", laid_unicode_Lower), ("unicode.Upper", laid_unicode_Upper), ("unicode/utf8.first", laid_unicode_utf8_first)], narrowed := true }
def FnPrintUptoSaid : Prop := fnPrintUptoRow.holds Tryz.pinned (OpenSpec.upto fnPrintSpec)

/-- 'laws.FnBound', WHERE WHAT IT READS IS OF BULK AT MOST 1048576: true; the input reads as it did. -/
def fnBoundUptoRow : OpenClaim := { program := "ytigalkobmfbdaaagreatdoor", sum := "679bac542899f4a6604581230a69c9a2c321cca3e88e2b961686bbe9197e931f", func := "loop.example/pub-g03264/laws.FnBound", spec := "fnBound", unfollowed := true, recurses := true, named := ["unicode/utf8.first", "unicode/utf8.acceptRanges", "unicode.White_Space", "unicode.properties", "unicode.Upper", "unicode.Lower"], loops := true, apart := false, laid := [("unicode/utf8.acceptRanges", laid_unicode_utf8_acceptRanges), ("unicode.White_Space", laid_unicode_White_Space), ("unicode.properties", laid_unicode_properties), ("unicode.Lower", laid_unicode_Lower), ("unicode.Upper", laid_unicode_Upper), ("unicode/utf8.first", laid_unicode_utf8_first)], narrowed := true }
def FnBoundUptoSaid : Prop := fnBoundUptoRow.holds Tryz.pinned (OpenSpec.upto fnBoundSpec)

/-- 'laws.FnEmpty', WHERE WHAT IT READS IS OF BULK AT MOST 1048576: true; the input reads as it did. -/
def fnEmptyUptoRow : OpenClaim := { program := "ytigalkobmfbdaaagreatdoor", sum := "679bac542899f4a6604581230a69c9a2c321cca3e88e2b961686bbe9197e931f", func := "loop.example/pub-g03264/laws.FnEmpty", spec := "fnEmpty", unfollowed := true, recurses := true, named := ["unicode/utf8.first", "unicode/utf8.acceptRanges", "unicode.White_Space", "unicode.properties", "unicode.Upper", "unicode.Lower"], loops := true, apart := false, laid := [("unicode/utf8.acceptRanges", laid_unicode_utf8_acceptRanges), ("unicode.White_Space", laid_unicode_White_Space), ("unicode.properties", laid_unicode_properties), ("unicode.Lower", laid_unicode_Lower), ("unicode.Upper", laid_unicode_Upper), ("unicode/utf8.first", laid_unicode_utf8_first)], narrowed := true }
def FnEmptyUptoSaid : Prop := fnEmptyUptoRow.holds Tryz.pinned (OpenSpec.upto fnEmptySpec)

/-- 'laws.FnItself', WHERE WHAT IT READS IS OF BULK AT MOST 1048576: true; the input reads as it did. -/
def fnItselfUptoRow : OpenClaim := { program := "ytigalkobmfbdaaagreatdoor", sum := "679bac542899f4a6604581230a69c9a2c321cca3e88e2b961686bbe9197e931f", func := "loop.example/pub-g03264/laws.FnItself", spec := "fnItself", unfollowed := true, recurses := true, named := ["unicode/utf8.first", "unicode/utf8.acceptRanges", "unicode.White_Space", "unicode.properties", "unicode.Upper", "unicode.Lower"], loops := true, apart := false, laid := [("unicode/utf8.acceptRanges", laid_unicode_utf8_acceptRanges), ("unicode.White_Space", laid_unicode_White_Space), ("unicode.properties", laid_unicode_properties), ("unicode.Lower", laid_unicode_Lower), ("unicode.Upper", laid_unicode_Upper), ("unicode/utf8.first", laid_unicode_utf8_first)], narrowed := true }
def FnItselfUptoSaid : Prop := fnItselfUptoRow.holds Tryz.pinned (OpenSpec.upto fnItselfSpec)

/-- 'laws.FnMatch', WHERE WHAT IT READS IS OF BULK AT MOST 1048576: true; the input reads as it did. -/
def fnMatchUptoRow : OpenClaim := { program := "ytigalkobmfbdaaagreatdoor", sum := "679bac542899f4a6604581230a69c9a2c321cca3e88e2b961686bbe9197e931f", func := "loop.example/pub-g03264/laws.FnMatch", spec := "fnMatch", unfollowed := true, recurses := true, named := ["unicode/utf8.first", "unicode/utf8.acceptRanges", "unicode.White_Space", "unicode.properties", "unicode.Upper", "unicode.Lower"], loops := true, apart := false, laid := [("unicode/utf8.acceptRanges", laid_unicode_utf8_acceptRanges), ("unicode.White_Space", laid_unicode_White_Space), ("unicode.properties", laid_unicode_properties), ("unicode.Lower", laid_unicode_Lower), ("unicode.Upper", laid_unicode_Upper), ("unicode/utf8.first", laid_unicode_utf8_first)], narrowed := true }
def FnMatchUptoSaid : Prop := fnMatchUptoRow.holds Tryz.pinned (OpenSpec.upto fnMatchSpec)

/-- 'laws.FnNot', WHERE WHAT IT READS IS OF BULK AT MOST 1048576: true; the input reads as it did. -/
def fnNotUptoRow : OpenClaim := { program := "ytigalkobmfbdaaagreatdoor", sum := "679bac542899f4a6604581230a69c9a2c321cca3e88e2b961686bbe9197e931f", func := "loop.example/pub-g03264/laws.FnNot", spec := "fnNot", unfollowed := true, recurses := true, named := ["unicode/utf8.first", "unicode/utf8.acceptRanges", "unicode.White_Space", "unicode.properties", "unicode.Upper", "unicode.Lower"], loops := true, apart := false, laid := [("unicode/utf8.acceptRanges", laid_unicode_utf8_acceptRanges), ("unicode.White_Space", laid_unicode_White_Space), ("unicode.properties", laid_unicode_properties), ("unicode.Lower", laid_unicode_Lower), ("unicode.Upper", laid_unicode_Upper), ("unicode/utf8.first", laid_unicode_utf8_first)], narrowed := true }
def FnNotUptoSaid : Prop := fnNotUptoRow.holds Tryz.pinned (OpenSpec.upto fnNotSpec)

/-- 'laws.FnTwice', WHERE WHAT IT READS IS OF BULK AT MOST 1048576: true; the input reads as it did. -/
def fnTwiceUptoRow : OpenClaim := { program := "ytigalkobmfbdaaagreatdoor", sum := "679bac542899f4a6604581230a69c9a2c321cca3e88e2b961686bbe9197e931f", func := "loop.example/pub-g03264/laws.FnTwice", spec := "fnTwice", unfollowed := true, recurses := true, named := ["unicode/utf8.first", "unicode/utf8.acceptRanges", "unicode.White_Space", "unicode.properties", "unicode.Upper", "unicode.Lower"], loops := true, apart := false, laid := [("unicode/utf8.acceptRanges", laid_unicode_utf8_acceptRanges), ("unicode.White_Space", laid_unicode_White_Space), ("unicode.properties", laid_unicode_properties), ("unicode.Lower", laid_unicode_Lower), ("unicode.Upper", laid_unicode_Upper), ("unicode/utf8.first", laid_unicode_utf8_first)], narrowed := true }
def FnTwiceUptoSaid : Prop := fnTwiceUptoRow.holds Tryz.pinned (OpenSpec.upto fnTwiceSpec)

/-- 'laws.FnWrong', WHERE WHAT IT READS IS OF BULK AT MOST 1048576: true; the input reads as it did. -/
def fnWrongUptoRow : OpenClaim := { program := "ytigalkobmfbdaaagreatdoor", sum := "679bac542899f4a6604581230a69c9a2c321cca3e88e2b961686bbe9197e931f", func := "loop.example/pub-g03264/laws.FnWrong", spec := "fnWrong", unfollowed := true, recurses := true, named := ["unicode/utf8.first", "unicode/utf8.acceptRanges", "unicode.White_Space", "unicode.properties", "unicode.Upper", "unicode.Lower"], loops := true, apart := false, laid := [("unicode/utf8.acceptRanges", laid_unicode_utf8_acceptRanges), ("unicode.White_Space", laid_unicode_White_Space), ("unicode.properties", laid_unicode_properties), ("unicode.Lower", laid_unicode_Lower), ("unicode.Upper", laid_unicode_Upper), ("unicode/utf8.first", laid_unicode_utf8_first)], narrowed := true }
def FnWrongUptoSaid : Prop := fnWrongUptoRow.holds Tryz.pinned (OpenSpec.upto fnWrongSpec)

end Rows
end Go.Proofs.YtigalkobmfbdaaaGreatDoor
