/-
  NARROWER THAN 'FOR EVERY INPUT', by the rows' own cells (each row's printed sentence says how): FnTrimSpaceTest: laid · FnTrimSpaceOne: laid · FnFieldsWords: laid · FnExactFieldsSeq: laid · FnExactFields: laid · FnFieldsMore: laid · FnFieldsSeqAgain: laid · FnExactTrimSpace: laid · FnFieldsSeqs: laid.
  DERIVED. THE GIVEN ROWS OF THIS SEAT. 9 by the template 'for every input the law returns true; each argument reads behind the call as it read before'; 0 by the template 'total and deterministic' (their statements: YthbfdajbajijeaaDoorTotals.lean).
  GIVEN WITH THE SEED: the statements are not yours to turn. If you find one false, say at which input.
  Laid BY PROGRAM, IN A SANDBOX (cutbox-rows.mjs): the forced cells as the released guide's own fill.sh prints them over the translation f4d8e5be379cd105… (all of the seat's roots in one cut). By AI agents, Wed Nov 11 2026. No macro, syntax, notation, axiom, sorry.
-/
import Derived.Test.YthbfdajbajijeaaDoorChecked
import GoSem.PinnedTables
import GoSem.Claim
import GoSem.ClaimJoined
import GoSem.ClaimMapViews
import Derived.JoinedTies
import Derived.KernelRfl
namespace Go.Proofs.YthbfdajbajijeaaDoor
/- THE CELL 'sum', in the pinned program and in every row, IS THE sha256 OF THE DUMP (.gsa) THAT YthbfdajbajijeaaDoorProg.lean LOADS. Nothing in Lean hashes anything: it is a label: what it is worth is what the hold of that sum in a sandbox is worth. -/
noncomputable def Tryd.pinned : Pinned := { name := "ythbfdajbajijeaadoor", sum := "f4d8e5be379cd10517ef878ca4bf1ce0928d1bbff3bccb489b8254037a917a21", checked := Tryd.checked }
namespace Rows
def none {H : Type} : Left H := { results := [], args := [] }

/- WHAT THE LISTED PACKAGE-LEVEL VARIABLES READ AS WHEN THE CALL BEGINS. Each datum BY PROGRAM (the guide's laid-datum.mjs) off the statement by which the dump's own 'gosem.cut.vars' lays the variable. In a bare row this is a premise. The card (YthbfdajbajijeaaDoorCards.lean) ties it to the program's text. -/
def laid_unicode_utf8_acceptRanges {H : Type} : DataW H := .agg [.agg [.lit (.int .u8 128), .lit (.int .u8 191)], .agg [.lit (.int .u8 160), .lit (.int .u8 191)], .agg [.lit (.int .u8 128), .lit (.int .u8 159)], .agg [.lit (.int .u8 144), .lit (.int .u8 191)], .agg [.lit (.int .u8 128), .lit (.int .u8 143)], .agg [.lit (.int .u8 0), .lit (.int .u8 0)], .agg [.lit (.int .u8 0), .lit (.int .u8 0)], .agg [.lit (.int .u8 0), .lit (.int .u8 0)], .agg [.lit (.int .u8 0), .lit (.int .u8 0)], .agg [.lit (.int .u8 0), .lit (.int .u8 0)], .agg [.lit (.int .u8 0), .lit (.int .u8 0)], .agg [.lit (.int .u8 0), .lit (.int .u8 0)], .agg [.lit (.int .u8 0), .lit (.int .u8 0)], .agg [.lit (.int .u8 0), .lit (.int .u8 0)], .agg [.lit (.int .u8 0), .lit (.int .u8 0)], .agg [.lit (.int .u8 0), .lit (.int .u8 0)]]
def laid_unicode_White_Space {H : Type} : DataW H := .ptr (.agg [.slice [.agg [.lit (.int .u16 9), .lit (.int .u16 13), .lit (.int .u16 1)], .agg [.lit (.int .u16 32), .lit (.int .u16 133), .lit (.int .u16 101)], .agg [.lit (.int .u16 160), .lit (.int .u16 5760), .lit (.int .u16 5600)], .agg [.lit (.int .u16 8192), .lit (.int .u16 8202), .lit (.int .u16 1)], .agg [.lit (.int .u16 8232), .lit (.int .u16 8233), .lit (.int .u16 1)], .agg [.lit (.int .u16 8239), .lit (.int .u16 8287), .lit (.int .u16 48)], .agg [.lit (.int .u16 12288), .lit (.int .u16 12288), .lit (.int .u16 1)]] [], .nil, .lit (.int .i64 2)])
def laid_bytes_asciiSpace {H : Type} : DataW H := .agg [.lit (.int .u8 0), .lit (.int .u8 0), .lit (.int .u8 0), .lit (.int .u8 0), .lit (.int .u8 0), .lit (.int .u8 0), .lit (.int .u8 0), .lit (.int .u8 0), .lit (.int .u8 0), .lit (.int .u8 1), .lit (.int .u8 1), .lit (.int .u8 1), .lit (.int .u8 1), .lit (.int .u8 1), .lit (.int .u8 0), .lit (.int .u8 0), .lit (.int .u8 0), .lit (.int .u8 0), .lit (.int .u8 0), .lit (.int .u8 0), .lit (.int .u8 0), .lit (.int .u8 0), .lit (.int .u8 0), .lit (.int .u8 0), .lit (.int .u8 0), .lit (.int .u8 0), .lit (.int .u8 0), .lit (.int .u8 0), .lit (.int .u8 0), .lit (.int .u8 0), .lit (.int .u8 0), .lit (.int .u8 0), .lit (.int .u8 1), .lit (.int .u8 0), .lit (.int .u8 0), .lit (.int .u8 0), .lit (.int .u8 0), .lit (.int .u8 0), .lit (.int .u8 0), .lit (.int .u8 0), .lit (.int .u8 0), .lit (.int .u8 0), .lit (.int .u8 0), .lit (.int .u8 0), .lit (.int .u8 0), .lit (.int .u8 0), .lit (.int .u8 0), .lit (.int .u8 0), .lit (.int .u8 0), .lit (.int .u8 0), .lit (.int .u8 0), .lit (.int .u8 0), .lit (.int .u8 0), .lit (.int .u8 0), .lit (.int .u8 0), .lit (.int .u8 0), .lit (.int .u8 0), .lit (.int .u8 0), .lit (.int .u8 0), .lit (.int .u8 0), .lit (.int .u8 0), .lit (.int .u8 0), .lit (.int .u8 0), .lit (.int .u8 0), .lit (.int .u8 0), .lit (.int .u8 0), .lit (.int .u8 0), .lit (.int .u8 0), .lit (.int .u8 0), .lit (.int .u8 0), .lit (.int .u8 0), .lit (.int .u8 0), .lit (.int .u8 0), .lit (.int .u8 0), .lit (.int .u8 0), .lit (.int .u8 0), .lit (.int .u8 0), .lit (.int .u8 0), .lit (.int .u8 0), .lit (.int .u8 0), .lit (.int .u8 0), .lit (.int .u8 0), .lit (.int .u8 0), .lit (.int .u8 0), .lit (.int .u8 0), .lit (.int .u8 0), .lit (.int .u8 0), .lit (.int .u8 0), .lit (.int .u8 0), .lit (.int .u8 0), .lit (.int .u8 0), .lit (.int .u8 0), .lit (.int .u8 0), .lit (.int .u8 0), .lit (.int .u8 0), .lit (.int .u8 0), .lit (.int .u8 0), .lit (.int .u8 0), .lit (.int .u8 0), .lit (.int .u8 0), .lit (.int .u8 0), .lit (.int .u8 0), .lit (.int .u8 0), .lit (.int .u8 0), .lit (.int .u8 0), .lit (.int .u8 0), .lit (.int .u8 0), .lit (.int .u8 0), .lit (.int .u8 0), .lit (.int .u8 0), .lit (.int .u8 0), .lit (.int .u8 0), .lit (.int .u8 0), .lit (.int .u8 0), .lit (.int .u8 0), .lit (.int .u8 0), .lit (.int .u8 0), .lit (.int .u8 0), .lit (.int .u8 0), .lit (.int .u8 0), .lit (.int .u8 0), .lit (.int .u8 0), .lit (.int .u8 0), .lit (.int .u8 0), .lit (.int .u8 0), .lit (.int .u8 0), .lit (.int .u8 0), .lit (.int .u8 0), .lit (.int .u8 0), .lit (.int .u8 0), .lit (.int .u8 0), .lit (.int .u8 0), .lit (.int .u8 0), .lit (.int .u8 0), .lit (.int .u8 0), .lit (.int .u8 0), .lit (.int .u8 0), .lit (.int .u8 0), .lit (.int .u8 0), .lit (.int .u8 0), .lit (.int .u8 0), .lit (.int .u8 0), .lit (.int .u8 0), .lit (.int .u8 0), .lit (.int .u8 0), .lit (.int .u8 0), .lit (.int .u8 0), .lit (.int .u8 0), .lit (.int .u8 0), .lit (.int .u8 0), .lit (.int .u8 0), .lit (.int .u8 0), .lit (.int .u8 0), .lit (.int .u8 0), .lit (.int .u8 0), .lit (.int .u8 0), .lit (.int .u8 0), .lit (.int .u8 0), .lit (.int .u8 0), .lit (.int .u8 0), .lit (.int .u8 0), .lit (.int .u8 0), .lit (.int .u8 0), .lit (.int .u8 0), .lit (.int .u8 0), .lit (.int .u8 0), .lit (.int .u8 0), .lit (.int .u8 0), .lit (.int .u8 0), .lit (.int .u8 0), .lit (.int .u8 0), .lit (.int .u8 0), .lit (.int .u8 0), .lit (.int .u8 0), .lit (.int .u8 0), .lit (.int .u8 0), .lit (.int .u8 0), .lit (.int .u8 0), .lit (.int .u8 0), .lit (.int .u8 0), .lit (.int .u8 0), .lit (.int .u8 0), .lit (.int .u8 0), .lit (.int .u8 0), .lit (.int .u8 0), .lit (.int .u8 0), .lit (.int .u8 0), .lit (.int .u8 0), .lit (.int .u8 0), .lit (.int .u8 0), .lit (.int .u8 0), .lit (.int .u8 0), .lit (.int .u8 0), .lit (.int .u8 0), .lit (.int .u8 0), .lit (.int .u8 0), .lit (.int .u8 0), .lit (.int .u8 0), .lit (.int .u8 0), .lit (.int .u8 0), .lit (.int .u8 0), .lit (.int .u8 0), .lit (.int .u8 0), .lit (.int .u8 0), .lit (.int .u8 0), .lit (.int .u8 0), .lit (.int .u8 0), .lit (.int .u8 0), .lit (.int .u8 0), .lit (.int .u8 0), .lit (.int .u8 0), .lit (.int .u8 0), .lit (.int .u8 0), .lit (.int .u8 0), .lit (.int .u8 0), .lit (.int .u8 0), .lit (.int .u8 0), .lit (.int .u8 0), .lit (.int .u8 0), .lit (.int .u8 0), .lit (.int .u8 0), .lit (.int .u8 0), .lit (.int .u8 0), .lit (.int .u8 0), .lit (.int .u8 0), .lit (.int .u8 0), .lit (.int .u8 0), .lit (.int .u8 0), .lit (.int .u8 0), .lit (.int .u8 0), .lit (.int .u8 0), .lit (.int .u8 0), .lit (.int .u8 0), .lit (.int .u8 0), .lit (.int .u8 0), .lit (.int .u8 0), .lit (.int .u8 0), .lit (.int .u8 0), .lit (.int .u8 0), .lit (.int .u8 0), .lit (.int .u8 0), .lit (.int .u8 0), .lit (.int .u8 0), .lit (.int .u8 0), .lit (.int .u8 0), .lit (.int .u8 0), .lit (.int .u8 0), .lit (.int .u8 0), .lit (.int .u8 0), .lit (.int .u8 0), .lit (.int .u8 0), .lit (.int .u8 0), .lit (.int .u8 0), .lit (.int .u8 0), .lit (.int .u8 0), .lit (.int .u8 0)]
/-- One of Go's own tables, pinned by name: the form's constant. -/
def laid_unicode_utf8_first : DataW Unit := Go.Pinned.utf8First

/-- 'laws.FnTrimSpaceTest': WHATEVER THE INPUT: true; the input reads as it did. -/
def fnTrimSpaceTestSpec : ChangeSpec := { name := "fnTrimSpaceTest", fn := fun _ => fun
  | [d] => { results := [.lit (.bool true)], args := [d] }
  | _ => none }
def fnTrimSpaceTestRow : OpenClaim := { program := "ythbfdajbajijeaadoor", sum := "f4d8e5be379cd10517ef878ca4bf1ce0928d1bbff3bccb489b8254037a917a21", func := "loop.example/lib-g03416/laws.FnTrimSpaceTest", spec := "fnTrimSpaceTest", unfollowed := true, recurses := true, named := ["bytes.asciiSpace", "unicode/utf8.first", "unicode/utf8.acceptRanges", "unicode.White_Space"], apart := false, laid := [("unicode/utf8.acceptRanges", laid_unicode_utf8_acceptRanges), ("unicode.White_Space", laid_unicode_White_Space), ("bytes.asciiSpace", laid_bytes_asciiSpace), ("unicode/utf8.first", laid_unicode_utf8_first)] }
def FnTrimSpaceTestSaid : Prop := fnTrimSpaceTestRow.holds Tryd.pinned (OpenSpec.ofChange fnTrimSpaceTestSpec)

/-- ITS FALSE NEIGHBOUR: 'it returns false'. Refute it at one input. -/
def fnTrimSpaceTestWrong : ChangeSpec := { name := "fnTrimSpaceTest", fn := fun _ => fun
  | [d] => { results := [.lit (.bool false)], args := [d] }
  | _ => none }
def FnTrimSpaceTestWrongFalsely : Prop := fnTrimSpaceTestRow.holds Tryd.pinned (OpenSpec.ofChange fnTrimSpaceTestWrong)

/-- 'laws.FnTrimSpaceOne': WHATEVER THE INPUT: true; the input reads as it did. -/
def fnTrimSpaceOneSpec : ChangeSpec := { name := "fnTrimSpaceOne", fn := fun _ => fun
  | [d] => { results := [.lit (.bool true)], args := [d] }
  | _ => none }
def fnTrimSpaceOneRow : OpenClaim := { program := "ythbfdajbajijeaadoor", sum := "f4d8e5be379cd10517ef878ca4bf1ce0928d1bbff3bccb489b8254037a917a21", func := "loop.example/lib-g03416/laws.FnTrimSpaceOne", spec := "fnTrimSpaceOne", unfollowed := true, recurses := true, named := ["bytes.asciiSpace", "unicode/utf8.first", "unicode/utf8.acceptRanges", "unicode.White_Space"], apart := false, laid := [("unicode/utf8.acceptRanges", laid_unicode_utf8_acceptRanges), ("unicode.White_Space", laid_unicode_White_Space), ("bytes.asciiSpace", laid_bytes_asciiSpace), ("unicode/utf8.first", laid_unicode_utf8_first)] }
def FnTrimSpaceOneSaid : Prop := fnTrimSpaceOneRow.holds Tryd.pinned (OpenSpec.ofChange fnTrimSpaceOneSpec)

/-- ITS FALSE NEIGHBOUR: 'it returns false'. Refute it at one input. -/
def fnTrimSpaceOneWrong : ChangeSpec := { name := "fnTrimSpaceOne", fn := fun _ => fun
  | [d] => { results := [.lit (.bool false)], args := [d] }
  | _ => none }
def FnTrimSpaceOneWrongFalsely : Prop := fnTrimSpaceOneRow.holds Tryd.pinned (OpenSpec.ofChange fnTrimSpaceOneWrong)

/-- 'laws.FnFieldsWords': WHATEVER THE INPUT: true; the input reads as it did. -/
def fnFieldsWordsSpec : ChangeSpec := { name := "fnFieldsWords", fn := fun _ => fun
  | [d] => { results := [.lit (.bool true)], args := [d] }
  | _ => none }
def fnFieldsWordsRow : OpenClaim := { program := "ythbfdajbajijeaadoor", sum := "f4d8e5be379cd10517ef878ca4bf1ce0928d1bbff3bccb489b8254037a917a21", func := "loop.example/lib-g03416/laws.FnFieldsWords", spec := "fnFieldsWords", inPlace := ["internal/bytealg.MakeNoZero"], unfollowed := true, recurses := true, named := ["bytes.asciiSpace", "unicode/utf8.first", "unicode/utf8.acceptRanges", "unicode.White_Space"], apart := false, laid := [("unicode/utf8.acceptRanges", laid_unicode_utf8_acceptRanges), ("unicode.White_Space", laid_unicode_White_Space), ("bytes.asciiSpace", laid_bytes_asciiSpace), ("unicode/utf8.first", laid_unicode_utf8_first)] }
def FnFieldsWordsSaid : Prop := fnFieldsWordsRow.holds Tryd.pinned (OpenSpec.ofChange fnFieldsWordsSpec)

/-- ITS FALSE NEIGHBOUR: 'it returns false'. Refute it at one input. -/
def fnFieldsWordsWrong : ChangeSpec := { name := "fnFieldsWords", fn := fun _ => fun
  | [d] => { results := [.lit (.bool false)], args := [d] }
  | _ => none }
def FnFieldsWordsWrongFalsely : Prop := fnFieldsWordsRow.holds Tryd.pinned (OpenSpec.ofChange fnFieldsWordsWrong)

/-- 'laws.FnExactFieldsSeq': WHATEVER THE INPUT: true; the input reads as it did. -/
def fnExactFieldsSeqSpec : ChangeSpec := { name := "fnExactFieldsSeq", fn := fun _ => fun
  | [d] => { results := [.lit (.bool true)], args := [d] }
  | _ => none }
def fnExactFieldsSeqRow : OpenClaim := { program := "ythbfdajbajijeaadoor", sum := "f4d8e5be379cd10517ef878ca4bf1ce0928d1bbff3bccb489b8254037a917a21", func := "loop.example/lib-g03416/laws.FnExactFieldsSeq", spec := "fnExactFieldsSeq", unfollowed := true, recurses := true, named := ["bytes.asciiSpace", "unicode/utf8.first", "unicode/utf8.acceptRanges", "unicode.White_Space"], apart := false, laid := [("unicode/utf8.acceptRanges", laid_unicode_utf8_acceptRanges), ("unicode.White_Space", laid_unicode_White_Space), ("bytes.asciiSpace", laid_bytes_asciiSpace), ("unicode/utf8.first", laid_unicode_utf8_first)] }
def FnExactFieldsSeqSaid : Prop := fnExactFieldsSeqRow.holds Tryd.pinned (OpenSpec.ofChange fnExactFieldsSeqSpec)

/-- ITS FALSE NEIGHBOUR: 'it returns false'. Refute it at one input. -/
def fnExactFieldsSeqWrong : ChangeSpec := { name := "fnExactFieldsSeq", fn := fun _ => fun
  | [d] => { results := [.lit (.bool false)], args := [d] }
  | _ => none }
def FnExactFieldsSeqWrongFalsely : Prop := fnExactFieldsSeqRow.holds Tryd.pinned (OpenSpec.ofChange fnExactFieldsSeqWrong)

/-- 'laws.FnExactFields': WHATEVER THE INPUT: true; the input reads as it did. -/
def fnExactFieldsSpec : ChangeSpec := { name := "fnExactFields", fn := fun _ => fun
  | [d] => { results := [.lit (.bool true)], args := [d] }
  | _ => none }
def fnExactFieldsRow : OpenClaim := { program := "ythbfdajbajijeaadoor", sum := "f4d8e5be379cd10517ef878ca4bf1ce0928d1bbff3bccb489b8254037a917a21", func := "loop.example/lib-g03416/laws.FnExactFields", spec := "fnExactFields", unfollowed := true, recurses := true, named := ["bytes.asciiSpace", "unicode/utf8.first", "unicode/utf8.acceptRanges", "unicode.White_Space"], apart := false, laid := [("unicode/utf8.acceptRanges", laid_unicode_utf8_acceptRanges), ("unicode.White_Space", laid_unicode_White_Space), ("bytes.asciiSpace", laid_bytes_asciiSpace), ("unicode/utf8.first", laid_unicode_utf8_first)] }
def FnExactFieldsSaid : Prop := fnExactFieldsRow.holds Tryd.pinned (OpenSpec.ofChange fnExactFieldsSpec)

/-- ITS FALSE NEIGHBOUR: 'it returns false'. Refute it at one input. -/
def fnExactFieldsWrong : ChangeSpec := { name := "fnExactFields", fn := fun _ => fun
  | [d] => { results := [.lit (.bool false)], args := [d] }
  | _ => none }
def FnExactFieldsWrongFalsely : Prop := fnExactFieldsRow.holds Tryd.pinned (OpenSpec.ofChange fnExactFieldsWrong)

/-- 'laws.FnFieldsMore': WHATEVER THE INPUT: true; the input reads as it did. -/
def fnFieldsMoreSpec : ChangeSpec := { name := "fnFieldsMore", fn := fun _ => fun
  | [d1, d2] => { results := [.lit (.bool true)], args := [d1, d2] }
  | _ => none }
def fnFieldsMoreRow : OpenClaim := { program := "ythbfdajbajijeaadoor", sum := "f4d8e5be379cd10517ef878ca4bf1ce0928d1bbff3bccb489b8254037a917a21", func := "loop.example/lib-g03416/laws.FnFieldsMore", spec := "fnFieldsMore", unfollowed := true, recurses := true, named := ["bytes.asciiSpace", "unicode/utf8.first", "unicode/utf8.acceptRanges", "unicode.White_Space"], apart := false, laid := [("unicode/utf8.acceptRanges", laid_unicode_utf8_acceptRanges), ("unicode.White_Space", laid_unicode_White_Space), ("bytes.asciiSpace", laid_bytes_asciiSpace), ("unicode/utf8.first", laid_unicode_utf8_first)] }
def FnFieldsMoreSaid : Prop := fnFieldsMoreRow.holds Tryd.pinned (OpenSpec.ofChange fnFieldsMoreSpec)

/-- ITS FALSE NEIGHBOUR: 'it returns false'. Refute it at one input. -/
def fnFieldsMoreWrong : ChangeSpec := { name := "fnFieldsMore", fn := fun _ => fun
  | [d1, d2] => { results := [.lit (.bool false)], args := [d1, d2] }
  | _ => none }
def FnFieldsMoreWrongFalsely : Prop := fnFieldsMoreRow.holds Tryd.pinned (OpenSpec.ofChange fnFieldsMoreWrong)

/-- 'laws.FnFieldsSeqAgain': WHATEVER THE INPUT: true; the input reads as it did. -/
def fnFieldsSeqAgainSpec : ChangeSpec := { name := "fnFieldsSeqAgain", fn := fun _ => fun
  | [d] => { results := [.lit (.bool true)], args := [d] }
  | _ => none }
def fnFieldsSeqAgainRow : OpenClaim := { program := "ythbfdajbajijeaadoor", sum := "f4d8e5be379cd10517ef878ca4bf1ce0928d1bbff3bccb489b8254037a917a21", func := "loop.example/lib-g03416/laws.FnFieldsSeqAgain", spec := "fnFieldsSeqAgain", inPlace := ["internal/bytealg.MakeNoZero"], unfollowed := true, recurses := true, named := ["bytes.asciiSpace", "unicode/utf8.first", "unicode/utf8.acceptRanges", "unicode.White_Space"], apart := false, laid := [("unicode/utf8.acceptRanges", laid_unicode_utf8_acceptRanges), ("unicode.White_Space", laid_unicode_White_Space), ("bytes.asciiSpace", laid_bytes_asciiSpace), ("unicode/utf8.first", laid_unicode_utf8_first)] }
def FnFieldsSeqAgainSaid : Prop := fnFieldsSeqAgainRow.holds Tryd.pinned (OpenSpec.ofChange fnFieldsSeqAgainSpec)

/-- ITS FALSE NEIGHBOUR: 'it returns false'. Refute it at one input. -/
def fnFieldsSeqAgainWrong : ChangeSpec := { name := "fnFieldsSeqAgain", fn := fun _ => fun
  | [d] => { results := [.lit (.bool false)], args := [d] }
  | _ => none }
def FnFieldsSeqAgainWrongFalsely : Prop := fnFieldsSeqAgainRow.holds Tryd.pinned (OpenSpec.ofChange fnFieldsSeqAgainWrong)

/-- 'laws.FnExactTrimSpace': WHATEVER THE INPUT: true; the input reads as it did. -/
def fnExactTrimSpaceSpec : ChangeSpec := { name := "fnExactTrimSpace", fn := fun _ => fun
  | [d] => { results := [.lit (.bool true)], args := [d] }
  | _ => none }
def fnExactTrimSpaceRow : OpenClaim := { program := "ythbfdajbajijeaadoor", sum := "f4d8e5be379cd10517ef878ca4bf1ce0928d1bbff3bccb489b8254037a917a21", func := "loop.example/lib-g03416/laws.FnExactTrimSpace", spec := "fnExactTrimSpace", unfollowed := true, recurses := true, named := ["bytes.asciiSpace", "unicode/utf8.first", "unicode/utf8.acceptRanges", "unicode.White_Space"], apart := false, laid := [("unicode/utf8.acceptRanges", laid_unicode_utf8_acceptRanges), ("unicode.White_Space", laid_unicode_White_Space), ("bytes.asciiSpace", laid_bytes_asciiSpace), ("unicode/utf8.first", laid_unicode_utf8_first)] }
def FnExactTrimSpaceSaid : Prop := fnExactTrimSpaceRow.holds Tryd.pinned (OpenSpec.ofChange fnExactTrimSpaceSpec)

/-- ITS FALSE NEIGHBOUR: 'it returns false'. Refute it at one input. -/
def fnExactTrimSpaceWrong : ChangeSpec := { name := "fnExactTrimSpace", fn := fun _ => fun
  | [d] => { results := [.lit (.bool false)], args := [d] }
  | _ => none }
def FnExactTrimSpaceWrongFalsely : Prop := fnExactTrimSpaceRow.holds Tryd.pinned (OpenSpec.ofChange fnExactTrimSpaceWrong)

/-- 'laws.FnFieldsSeqs': WHATEVER THE INPUT: true; the input reads as it did. -/
def fnFieldsSeqsSpec : ChangeSpec := { name := "fnFieldsSeqs", fn := fun _ => fun
  | [d1, d2, d3] => { results := [.lit (.bool true)], args := [d1, d2, d3] }
  | _ => none }
def fnFieldsSeqsRow : OpenClaim := { program := "ythbfdajbajijeaadoor", sum := "f4d8e5be379cd10517ef878ca4bf1ce0928d1bbff3bccb489b8254037a917a21", func := "loop.example/lib-g03416/laws.FnFieldsSeqs", spec := "fnFieldsSeqs", unfollowed := true, recurses := true, named := ["bytes.asciiSpace", "unicode/utf8.first", "unicode/utf8.acceptRanges", "unicode.White_Space"], apart := false, laid := [("unicode/utf8.acceptRanges", laid_unicode_utf8_acceptRanges), ("unicode.White_Space", laid_unicode_White_Space), ("bytes.asciiSpace", laid_bytes_asciiSpace), ("unicode/utf8.first", laid_unicode_utf8_first)] }
def FnFieldsSeqsSaid : Prop := fnFieldsSeqsRow.holds Tryd.pinned (OpenSpec.ofChange fnFieldsSeqsSpec)

/-- ITS FALSE NEIGHBOUR: 'it returns false'. Refute it at one input. -/
def fnFieldsSeqsWrong : ChangeSpec := { name := "fnFieldsSeqs", fn := fun _ => fun
  | [d1, d2, d3] => { results := [.lit (.bool false)], args := [d1, d2, d3] }
  | _ => none }
def FnFieldsSeqsWrongFalsely : Prop := fnFieldsSeqsRow.holds Tryd.pinned (OpenSpec.ofChange fnFieldsSeqsWrong)

/- THE SECOND FORM. 'bulk': how many values and letters a reading holds, each counted each time it is reached (what is shared counts as often as it is met; a slice's spare places count too). A statement '..UptoSaid' is the law's where the arguments, and the package variables that the reading takes, are together of bulk at most 1048576: NARROWER than '..Said'. Prove '..Said' where nothing that the law and all that it calls make is longer than what came in: it says more and counts as full. Else prove '..UptoSaid'. A law counts once. -/
mutual
def uptoBulk {H : Type} : DataW H → Nat
  | .lit (.string bytes) => bytes.length + 1
  | .lit _ => 1
  | .nil => 1
  | .ptr d => uptoBulk d + 1
  | .slice elems spare => uptoBulkAll elems + uptoBulkAll spare + 1
  | .agg parts => uptoBulkAll parts + 1
  | .iface _ d => uptoBulk d + 1
  | .map entries => uptoBulkEntries entries + 1
  | .held _ => 1
def uptoBulkAll {H : Type} : List (DataW H) → Nat
  | [] => 0
  | d :: r => uptoBulk d + uptoBulkAll r
def uptoBulkEntries {H : Type} : List (Lit × DataW H) → Nat
  | [] => 0
  | x :: r => uptoBulkEntry x + uptoBulkEntries r
def uptoBulkEntry {H : Type} : Lit × DataW H → Nat
  | (.string bytes, d) => bytes.length + uptoBulk d + 1
  | (_, d) => uptoBulk d + 1
 end
def uptoSmall : (H : Type) → List (DataW H) → Bool := fun _ ds => decide (uptoBulkAll ds ≤ 1048576)
def OpenSpec.upto (s : _root_.Go.ChangeSpec) : _root_.Go.OpenSpec := { _root_.Go.OpenSpec.ofChange s with cond := some uptoSmall }

/-- 'laws.FnTrimSpaceTest', WHERE WHAT IT READS IS OF BULK AT MOST 1048576: true; the input reads as it did. -/
def fnTrimSpaceTestUptoRow : OpenClaim := { program := "ythbfdajbajijeaadoor", sum := "f4d8e5be379cd10517ef878ca4bf1ce0928d1bbff3bccb489b8254037a917a21", func := "loop.example/lib-g03416/laws.FnTrimSpaceTest", spec := "fnTrimSpaceTest", unfollowed := true, recurses := true, named := ["bytes.asciiSpace", "unicode/utf8.first", "unicode/utf8.acceptRanges", "unicode.White_Space"], apart := false, laid := [("unicode/utf8.acceptRanges", laid_unicode_utf8_acceptRanges), ("unicode.White_Space", laid_unicode_White_Space), ("bytes.asciiSpace", laid_bytes_asciiSpace), ("unicode/utf8.first", laid_unicode_utf8_first)], narrowed := true }
def FnTrimSpaceTestUptoSaid : Prop := fnTrimSpaceTestUptoRow.holds Tryd.pinned (OpenSpec.upto fnTrimSpaceTestSpec)

/-- 'laws.FnTrimSpaceOne', WHERE WHAT IT READS IS OF BULK AT MOST 1048576: true; the input reads as it did. -/
def fnTrimSpaceOneUptoRow : OpenClaim := { program := "ythbfdajbajijeaadoor", sum := "f4d8e5be379cd10517ef878ca4bf1ce0928d1bbff3bccb489b8254037a917a21", func := "loop.example/lib-g03416/laws.FnTrimSpaceOne", spec := "fnTrimSpaceOne", unfollowed := true, recurses := true, named := ["bytes.asciiSpace", "unicode/utf8.first", "unicode/utf8.acceptRanges", "unicode.White_Space"], apart := false, laid := [("unicode/utf8.acceptRanges", laid_unicode_utf8_acceptRanges), ("unicode.White_Space", laid_unicode_White_Space), ("bytes.asciiSpace", laid_bytes_asciiSpace), ("unicode/utf8.first", laid_unicode_utf8_first)], narrowed := true }
def FnTrimSpaceOneUptoSaid : Prop := fnTrimSpaceOneUptoRow.holds Tryd.pinned (OpenSpec.upto fnTrimSpaceOneSpec)

/-- 'laws.FnFieldsWords', WHERE WHAT IT READS IS OF BULK AT MOST 1048576: true; the input reads as it did. -/
def fnFieldsWordsUptoRow : OpenClaim := { program := "ythbfdajbajijeaadoor", sum := "f4d8e5be379cd10517ef878ca4bf1ce0928d1bbff3bccb489b8254037a917a21", func := "loop.example/lib-g03416/laws.FnFieldsWords", spec := "fnFieldsWords", inPlace := ["internal/bytealg.MakeNoZero"], unfollowed := true, recurses := true, named := ["bytes.asciiSpace", "unicode/utf8.first", "unicode/utf8.acceptRanges", "unicode.White_Space"], apart := false, laid := [("unicode/utf8.acceptRanges", laid_unicode_utf8_acceptRanges), ("unicode.White_Space", laid_unicode_White_Space), ("bytes.asciiSpace", laid_bytes_asciiSpace), ("unicode/utf8.first", laid_unicode_utf8_first)], narrowed := true }
def FnFieldsWordsUptoSaid : Prop := fnFieldsWordsUptoRow.holds Tryd.pinned (OpenSpec.upto fnFieldsWordsSpec)

/-- 'laws.FnExactFieldsSeq', WHERE WHAT IT READS IS OF BULK AT MOST 1048576: true; the input reads as it did. -/
def fnExactFieldsSeqUptoRow : OpenClaim := { program := "ythbfdajbajijeaadoor", sum := "f4d8e5be379cd10517ef878ca4bf1ce0928d1bbff3bccb489b8254037a917a21", func := "loop.example/lib-g03416/laws.FnExactFieldsSeq", spec := "fnExactFieldsSeq", unfollowed := true, recurses := true, named := ["bytes.asciiSpace", "unicode/utf8.first", "unicode/utf8.acceptRanges", "unicode.White_Space"], apart := false, laid := [("unicode/utf8.acceptRanges", laid_unicode_utf8_acceptRanges), ("unicode.White_Space", laid_unicode_White_Space), ("bytes.asciiSpace", laid_bytes_asciiSpace), ("unicode/utf8.first", laid_unicode_utf8_first)], narrowed := true }
def FnExactFieldsSeqUptoSaid : Prop := fnExactFieldsSeqUptoRow.holds Tryd.pinned (OpenSpec.upto fnExactFieldsSeqSpec)

/-- 'laws.FnExactFields', WHERE WHAT IT READS IS OF BULK AT MOST 1048576: true; the input reads as it did. -/
def fnExactFieldsUptoRow : OpenClaim := { program := "ythbfdajbajijeaadoor", sum := "f4d8e5be379cd10517ef878ca4bf1ce0928d1bbff3bccb489b8254037a917a21", func := "loop.example/lib-g03416/laws.FnExactFields", spec := "fnExactFields", unfollowed := true, recurses := true, named := ["bytes.asciiSpace", "unicode/utf8.first", "unicode/utf8.acceptRanges", "unicode.White_Space"], apart := false, laid := [("unicode/utf8.acceptRanges", laid_unicode_utf8_acceptRanges), ("unicode.White_Space", laid_unicode_White_Space), ("bytes.asciiSpace", laid_bytes_asciiSpace), ("unicode/utf8.first", laid_unicode_utf8_first)], narrowed := true }
def FnExactFieldsUptoSaid : Prop := fnExactFieldsUptoRow.holds Tryd.pinned (OpenSpec.upto fnExactFieldsSpec)

/-- 'laws.FnFieldsMore', WHERE WHAT IT READS IS OF BULK AT MOST 1048576: true; the input reads as it did. -/
def fnFieldsMoreUptoRow : OpenClaim := { program := "ythbfdajbajijeaadoor", sum := "f4d8e5be379cd10517ef878ca4bf1ce0928d1bbff3bccb489b8254037a917a21", func := "loop.example/lib-g03416/laws.FnFieldsMore", spec := "fnFieldsMore", unfollowed := true, recurses := true, named := ["bytes.asciiSpace", "unicode/utf8.first", "unicode/utf8.acceptRanges", "unicode.White_Space"], apart := false, laid := [("unicode/utf8.acceptRanges", laid_unicode_utf8_acceptRanges), ("unicode.White_Space", laid_unicode_White_Space), ("bytes.asciiSpace", laid_bytes_asciiSpace), ("unicode/utf8.first", laid_unicode_utf8_first)], narrowed := true }
def FnFieldsMoreUptoSaid : Prop := fnFieldsMoreUptoRow.holds Tryd.pinned (OpenSpec.upto fnFieldsMoreSpec)

/-- 'laws.FnFieldsSeqAgain', WHERE WHAT IT READS IS OF BULK AT MOST 1048576: true; the input reads as it did. -/
def fnFieldsSeqAgainUptoRow : OpenClaim := { program := "ythbfdajbajijeaadoor", sum := "f4d8e5be379cd10517ef878ca4bf1ce0928d1bbff3bccb489b8254037a917a21", func := "loop.example/lib-g03416/laws.FnFieldsSeqAgain", spec := "fnFieldsSeqAgain", inPlace := ["internal/bytealg.MakeNoZero"], unfollowed := true, recurses := true, named := ["bytes.asciiSpace", "unicode/utf8.first", "unicode/utf8.acceptRanges", "unicode.White_Space"], apart := false, laid := [("unicode/utf8.acceptRanges", laid_unicode_utf8_acceptRanges), ("unicode.White_Space", laid_unicode_White_Space), ("bytes.asciiSpace", laid_bytes_asciiSpace), ("unicode/utf8.first", laid_unicode_utf8_first)], narrowed := true }
def FnFieldsSeqAgainUptoSaid : Prop := fnFieldsSeqAgainUptoRow.holds Tryd.pinned (OpenSpec.upto fnFieldsSeqAgainSpec)

/-- 'laws.FnExactTrimSpace', WHERE WHAT IT READS IS OF BULK AT MOST 1048576: true; the input reads as it did. -/
def fnExactTrimSpaceUptoRow : OpenClaim := { program := "ythbfdajbajijeaadoor", sum := "f4d8e5be379cd10517ef878ca4bf1ce0928d1bbff3bccb489b8254037a917a21", func := "loop.example/lib-g03416/laws.FnExactTrimSpace", spec := "fnExactTrimSpace", unfollowed := true, recurses := true, named := ["bytes.asciiSpace", "unicode/utf8.first", "unicode/utf8.acceptRanges", "unicode.White_Space"], apart := false, laid := [("unicode/utf8.acceptRanges", laid_unicode_utf8_acceptRanges), ("unicode.White_Space", laid_unicode_White_Space), ("bytes.asciiSpace", laid_bytes_asciiSpace), ("unicode/utf8.first", laid_unicode_utf8_first)], narrowed := true }
def FnExactTrimSpaceUptoSaid : Prop := fnExactTrimSpaceUptoRow.holds Tryd.pinned (OpenSpec.upto fnExactTrimSpaceSpec)

/-- 'laws.FnFieldsSeqs', WHERE WHAT IT READS IS OF BULK AT MOST 1048576: true; the input reads as it did. -/
def fnFieldsSeqsUptoRow : OpenClaim := { program := "ythbfdajbajijeaadoor", sum := "f4d8e5be379cd10517ef878ca4bf1ce0928d1bbff3bccb489b8254037a917a21", func := "loop.example/lib-g03416/laws.FnFieldsSeqs", spec := "fnFieldsSeqs", unfollowed := true, recurses := true, named := ["bytes.asciiSpace", "unicode/utf8.first", "unicode/utf8.acceptRanges", "unicode.White_Space"], apart := false, laid := [("unicode/utf8.acceptRanges", laid_unicode_utf8_acceptRanges), ("unicode.White_Space", laid_unicode_White_Space), ("bytes.asciiSpace", laid_bytes_asciiSpace), ("unicode/utf8.first", laid_unicode_utf8_first)], narrowed := true }
def FnFieldsSeqsUptoSaid : Prop := fnFieldsSeqsUptoRow.holds Tryd.pinned (OpenSpec.upto fnFieldsSeqsSpec)

end Rows
end Go.Proofs.YthbfdajbajijeaaDoor
