/-
  NARROWER THAN 'FOR EVERY INPUT', by the rows' own cells (each row's printed sentence says how): FnFieldsFuncParts: laid · FnFieldsFuncTrim: laid · FnLinesFields: laid · FnValidAgain: laid · FnValidIs: laid · FnExactMap: laid · FnMapCount: laid · FnMapSelf: laid · FnMapTwice: laid · FnRunesMap: laid · FnValidMap: laid · FnRepeatMap: laid.
  DERIVED. THE GIVEN ROWS OF THIS SEAT. 12 by the template 'for every input the law returns true; each argument reads behind the call as it read before'; 0 by the template 'total and deterministic' (their statements: YtlbaoghebjaliaaDoorTotals.lean).
  GIVEN WITH THE SEED: the statements are not yours to turn. If you find one false, say at which input.
  Laid BY PROGRAM, IN A SANDBOX (cutbox-rows.mjs): the forced cells as the released guide's own fill.sh prints them over the translation 3257610c091a7b77… (all of the seat's roots in one cut). By AI agents, Wed Nov 11 2026. No macro, syntax, notation, axiom, sorry.
-/
import Derived.Test.YtlbaoghebjaliaaDoorChecked
import GoSem.PinnedTables
import GoSem.Claim
import GoSem.ClaimJoined
import GoSem.ClaimMapViews
import Derived.JoinedTies
import Derived.KernelRfl
namespace Go.Proofs.YtlbaoghebjaliaaDoor
/- THE CELL 'sum', in the pinned program and in every row, IS THE sha256 OF THE DUMP (.gsa) THAT YtlbaoghebjaliaaDoorProg.lean LOADS. Nothing in Lean hashes anything: it is a label: what it is worth is what the hold of that sum in a sandbox is worth. -/
noncomputable def Tryd.pinned : Pinned := { name := "ytlbaoghebjaliaadoor", sum := "3257610c091a7b77953382ad96034382db712687bc894172c3a53d6c787544e2", checked := Tryd.checked }
namespace Rows
def none {H : Type} : Left H := { results := [], args := [] }

/- WHAT THE LISTED PACKAGE-LEVEL VARIABLES READ AS WHEN THE CALL BEGINS. Each datum BY PROGRAM (the guide's laid-datum.mjs) off the statement by which the dump's own 'gosem.cut.vars' lays the variable. In a bare row this is a premise. The card (YtlbaoghebjaliaaDoorCards.lean) ties it to the program's text. -/
def laid_unicode_utf8_acceptRanges {H : Type} : DataW H := .agg [.agg [.lit (.int .u8 128), .lit (.int .u8 191)], .agg [.lit (.int .u8 160), .lit (.int .u8 191)], .agg [.lit (.int .u8 128), .lit (.int .u8 159)], .agg [.lit (.int .u8 144), .lit (.int .u8 191)], .agg [.lit (.int .u8 128), .lit (.int .u8 143)], .agg [.lit (.int .u8 0), .lit (.int .u8 0)], .agg [.lit (.int .u8 0), .lit (.int .u8 0)], .agg [.lit (.int .u8 0), .lit (.int .u8 0)], .agg [.lit (.int .u8 0), .lit (.int .u8 0)], .agg [.lit (.int .u8 0), .lit (.int .u8 0)], .agg [.lit (.int .u8 0), .lit (.int .u8 0)], .agg [.lit (.int .u8 0), .lit (.int .u8 0)], .agg [.lit (.int .u8 0), .lit (.int .u8 0)], .agg [.lit (.int .u8 0), .lit (.int .u8 0)], .agg [.lit (.int .u8 0), .lit (.int .u8 0)], .agg [.lit (.int .u8 0), .lit (.int .u8 0)]]
/-- One of Go's own tables, pinned by name: the form's constant. -/
def laid_unicode_utf8_first : DataW Unit := Go.Pinned.utf8First

/-- 'laws.FnFieldsFuncParts': WHATEVER THE INPUT: true; the input reads as it did. -/
def fnFieldsFuncPartsSpec : ChangeSpec := { name := "fnFieldsFuncParts", fn := fun _ => fun
  | [d1, d2, d3] => { results := [.lit (.bool true)], args := [d1, d2, d3] }
  | _ => none }
def fnFieldsFuncPartsRow : OpenClaim := { program := "ytlbaoghebjaliaadoor", sum := "3257610c091a7b77953382ad96034382db712687bc894172c3a53d6c787544e2", func := "loop.example/lib-g03416/laws.FnFieldsFuncParts", spec := "fnFieldsFuncParts", unfollowed := true, recurses := true, named := ["unicode/utf8.first", "unicode/utf8.acceptRanges"], apart := false, laid := [("unicode/utf8.acceptRanges", laid_unicode_utf8_acceptRanges), ("unicode/utf8.first", laid_unicode_utf8_first)] }
def FnFieldsFuncPartsSaid : Prop := fnFieldsFuncPartsRow.holds Tryd.pinned (OpenSpec.ofChange fnFieldsFuncPartsSpec)

/-- ITS FALSE NEIGHBOUR: 'it returns false'. Refute it at one input. -/
def fnFieldsFuncPartsWrong : ChangeSpec := { name := "fnFieldsFuncParts", fn := fun _ => fun
  | [d1, d2, d3] => { results := [.lit (.bool false)], args := [d1, d2, d3] }
  | _ => none }
def FnFieldsFuncPartsWrongFalsely : Prop := fnFieldsFuncPartsRow.holds Tryd.pinned (OpenSpec.ofChange fnFieldsFuncPartsWrong)

/-- 'laws.FnFieldsFuncTrim': WHATEVER THE INPUT: true; the input reads as it did. -/
def fnFieldsFuncTrimSpec : ChangeSpec := { name := "fnFieldsFuncTrim", fn := fun _ => fun
  | [d1, d2, d3] => { results := [.lit (.bool true)], args := [d1, d2, d3] }
  | _ => none }
def fnFieldsFuncTrimRow : OpenClaim := { program := "ytlbaoghebjaliaadoor", sum := "3257610c091a7b77953382ad96034382db712687bc894172c3a53d6c787544e2", func := "loop.example/lib-g03416/laws.FnFieldsFuncTrim", spec := "fnFieldsFuncTrim", unfollowed := true, recurses := true, named := ["unicode/utf8.first", "unicode/utf8.acceptRanges"], apart := false, laid := [("unicode/utf8.acceptRanges", laid_unicode_utf8_acceptRanges), ("unicode/utf8.first", laid_unicode_utf8_first)] }
def FnFieldsFuncTrimSaid : Prop := fnFieldsFuncTrimRow.holds Tryd.pinned (OpenSpec.ofChange fnFieldsFuncTrimSpec)

/-- ITS FALSE NEIGHBOUR: 'it returns false'. Refute it at one input. -/
def fnFieldsFuncTrimWrong : ChangeSpec := { name := "fnFieldsFuncTrim", fn := fun _ => fun
  | [d1, d2, d3] => { results := [.lit (.bool false)], args := [d1, d2, d3] }
  | _ => none }
def FnFieldsFuncTrimWrongFalsely : Prop := fnFieldsFuncTrimRow.holds Tryd.pinned (OpenSpec.ofChange fnFieldsFuncTrimWrong)

/-- 'laws.FnLinesFields': WHATEVER THE INPUT: true; the input reads as it did. -/
def fnLinesFieldsSpec : ChangeSpec := { name := "fnLinesFields", fn := fun _ => fun
  | [d] => { results := [.lit (.bool true)], args := [d] }
  | _ => none }
def fnLinesFieldsRow : OpenClaim := { program := "ytlbaoghebjaliaadoor", sum := "3257610c091a7b77953382ad96034382db712687bc894172c3a53d6c787544e2", func := "loop.example/lib-g03416/laws.FnLinesFields", spec := "fnLinesFields", inPlace := ["internal/bytealg.IndexByte"], unfollowed := true, recurses := true, named := ["unicode/utf8.first", "unicode/utf8.acceptRanges"], apart := false, laid := [("unicode/utf8.acceptRanges", laid_unicode_utf8_acceptRanges), ("unicode/utf8.first", laid_unicode_utf8_first)] }
def FnLinesFieldsSaid : Prop := fnLinesFieldsRow.holds Tryd.pinned (OpenSpec.ofChange fnLinesFieldsSpec)

/-- ITS FALSE NEIGHBOUR: 'it returns false'. Refute it at one input. -/
def fnLinesFieldsWrong : ChangeSpec := { name := "fnLinesFields", fn := fun _ => fun
  | [d] => { results := [.lit (.bool false)], args := [d] }
  | _ => none }
def FnLinesFieldsWrongFalsely : Prop := fnLinesFieldsRow.holds Tryd.pinned (OpenSpec.ofChange fnLinesFieldsWrong)

/-- 'laws.FnValidAgain': WHATEVER THE INPUT: true; the input reads as it did. -/
def fnValidAgainSpec : ChangeSpec := { name := "fnValidAgain", fn := fun _ => fun
  | [d1, d2] => { results := [.lit (.bool true)], args := [d1, d2] }
  | _ => none }
def fnValidAgainRow : OpenClaim := { program := "ytlbaoghebjaliaadoor", sum := "3257610c091a7b77953382ad96034382db712687bc894172c3a53d6c787544e2", func := "loop.example/lib-g03416/laws.FnValidAgain", spec := "fnValidAgain", named := ["unicode/utf8.first", "unicode/utf8.acceptRanges"], apart := false, laid := [("unicode/utf8.acceptRanges", laid_unicode_utf8_acceptRanges), ("unicode/utf8.first", laid_unicode_utf8_first)] }
def FnValidAgainSaid : Prop := fnValidAgainRow.holds Tryd.pinned (OpenSpec.ofChange fnValidAgainSpec)

/-- ITS FALSE NEIGHBOUR: 'it returns false'. Refute it at one input. -/
def fnValidAgainWrong : ChangeSpec := { name := "fnValidAgain", fn := fun _ => fun
  | [d1, d2] => { results := [.lit (.bool false)], args := [d1, d2] }
  | _ => none }
def FnValidAgainWrongFalsely : Prop := fnValidAgainRow.holds Tryd.pinned (OpenSpec.ofChange fnValidAgainWrong)

/-- 'laws.FnValidIs': WHATEVER THE INPUT: true; the input reads as it did. -/
def fnValidIsSpec : ChangeSpec := { name := "fnValidIs", fn := fun _ => fun
  | [d1, d2] => { results := [.lit (.bool true)], args := [d1, d2] }
  | _ => none }
def fnValidIsRow : OpenClaim := { program := "ytlbaoghebjaliaadoor", sum := "3257610c091a7b77953382ad96034382db712687bc894172c3a53d6c787544e2", func := "loop.example/lib-g03416/laws.FnValidIs", spec := "fnValidIs", named := ["unicode/utf8.first", "unicode/utf8.acceptRanges"], apart := false, laid := [("unicode/utf8.acceptRanges", laid_unicode_utf8_acceptRanges), ("unicode/utf8.first", laid_unicode_utf8_first)] }
def FnValidIsSaid : Prop := fnValidIsRow.holds Tryd.pinned (OpenSpec.ofChange fnValidIsSpec)

/-- ITS FALSE NEIGHBOUR: 'it returns false'. Refute it at one input. -/
def fnValidIsWrong : ChangeSpec := { name := "fnValidIs", fn := fun _ => fun
  | [d1, d2] => { results := [.lit (.bool false)], args := [d1, d2] }
  | _ => none }
def FnValidIsWrongFalsely : Prop := fnValidIsRow.holds Tryd.pinned (OpenSpec.ofChange fnValidIsWrong)

/-- 'laws.FnExactMap': WHATEVER THE INPUT: true; the input reads as it did. -/
def fnExactMapSpec : ChangeSpec := { name := "fnExactMap", fn := fun _ => fun
  | [d1, d2] => { results := [.lit (.bool true)], args := [d1, d2] }
  | _ => none }
def fnExactMapRow : OpenClaim := { program := "ytlbaoghebjaliaadoor", sum := "3257610c091a7b77953382ad96034382db712687bc894172c3a53d6c787544e2", func := "loop.example/lib-g03416/laws.FnExactMap", spec := "fnExactMap", unfollowed := true, recurses := true, named := ["unicode/utf8.first", "unicode/utf8.acceptRanges"], apart := false, laid := [("unicode/utf8.acceptRanges", laid_unicode_utf8_acceptRanges), ("unicode/utf8.first", laid_unicode_utf8_first)] }
def FnExactMapSaid : Prop := fnExactMapRow.holds Tryd.pinned (OpenSpec.ofChange fnExactMapSpec)

/-- ITS FALSE NEIGHBOUR: 'it returns false'. Refute it at one input. -/
def fnExactMapWrong : ChangeSpec := { name := "fnExactMap", fn := fun _ => fun
  | [d1, d2] => { results := [.lit (.bool false)], args := [d1, d2] }
  | _ => none }
def FnExactMapWrongFalsely : Prop := fnExactMapRow.holds Tryd.pinned (OpenSpec.ofChange fnExactMapWrong)

/-- 'laws.FnMapCount': WHATEVER THE INPUT: true; the input reads as it did. -/
def fnMapCountSpec : ChangeSpec := { name := "fnMapCount", fn := fun _ => fun
  | [d1, d2, d3] => { results := [.lit (.bool true)], args := [d1, d2, d3] }
  | _ => none }
def fnMapCountRow : OpenClaim := { program := "ytlbaoghebjaliaadoor", sum := "3257610c091a7b77953382ad96034382db712687bc894172c3a53d6c787544e2", func := "loop.example/lib-g03416/laws.FnMapCount", spec := "fnMapCount", unfollowed := true, recurses := true, named := ["unicode/utf8.first", "unicode/utf8.acceptRanges"], apart := false, laid := [("unicode/utf8.acceptRanges", laid_unicode_utf8_acceptRanges), ("unicode/utf8.first", laid_unicode_utf8_first)] }
def FnMapCountSaid : Prop := fnMapCountRow.holds Tryd.pinned (OpenSpec.ofChange fnMapCountSpec)

/-- ITS FALSE NEIGHBOUR: 'it returns false'. Refute it at one input. -/
def fnMapCountWrong : ChangeSpec := { name := "fnMapCount", fn := fun _ => fun
  | [d1, d2, d3] => { results := [.lit (.bool false)], args := [d1, d2, d3] }
  | _ => none }
def FnMapCountWrongFalsely : Prop := fnMapCountRow.holds Tryd.pinned (OpenSpec.ofChange fnMapCountWrong)

/-- 'laws.FnMapSelf': WHATEVER THE INPUT: true; the input reads as it did. -/
def fnMapSelfSpec : ChangeSpec := { name := "fnMapSelf", fn := fun _ => fun
  | [d] => { results := [.lit (.bool true)], args := [d] }
  | _ => none }
def fnMapSelfRow : OpenClaim := { program := "ytlbaoghebjaliaadoor", sum := "3257610c091a7b77953382ad96034382db712687bc894172c3a53d6c787544e2", func := "loop.example/lib-g03416/laws.FnMapSelf", spec := "fnMapSelf", unfollowed := true, recurses := true, named := ["unicode/utf8.first", "unicode/utf8.acceptRanges"], apart := false, laid := [("unicode/utf8.acceptRanges", laid_unicode_utf8_acceptRanges), ("unicode/utf8.first", laid_unicode_utf8_first)] }
def FnMapSelfSaid : Prop := fnMapSelfRow.holds Tryd.pinned (OpenSpec.ofChange fnMapSelfSpec)

/-- ITS FALSE NEIGHBOUR: 'it returns false'. Refute it at one input. -/
def fnMapSelfWrong : ChangeSpec := { name := "fnMapSelf", fn := fun _ => fun
  | [d] => { results := [.lit (.bool false)], args := [d] }
  | _ => none }
def FnMapSelfWrongFalsely : Prop := fnMapSelfRow.holds Tryd.pinned (OpenSpec.ofChange fnMapSelfWrong)

/-- 'laws.FnMapTwice': WHATEVER THE INPUT: true; the input reads as it did. -/
def fnMapTwiceSpec : ChangeSpec := { name := "fnMapTwice", fn := fun _ => fun
  | [d1, d2, d3, d4, d5] => { results := [.lit (.bool true)], args := [d1, d2, d3, d4, d5] }
  | _ => none }
def fnMapTwiceRow : OpenClaim := { program := "ytlbaoghebjaliaadoor", sum := "3257610c091a7b77953382ad96034382db712687bc894172c3a53d6c787544e2", func := "loop.example/lib-g03416/laws.FnMapTwice", spec := "fnMapTwice", unfollowed := true, recurses := true, named := ["unicode/utf8.first", "unicode/utf8.acceptRanges"], apart := false, laid := [("unicode/utf8.acceptRanges", laid_unicode_utf8_acceptRanges), ("unicode/utf8.first", laid_unicode_utf8_first)] }
def FnMapTwiceSaid : Prop := fnMapTwiceRow.holds Tryd.pinned (OpenSpec.ofChange fnMapTwiceSpec)

/-- ITS FALSE NEIGHBOUR: 'it returns false'. Refute it at one input. -/
def fnMapTwiceWrong : ChangeSpec := { name := "fnMapTwice", fn := fun _ => fun
  | [d1, d2, d3, d4, d5] => { results := [.lit (.bool false)], args := [d1, d2, d3, d4, d5] }
  | _ => none }
def FnMapTwiceWrongFalsely : Prop := fnMapTwiceRow.holds Tryd.pinned (OpenSpec.ofChange fnMapTwiceWrong)

/-- 'laws.FnRunesMap': WHATEVER THE INPUT: true; the input reads as it did. -/
def fnRunesMapSpec : ChangeSpec := { name := "fnRunesMap", fn := fun _ => fun
  | [d] => { results := [.lit (.bool true)], args := [d] }
  | _ => none }
def fnRunesMapRow : OpenClaim := { program := "ytlbaoghebjaliaadoor", sum := "3257610c091a7b77953382ad96034382db712687bc894172c3a53d6c787544e2", func := "loop.example/lib-g03416/laws.FnRunesMap", spec := "fnRunesMap", unfollowed := true, recurses := true, named := ["unicode/utf8.first", "unicode/utf8.acceptRanges"], apart := false, laid := [("unicode/utf8.acceptRanges", laid_unicode_utf8_acceptRanges), ("unicode/utf8.first", laid_unicode_utf8_first)] }
def FnRunesMapSaid : Prop := fnRunesMapRow.holds Tryd.pinned (OpenSpec.ofChange fnRunesMapSpec)

/-- ITS FALSE NEIGHBOUR: 'it returns false'. Refute it at one input. -/
def fnRunesMapWrong : ChangeSpec := { name := "fnRunesMap", fn := fun _ => fun
  | [d] => { results := [.lit (.bool false)], args := [d] }
  | _ => none }
def FnRunesMapWrongFalsely : Prop := fnRunesMapRow.holds Tryd.pinned (OpenSpec.ofChange fnRunesMapWrong)

/-- 'laws.FnValidMap': WHATEVER THE INPUT: true; the input reads as it did. -/
def fnValidMapSpec : ChangeSpec := { name := "fnValidMap", fn := fun _ => fun
  | [d] => { results := [.lit (.bool true)], args := [d] }
  | _ => none }
def fnValidMapRow : OpenClaim := { program := "ytlbaoghebjaliaadoor", sum := "3257610c091a7b77953382ad96034382db712687bc894172c3a53d6c787544e2", func := "loop.example/lib-g03416/laws.FnValidMap", spec := "fnValidMap", unfollowed := true, recurses := true, named := ["unicode/utf8.first", "unicode/utf8.acceptRanges"], apart := false, laid := [("unicode/utf8.acceptRanges", laid_unicode_utf8_acceptRanges), ("unicode/utf8.first", laid_unicode_utf8_first)] }
def FnValidMapSaid : Prop := fnValidMapRow.holds Tryd.pinned (OpenSpec.ofChange fnValidMapSpec)

/-- ITS FALSE NEIGHBOUR: 'it returns false'. Refute it at one input. -/
def fnValidMapWrong : ChangeSpec := { name := "fnValidMap", fn := fun _ => fun
  | [d] => { results := [.lit (.bool false)], args := [d] }
  | _ => none }
def FnValidMapWrongFalsely : Prop := fnValidMapRow.holds Tryd.pinned (OpenSpec.ofChange fnValidMapWrong)

/-- 'laws.FnRepeatMap': WHATEVER THE INPUT: true; the input reads as it did. -/
def fnRepeatMapSpec : ChangeSpec := { name := "fnRepeatMap", fn := fun _ => fun
  | [d1, d2, d3, d4] => { results := [.lit (.bool true)], args := [d1, d2, d3, d4] }
  | _ => none }
def fnRepeatMapRow : OpenClaim := { program := "ytlbaoghebjaliaadoor", sum := "3257610c091a7b77953382ad96034382db712687bc894172c3a53d6c787544e2", func := "loop.example/lib-g03416/laws.FnRepeatMap", spec := "fnRepeatMap", inPlace := ["internal/bytealg.MakeNoZero"], unfollowed := true, recurses := true, named := ["unicode/utf8.first", "unicode/utf8.acceptRanges"], apart := false, laid := [("unicode/utf8.acceptRanges", laid_unicode_utf8_acceptRanges), ("unicode/utf8.first", laid_unicode_utf8_first)] }
def FnRepeatMapSaid : Prop := fnRepeatMapRow.holds Tryd.pinned (OpenSpec.ofChange fnRepeatMapSpec)

/-- ITS FALSE NEIGHBOUR: 'it returns false'. Refute it at one input. -/
def fnRepeatMapWrong : ChangeSpec := { name := "fnRepeatMap", fn := fun _ => fun
  | [d1, d2, d3, d4] => { results := [.lit (.bool false)], args := [d1, d2, d3, d4] }
  | _ => none }
def FnRepeatMapWrongFalsely : Prop := fnRepeatMapRow.holds Tryd.pinned (OpenSpec.ofChange fnRepeatMapWrong)

/- THE SECOND FORM. 'bulk': how many values and letters a reading holds, each counted each time it is reached (what is shared counts as often as it is met; a slice's spare places count too). A statement '..UptoSaid' is the law's where the arguments, and the package variables that the reading takes, are together of bulk at most 1048576: NARROWER than '..Said'. Prove '..Said' where nothing that the law and all that it calls make is longer than what came in: it says more and counts as full. Else prove '..UptoSaid'. A law counts once. -/
mutual
def uptoBulk {H : Type} : DataW H → Nat
  | .lit (.string bytes) => bytes.length + 1
  | .lit _ => 1
  | .nil => 1
  | .ptr d => uptoBulk d + 1
  | .slice elems spare => uptoBulkAll elems + uptoBulkAll spare + 1
  | .agg parts => uptoBulkAll parts + 1
  | .iface _ d => uptoBulk d + 1
  | .map entries => uptoBulkEntries entries + 1
  | .held _ => 1
def uptoBulkAll {H : Type} : List (DataW H) → Nat
  | [] => 0
  | d :: r => uptoBulk d + uptoBulkAll r
def uptoBulkEntries {H : Type} : List (Lit × DataW H) → Nat
  | [] => 0
  | x :: r => uptoBulkEntry x + uptoBulkEntries r
def uptoBulkEntry {H : Type} : Lit × DataW H → Nat
  | (.string bytes, d) => bytes.length + uptoBulk d + 1
  | (_, d) => uptoBulk d + 1
 end
def uptoSmall : (H : Type) → List (DataW H) → Bool := fun _ ds => decide (uptoBulkAll ds ≤ 1048576)
def OpenSpec.upto (s : _root_.Go.ChangeSpec) : _root_.Go.OpenSpec := { _root_.Go.OpenSpec.ofChange s with cond := some uptoSmall }

/-- 'laws.FnFieldsFuncParts', WHERE WHAT IT READS IS OF BULK AT MOST 1048576: true; the input reads as it did. -/
def fnFieldsFuncPartsUptoRow : OpenClaim := { program := "ytlbaoghebjaliaadoor", sum := "3257610c091a7b77953382ad96034382db712687bc894172c3a53d6c787544e2", func := "loop.example/lib-g03416/laws.FnFieldsFuncParts", spec := "fnFieldsFuncParts", unfollowed := true, recurses := true, named := ["unicode/utf8.first", "unicode/utf8.acceptRanges"], apart := false, laid := [("unicode/utf8.acceptRanges", laid_unicode_utf8_acceptRanges), ("unicode/utf8.first", laid_unicode_utf8_first)], narrowed := true }
def FnFieldsFuncPartsUptoSaid : Prop := fnFieldsFuncPartsUptoRow.holds Tryd.pinned (OpenSpec.upto fnFieldsFuncPartsSpec)

/-- 'laws.FnFieldsFuncTrim', WHERE WHAT IT READS IS OF BULK AT MOST 1048576: true; the input reads as it did. -/
def fnFieldsFuncTrimUptoRow : OpenClaim := { program := "ytlbaoghebjaliaadoor", sum := "3257610c091a7b77953382ad96034382db712687bc894172c3a53d6c787544e2", func := "loop.example/lib-g03416/laws.FnFieldsFuncTrim", spec := "fnFieldsFuncTrim", unfollowed := true, recurses := true, named := ["unicode/utf8.first", "unicode/utf8.acceptRanges"], apart := false, laid := [("unicode/utf8.acceptRanges", laid_unicode_utf8_acceptRanges), ("unicode/utf8.first", laid_unicode_utf8_first)], narrowed := true }
def FnFieldsFuncTrimUptoSaid : Prop := fnFieldsFuncTrimUptoRow.holds Tryd.pinned (OpenSpec.upto fnFieldsFuncTrimSpec)

/-- 'laws.FnLinesFields', WHERE WHAT IT READS IS OF BULK AT MOST 1048576: true; the input reads as it did. -/
def fnLinesFieldsUptoRow : OpenClaim := { program := "ytlbaoghebjaliaadoor", sum := "3257610c091a7b77953382ad96034382db712687bc894172c3a53d6c787544e2", func := "loop.example/lib-g03416/laws.FnLinesFields", spec := "fnLinesFields", inPlace := ["internal/bytealg.IndexByte"], unfollowed := true, recurses := true, named := ["unicode/utf8.first", "unicode/utf8.acceptRanges"], apart := false, laid := [("unicode/utf8.acceptRanges", laid_unicode_utf8_acceptRanges), ("unicode/utf8.first", laid_unicode_utf8_first)], narrowed := true }
def FnLinesFieldsUptoSaid : Prop := fnLinesFieldsUptoRow.holds Tryd.pinned (OpenSpec.upto fnLinesFieldsSpec)

/-- 'laws.FnValidAgain', WHERE WHAT IT READS IS OF BULK AT MOST 1048576: true; the input reads as it did. -/
def fnValidAgainUptoRow : OpenClaim := { program := "ytlbaoghebjaliaadoor", sum := "3257610c091a7b77953382ad96034382db712687bc894172c3a53d6c787544e2", func := "loop.example/lib-g03416/laws.FnValidAgain", spec := "fnValidAgain", named := ["unicode/utf8.first", "unicode/utf8.acceptRanges"], apart := false, laid := [("unicode/utf8.acceptRanges", laid_unicode_utf8_acceptRanges), ("unicode/utf8.first", laid_unicode_utf8_first)], narrowed := true }
def FnValidAgainUptoSaid : Prop := fnValidAgainUptoRow.holds Tryd.pinned (OpenSpec.upto fnValidAgainSpec)

/-- 'laws.FnValidIs', WHERE WHAT IT READS IS OF BULK AT MOST 1048576: true; the input reads as it did. -/
def fnValidIsUptoRow : OpenClaim := { program := "ytlbaoghebjaliaadoor", sum := "3257610c091a7b77953382ad96034382db712687bc894172c3a53d6c787544e2", func := "loop.example/lib-g03416/laws.FnValidIs", spec := "fnValidIs", named := ["unicode/utf8.first", "unicode/utf8.acceptRanges"], apart := false, laid := [("unicode/utf8.acceptRanges", laid_unicode_utf8_acceptRanges), ("unicode/utf8.first", laid_unicode_utf8_first)], narrowed := true }
def FnValidIsUptoSaid : Prop := fnValidIsUptoRow.holds Tryd.pinned (OpenSpec.upto fnValidIsSpec)

/-- 'laws.FnExactMap', WHERE WHAT IT READS IS OF BULK AT MOST 1048576: true; the input reads as it did. -/
def fnExactMapUptoRow : OpenClaim := { program := "ytlbaoghebjaliaadoor", sum := "3257610c091a7b77953382ad96034382db712687bc894172c3a53d6c787544e2", func := "loop.example/lib-g03416/laws.FnExactMap", spec := "fnExactMap", unfollowed := true, recurses := true, named := ["unicode/utf8.first", "unicode/utf8.acceptRanges"], apart := false, laid := [("unicode/utf8.acceptRanges", laid_unicode_utf8_acceptRanges), ("unicode/utf8.first", laid_unicode_utf8_first)], narrowed := true }
def FnExactMapUptoSaid : Prop := fnExactMapUptoRow.holds Tryd.pinned (OpenSpec.upto fnExactMapSpec)

/-- 'laws.FnMapCount', WHERE WHAT IT READS IS OF BULK AT MOST 1048576: true; the input reads as it did. -/
def fnMapCountUptoRow : OpenClaim := { program := "ytlbaoghebjaliaadoor", sum := "3257610c091a7b77953382ad96034382db712687bc894172c3a53d6c787544e2", func := "loop.example/lib-g03416/laws.FnMapCount", spec := "fnMapCount", unfollowed := true, recurses := true, named := ["unicode/utf8.first", "unicode/utf8.acceptRanges"], apart := false, laid := [("unicode/utf8.acceptRanges", laid_unicode_utf8_acceptRanges), ("unicode/utf8.first", laid_unicode_utf8_first)], narrowed := true }
def FnMapCountUptoSaid : Prop := fnMapCountUptoRow.holds Tryd.pinned (OpenSpec.upto fnMapCountSpec)

/-- 'laws.FnMapSelf', WHERE WHAT IT READS IS OF BULK AT MOST 1048576: true; the input reads as it did. -/
def fnMapSelfUptoRow : OpenClaim := { program := "ytlbaoghebjaliaadoor", sum := "3257610c091a7b77953382ad96034382db712687bc894172c3a53d6c787544e2", func := "loop.example/lib-g03416/laws.FnMapSelf", spec := "fnMapSelf", unfollowed := true, recurses := true, named := ["unicode/utf8.first", "unicode/utf8.acceptRanges"], apart := false, laid := [("unicode/utf8.acceptRanges", laid_unicode_utf8_acceptRanges), ("unicode/utf8.first", laid_unicode_utf8_first)], narrowed := true }
def FnMapSelfUptoSaid : Prop := fnMapSelfUptoRow.holds Tryd.pinned (OpenSpec.upto fnMapSelfSpec)

/-- 'laws.FnMapTwice', WHERE WHAT IT READS IS OF BULK AT MOST 1048576: true; the input reads as it did. -/
def fnMapTwiceUptoRow : OpenClaim := { program := "ytlbaoghebjaliaadoor", sum := "3257610c091a7b77953382ad96034382db712687bc894172c3a53d6c787544e2", func := "loop.example/lib-g03416/laws.FnMapTwice", spec := "fnMapTwice", unfollowed := true, recurses := true, named := ["unicode/utf8.first", "unicode/utf8.acceptRanges"], apart := false, laid := [("unicode/utf8.acceptRanges", laid_unicode_utf8_acceptRanges), ("unicode/utf8.first", laid_unicode_utf8_first)], narrowed := true }
def FnMapTwiceUptoSaid : Prop := fnMapTwiceUptoRow.holds Tryd.pinned (OpenSpec.upto fnMapTwiceSpec)

/-- 'laws.FnRunesMap', WHERE WHAT IT READS IS OF BULK AT MOST 1048576: true; the input reads as it did. -/
def fnRunesMapUptoRow : OpenClaim := { program := "ytlbaoghebjaliaadoor", sum := "3257610c091a7b77953382ad96034382db712687bc894172c3a53d6c787544e2", func := "loop.example/lib-g03416/laws.FnRunesMap", spec := "fnRunesMap", unfollowed := true, recurses := true, named := ["unicode/utf8.first", "unicode/utf8.acceptRanges"], apart := false, laid := [("unicode/utf8.acceptRanges", laid_unicode_utf8_acceptRanges), ("unicode/utf8.first", laid_unicode_utf8_first)], narrowed := true }
def FnRunesMapUptoSaid : Prop := fnRunesMapUptoRow.holds Tryd.pinned (OpenSpec.upto fnRunesMapSpec)

/-- 'laws.FnValidMap', WHERE WHAT IT READS IS OF BULK AT MOST 1048576: true; the input reads as it did. -/
def fnValidMapUptoRow : OpenClaim := { program := "ytlbaoghebjaliaadoor", sum := "3257610c091a7b77953382ad96034382db712687bc894172c3a53d6c787544e2", func := "loop.example/lib-g03416/laws.FnValidMap", spec := "fnValidMap", unfollowed := true, recurses := true, named := ["unicode/utf8.first", "unicode/utf8.acceptRanges"], apart := false, laid := [("unicode/utf8.acceptRanges", laid_unicode_utf8_acceptRanges), ("unicode/utf8.first", laid_unicode_utf8_first)], narrowed := true }
def FnValidMapUptoSaid : Prop := fnValidMapUptoRow.holds Tryd.pinned (OpenSpec.upto fnValidMapSpec)

/-- 'laws.FnRepeatMap', WHERE WHAT IT READS IS OF BULK AT MOST 1048576: true; the input reads as it did. -/
def fnRepeatMapUptoRow : OpenClaim := { program := "ytlbaoghebjaliaadoor", sum := "3257610c091a7b77953382ad96034382db712687bc894172c3a53d6c787544e2", func := "loop.example/lib-g03416/laws.FnRepeatMap", spec := "fnRepeatMap", inPlace := ["internal/bytealg.MakeNoZero"], unfollowed := true, recurses := true, named := ["unicode/utf8.first", "unicode/utf8.acceptRanges"], apart := false, laid := [("unicode/utf8.acceptRanges", laid_unicode_utf8_acceptRanges), ("unicode/utf8.first", laid_unicode_utf8_first)], narrowed := true }
def FnRepeatMapUptoSaid : Prop := fnRepeatMapUptoRow.holds Tryd.pinned (OpenSpec.upto fnRepeatMapSpec)

end Rows
end Go.Proofs.YtlbaoghebjaliaaDoor
