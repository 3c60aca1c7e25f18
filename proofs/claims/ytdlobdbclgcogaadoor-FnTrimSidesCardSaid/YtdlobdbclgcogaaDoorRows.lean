/-
  NARROWER THAN 'FOR EVERY INPUT', by the rows' own cells (each row's printed sentence says how): FnFieldsFuncDrop: laid · FnExactTrimLeft: laid · FnExactTrimRight: laid · FnExactTrim: laid · FnTrimAgain: laid · FnTrimSides: laid · FnTrimEnds: laid · FnTrimDrop: laid · FnTrimTest: laid · FnExactMap: laid.
  DERIVED. THE GIVEN ROWS OF THIS SEAT. 10 by the template 'for every input the law returns true; each argument reads behind the call as it read before'; 0 by the template 'total and deterministic' (their statements: YtdlobdbclgcogaaDoorTotals.lean).
  GIVEN WITH THE SEED: the statements are not yours to turn. If you find one false, say at which input.
  Laid BY PROGRAM, IN A SANDBOX (cutbox-rows.mjs): the forced cells as the released guide's own fill.sh prints them over the translation c35d48595b630a7f… (all of the seat's roots in one cut). By AI agents, Wed Nov 11 2026. No macro, syntax, notation, axiom, sorry.
-/
import Derived.Test.YtdlobdbclgcogaaDoorChecked
import GoSem.PinnedTables
import GoSem.Claim
import GoSem.ClaimJoined
import GoSem.ClaimMapViews
import Derived.JoinedTies
import Derived.KernelRfl
namespace Go.Proofs.YtdlobdbclgcogaaDoor
/- THE CELL 'sum', in the pinned program and in every row, IS THE sha256 OF THE DUMP (.gsa) THAT YtdlobdbclgcogaaDoorProg.lean LOADS. Nothing in Lean hashes anything: it is a label: what it is worth is what the hold of that sum in a sandbox is worth. -/
noncomputable def Tryd.pinned : Pinned := { name := "ytdlobdbclgcogaadoor", sum := "c35d48595b630a7fd4ea0dbbeba5297a544dbe6da598c8270a60510d98934655", checked := Tryd.checked }
namespace Rows
def none {H : Type} : Left H := { results := [], args := [] }

/- WHAT THE LISTED PACKAGE-LEVEL VARIABLES READ AS WHEN THE CALL BEGINS. Each datum BY PROGRAM (the guide's laid-datum.mjs) off the statement by which the dump's own 'gosem.cut.vars' lays the variable. In a bare row this is a premise. The card (YtdlobdbclgcogaaDoorCards.lean) ties it to the program's text. -/
def laid_unicode_utf8_acceptRanges {H : Type} : DataW H := .agg [.agg [.lit (.int .u8 128), .lit (.int .u8 191)], .agg [.lit (.int .u8 160), .lit (.int .u8 191)], .agg [.lit (.int .u8 128), .lit (.int .u8 159)], .agg [.lit (.int .u8 144), .lit (.int .u8 191)], .agg [.lit (.int .u8 128), .lit (.int .u8 143)], .agg [.lit (.int .u8 0), .lit (.int .u8 0)], .agg [.lit (.int .u8 0), .lit (.int .u8 0)], .agg [.lit (.int .u8 0), .lit (.int .u8 0)], .agg [.lit (.int .u8 0), .lit (.int .u8 0)], .agg [.lit (.int .u8 0), .lit (.int .u8 0)], .agg [.lit (.int .u8 0), .lit (.int .u8 0)], .agg [.lit (.int .u8 0), .lit (.int .u8 0)], .agg [.lit (.int .u8 0), .lit (.int .u8 0)], .agg [.lit (.int .u8 0), .lit (.int .u8 0)], .agg [.lit (.int .u8 0), .lit (.int .u8 0)], .agg [.lit (.int .u8 0), .lit (.int .u8 0)]]
/-- One of Go's own tables, pinned by name: the form's constant. -/
def laid_unicode_utf8_first : DataW Unit := Go.Pinned.utf8First

/-- 'laws.FnFieldsFuncDrop': WHATEVER THE INPUT: true; the input reads as it did. -/
def fnFieldsFuncDropSpec : ChangeSpec := { name := "fnFieldsFuncDrop", fn := fun _ => fun
  | [d1, d2] => { results := [.lit (.bool true)], args := [d1, d2] }
  | _ => none }
def fnFieldsFuncDropRow : OpenClaim := { program := "ytdlobdbclgcogaadoor", sum := "c35d48595b630a7fd4ea0dbbeba5297a544dbe6da598c8270a60510d98934655", func := "loop.example/lib-g03416/laws.FnFieldsFuncDrop", spec := "fnFieldsFuncDrop", unfollowed := true, recurses := true, named := ["unicode/utf8.first", "unicode/utf8.acceptRanges"], apart := false, laid := [("unicode/utf8.acceptRanges", laid_unicode_utf8_acceptRanges), ("unicode/utf8.first", laid_unicode_utf8_first)] }
def FnFieldsFuncDropSaid : Prop := fnFieldsFuncDropRow.holds Tryd.pinned (OpenSpec.ofChange fnFieldsFuncDropSpec)

/-- ITS FALSE NEIGHBOUR: 'it returns false'. Refute it at one input. -/
def fnFieldsFuncDropWrong : ChangeSpec := { name := "fnFieldsFuncDrop", fn := fun _ => fun
  | [d1, d2] => { results := [.lit (.bool false)], args := [d1, d2] }
  | _ => none }
def FnFieldsFuncDropWrongFalsely : Prop := fnFieldsFuncDropRow.holds Tryd.pinned (OpenSpec.ofChange fnFieldsFuncDropWrong)

/-- 'laws.FnExactTrimLeft': WHATEVER THE INPUT: true; the input reads as it did. -/
def fnExactTrimLeftSpec : ChangeSpec := { name := "fnExactTrimLeft", fn := fun _ => fun
  | [d1, d2] => { results := [.lit (.bool true)], args := [d1, d2] }
  | _ => none }
def fnExactTrimLeftRow : OpenClaim := { program := "ytdlobdbclgcogaadoor", sum := "c35d48595b630a7fd4ea0dbbeba5297a544dbe6da598c8270a60510d98934655", func := "loop.example/lib-g03416/laws.FnExactTrimLeft", spec := "fnExactTrimLeft", named := ["unicode/utf8.first", "unicode/utf8.acceptRanges"], apart := false, laid := [("unicode/utf8.acceptRanges", laid_unicode_utf8_acceptRanges), ("unicode/utf8.first", laid_unicode_utf8_first)] }
def FnExactTrimLeftSaid : Prop := fnExactTrimLeftRow.holds Tryd.pinned (OpenSpec.ofChange fnExactTrimLeftSpec)

/-- ITS FALSE NEIGHBOUR: 'it returns false'. Refute it at one input. -/
def fnExactTrimLeftWrong : ChangeSpec := { name := "fnExactTrimLeft", fn := fun _ => fun
  | [d1, d2] => { results := [.lit (.bool false)], args := [d1, d2] }
  | _ => none }
def FnExactTrimLeftWrongFalsely : Prop := fnExactTrimLeftRow.holds Tryd.pinned (OpenSpec.ofChange fnExactTrimLeftWrong)

/-- 'laws.FnExactTrimRight': WHATEVER THE INPUT: true; the input reads as it did. -/
def fnExactTrimRightSpec : ChangeSpec := { name := "fnExactTrimRight", fn := fun _ => fun
  | [d1, d2] => { results := [.lit (.bool true)], args := [d1, d2] }
  | _ => none }
def fnExactTrimRightRow : OpenClaim := { program := "ytdlobdbclgcogaadoor", sum := "c35d48595b630a7fd4ea0dbbeba5297a544dbe6da598c8270a60510d98934655", func := "loop.example/lib-g03416/laws.FnExactTrimRight", spec := "fnExactTrimRight", named := ["unicode/utf8.first", "unicode/utf8.acceptRanges"], apart := false, laid := [("unicode/utf8.acceptRanges", laid_unicode_utf8_acceptRanges), ("unicode/utf8.first", laid_unicode_utf8_first)] }
def FnExactTrimRightSaid : Prop := fnExactTrimRightRow.holds Tryd.pinned (OpenSpec.ofChange fnExactTrimRightSpec)

/-- ITS FALSE NEIGHBOUR: 'it returns false'. Refute it at one input. -/
def fnExactTrimRightWrong : ChangeSpec := { name := "fnExactTrimRight", fn := fun _ => fun
  | [d1, d2] => { results := [.lit (.bool false)], args := [d1, d2] }
  | _ => none }
def FnExactTrimRightWrongFalsely : Prop := fnExactTrimRightRow.holds Tryd.pinned (OpenSpec.ofChange fnExactTrimRightWrong)

/-- 'laws.FnExactTrim': WHATEVER THE INPUT: true; the input reads as it did. -/
def fnExactTrimSpec : ChangeSpec := { name := "fnExactTrim", fn := fun _ => fun
  | [d1, d2] => { results := [.lit (.bool true)], args := [d1, d2] }
  | _ => none }
def fnExactTrimRow : OpenClaim := { program := "ytdlobdbclgcogaadoor", sum := "c35d48595b630a7fd4ea0dbbeba5297a544dbe6da598c8270a60510d98934655", func := "loop.example/lib-g03416/laws.FnExactTrim", spec := "fnExactTrim", named := ["unicode/utf8.first", "unicode/utf8.acceptRanges"], apart := false, laid := [("unicode/utf8.acceptRanges", laid_unicode_utf8_acceptRanges), ("unicode/utf8.first", laid_unicode_utf8_first)] }
def FnExactTrimSaid : Prop := fnExactTrimRow.holds Tryd.pinned (OpenSpec.ofChange fnExactTrimSpec)

/-- ITS FALSE NEIGHBOUR: 'it returns false'. Refute it at one input. -/
def fnExactTrimWrong : ChangeSpec := { name := "fnExactTrim", fn := fun _ => fun
  | [d1, d2] => { results := [.lit (.bool false)], args := [d1, d2] }
  | _ => none }
def FnExactTrimWrongFalsely : Prop := fnExactTrimRow.holds Tryd.pinned (OpenSpec.ofChange fnExactTrimWrong)

/-- 'laws.FnTrimAgain': WHATEVER THE INPUT: true; the input reads as it did. -/
def fnTrimAgainSpec : ChangeSpec := { name := "fnTrimAgain", fn := fun _ => fun
  | [d1, d2] => { results := [.lit (.bool true)], args := [d1, d2] }
  | _ => none }
def fnTrimAgainRow : OpenClaim := { program := "ytdlobdbclgcogaadoor", sum := "c35d48595b630a7fd4ea0dbbeba5297a544dbe6da598c8270a60510d98934655", func := "loop.example/lib-g03416/laws.FnTrimAgain", spec := "fnTrimAgain", named := ["unicode/utf8.first", "unicode/utf8.acceptRanges"], apart := false, laid := [("unicode/utf8.acceptRanges", laid_unicode_utf8_acceptRanges), ("unicode/utf8.first", laid_unicode_utf8_first)] }
def FnTrimAgainSaid : Prop := fnTrimAgainRow.holds Tryd.pinned (OpenSpec.ofChange fnTrimAgainSpec)

/-- ITS FALSE NEIGHBOUR: 'it returns false'. Refute it at one input. -/
def fnTrimAgainWrong : ChangeSpec := { name := "fnTrimAgain", fn := fun _ => fun
  | [d1, d2] => { results := [.lit (.bool false)], args := [d1, d2] }
  | _ => none }
def FnTrimAgainWrongFalsely : Prop := fnTrimAgainRow.holds Tryd.pinned (OpenSpec.ofChange fnTrimAgainWrong)

/-- 'laws.FnTrimSides': WHATEVER THE INPUT: true; the input reads as it did. -/
def fnTrimSidesSpec : ChangeSpec := { name := "fnTrimSides", fn := fun _ => fun
  | [d1, d2] => { results := [.lit (.bool true)], args := [d1, d2] }
  | _ => none }
def fnTrimSidesRow : OpenClaim := { program := "ytdlobdbclgcogaadoor", sum := "c35d48595b630a7fd4ea0dbbeba5297a544dbe6da598c8270a60510d98934655", func := "loop.example/lib-g03416/laws.FnTrimSides", spec := "fnTrimSides", named := ["unicode/utf8.first", "unicode/utf8.acceptRanges"], apart := false, laid := [("unicode/utf8.acceptRanges", laid_unicode_utf8_acceptRanges), ("unicode/utf8.first", laid_unicode_utf8_first)] }
def FnTrimSidesSaid : Prop := fnTrimSidesRow.holds Tryd.pinned (OpenSpec.ofChange fnTrimSidesSpec)

/-- ITS FALSE NEIGHBOUR: 'it returns false'. Refute it at one input. -/
def fnTrimSidesWrong : ChangeSpec := { name := "fnTrimSides", fn := fun _ => fun
  | [d1, d2] => { results := [.lit (.bool false)], args := [d1, d2] }
  | _ => none }
def FnTrimSidesWrongFalsely : Prop := fnTrimSidesRow.holds Tryd.pinned (OpenSpec.ofChange fnTrimSidesWrong)

/-- 'laws.FnTrimEnds': WHATEVER THE INPUT: true; the input reads as it did. -/
def fnTrimEndsSpec : ChangeSpec := { name := "fnTrimEnds", fn := fun _ => fun
  | [d1, d2] => { results := [.lit (.bool true)], args := [d1, d2] }
  | _ => none }
def fnTrimEndsRow : OpenClaim := { program := "ytdlobdbclgcogaadoor", sum := "c35d48595b630a7fd4ea0dbbeba5297a544dbe6da598c8270a60510d98934655", func := "loop.example/lib-g03416/laws.FnTrimEnds", spec := "fnTrimEnds", unfollowed := true, recurses := true, named := ["unicode/utf8.first", "unicode/utf8.acceptRanges"], apart := false, laid := [("unicode/utf8.acceptRanges", laid_unicode_utf8_acceptRanges), ("unicode/utf8.first", laid_unicode_utf8_first)] }
def FnTrimEndsSaid : Prop := fnTrimEndsRow.holds Tryd.pinned (OpenSpec.ofChange fnTrimEndsSpec)

/-- ITS FALSE NEIGHBOUR: 'it returns false'. Refute it at one input. -/
def fnTrimEndsWrong : ChangeSpec := { name := "fnTrimEnds", fn := fun _ => fun
  | [d1, d2] => { results := [.lit (.bool false)], args := [d1, d2] }
  | _ => none }
def FnTrimEndsWrongFalsely : Prop := fnTrimEndsRow.holds Tryd.pinned (OpenSpec.ofChange fnTrimEndsWrong)

/-- 'laws.FnTrimDrop': WHATEVER THE INPUT: true; the input reads as it did. -/
def fnTrimDropSpec : ChangeSpec := { name := "fnTrimDrop", fn := fun _ => fun
  | [d1, d2] => { results := [.lit (.bool true)], args := [d1, d2] }
  | _ => none }
def fnTrimDropRow : OpenClaim := { program := "ytdlobdbclgcogaadoor", sum := "c35d48595b630a7fd4ea0dbbeba5297a544dbe6da598c8270a60510d98934655", func := "loop.example/lib-g03416/laws.FnTrimDrop", spec := "fnTrimDrop", unfollowed := true, recurses := true, named := ["unicode/utf8.first", "unicode/utf8.acceptRanges"], apart := false, laid := [("unicode/utf8.acceptRanges", laid_unicode_utf8_acceptRanges), ("unicode/utf8.first", laid_unicode_utf8_first)] }
def FnTrimDropSaid : Prop := fnTrimDropRow.holds Tryd.pinned (OpenSpec.ofChange fnTrimDropSpec)

/-- ITS FALSE NEIGHBOUR: 'it returns false'. Refute it at one input. -/
def fnTrimDropWrong : ChangeSpec := { name := "fnTrimDrop", fn := fun _ => fun
  | [d1, d2] => { results := [.lit (.bool false)], args := [d1, d2] }
  | _ => none }
def FnTrimDropWrongFalsely : Prop := fnTrimDropRow.holds Tryd.pinned (OpenSpec.ofChange fnTrimDropWrong)

/-- 'laws.FnTrimTest': WHATEVER THE INPUT: true; the input reads as it did. -/
def fnTrimTestSpec : ChangeSpec := { name := "fnTrimTest", fn := fun _ => fun
  | [d1, d2] => { results := [.lit (.bool true)], args := [d1, d2] }
  | _ => none }
def fnTrimTestRow : OpenClaim := { program := "ytdlobdbclgcogaadoor", sum := "c35d48595b630a7fd4ea0dbbeba5297a544dbe6da598c8270a60510d98934655", func := "loop.example/lib-g03416/laws.FnTrimTest", spec := "fnTrimTest", unfollowed := true, recurses := true, named := ["unicode/utf8.first", "unicode/utf8.acceptRanges"], apart := false, laid := [("unicode/utf8.acceptRanges", laid_unicode_utf8_acceptRanges), ("unicode/utf8.first", laid_unicode_utf8_first)] }
def FnTrimTestSaid : Prop := fnTrimTestRow.holds Tryd.pinned (OpenSpec.ofChange fnTrimTestSpec)

/-- ITS FALSE NEIGHBOUR: 'it returns false'. Refute it at one input. -/
def fnTrimTestWrong : ChangeSpec := { name := "fnTrimTest", fn := fun _ => fun
  | [d1, d2] => { results := [.lit (.bool false)], args := [d1, d2] }
  | _ => none }
def FnTrimTestWrongFalsely : Prop := fnTrimTestRow.holds Tryd.pinned (OpenSpec.ofChange fnTrimTestWrong)

/-- 'laws.FnExactMap': WHATEVER THE INPUT: true; the input reads as it did. -/
def fnExactMapSpec : ChangeSpec := { name := "fnExactMap", fn := fun _ => fun
  | [d1, d2] => { results := [.lit (.bool true)], args := [d1, d2] }
  | _ => none }
def fnExactMapRow : OpenClaim := { program := "ytdlobdbclgcogaadoor", sum := "c35d48595b630a7fd4ea0dbbeba5297a544dbe6da598c8270a60510d98934655", func := "loop.example/lib-g03416/laws.FnExactMap", spec := "fnExactMap", unfollowed := true, recurses := true, named := ["unicode/utf8.first", "unicode/utf8.acceptRanges"], apart := false, laid := [("unicode/utf8.acceptRanges", laid_unicode_utf8_acceptRanges), ("unicode/utf8.first", laid_unicode_utf8_first)] }
def FnExactMapSaid : Prop := fnExactMapRow.holds Tryd.pinned (OpenSpec.ofChange fnExactMapSpec)

/-- ITS FALSE NEIGHBOUR: 'it returns false'. Refute it at one input. -/
def fnExactMapWrong : ChangeSpec := { name := "fnExactMap", fn := fun _ => fun
  | [d1, d2] => { results := [.lit (.bool false)], args := [d1, d2] }
  | _ => none }
def FnExactMapWrongFalsely : Prop := fnExactMapRow.holds Tryd.pinned (OpenSpec.ofChange fnExactMapWrong)

/- THE SECOND FORM. 'bulk': how many values and letters a reading holds, each counted each time it is reached (what is shared counts as often as it is met; a slice's spare places count too). A statement '..UptoSaid' is the law's where the arguments, and the package variables that the reading takes, are together of bulk at most 1048576: NARROWER than '..Said'. Prove '..Said' where nothing that the law and all that it calls make is longer than what came in: it says more and counts as full. Else prove '..UptoSaid'. A law counts once. -/
mutual
def uptoBulk {H : Type} : DataW H → Nat
  | .lit (.string bytes) => bytes.length + 1
  | .lit _ => 1
  | .nil => 1
  | .ptr d => uptoBulk d + 1
  | .slice elems spare => uptoBulkAll elems + uptoBulkAll spare + 1
  | .agg parts => uptoBulkAll parts + 1
  | .iface _ d => uptoBulk d + 1
  | .map entries => uptoBulkEntries entries + 1
  | .held _ => 1
def uptoBulkAll {H : Type} : List (DataW H) → Nat
  | [] => 0
  | d :: r => uptoBulk d + uptoBulkAll r
def uptoBulkEntries {H : Type} : List (Lit × DataW H) → Nat
  | [] => 0
  | x :: r => uptoBulkEntry x + uptoBulkEntries r
def uptoBulkEntry {H : Type} : Lit × DataW H → Nat
  | (.string bytes, d) => bytes.length + uptoBulk d + 1
  | (_, d) => uptoBulk d + 1
 end
def uptoSmall : (H : Type) → List (DataW H) → Bool := fun _ ds => decide (uptoBulkAll ds ≤ 1048576)
def OpenSpec.upto (s : _root_.Go.ChangeSpec) : _root_.Go.OpenSpec := { _root_.Go.OpenSpec.ofChange s with cond := some uptoSmall }

/-- 'laws.FnFieldsFuncDrop', WHERE WHAT IT READS IS OF BULK AT MOST 1048576: true; the input reads as it did. -/
def fnFieldsFuncDropUptoRow : OpenClaim := { program := "ytdlobdbclgcogaadoor", sum := "c35d48595b630a7fd4ea0dbbeba5297a544dbe6da598c8270a60510d98934655", func := "loop.example/lib-g03416/laws.FnFieldsFuncDrop", spec := "fnFieldsFuncDrop", unfollowed := true, recurses := true, named := ["unicode/utf8.first", "unicode/utf8.acceptRanges"], apart := false, laid := [("unicode/utf8.acceptRanges", laid_unicode_utf8_acceptRanges), ("unicode/utf8.first", laid_unicode_utf8_first)], narrowed := true }
def FnFieldsFuncDropUptoSaid : Prop := fnFieldsFuncDropUptoRow.holds Tryd.pinned (OpenSpec.upto fnFieldsFuncDropSpec)

/-- 'laws.FnExactTrimLeft', WHERE WHAT IT READS IS OF BULK AT MOST 1048576: true; the input reads as it did. -/
def fnExactTrimLeftUptoRow : OpenClaim := { program := "ytdlobdbclgcogaadoor", sum := "c35d48595b630a7fd4ea0dbbeba5297a544dbe6da598c8270a60510d98934655", func := "loop.example/lib-g03416/laws.FnExactTrimLeft", spec := "fnExactTrimLeft", named := ["unicode/utf8.first", "unicode/utf8.acceptRanges"], apart := false, laid := [("unicode/utf8.acceptRanges", laid_unicode_utf8_acceptRanges), ("unicode/utf8.first", laid_unicode_utf8_first)], narrowed := true }
def FnExactTrimLeftUptoSaid : Prop := fnExactTrimLeftUptoRow.holds Tryd.pinned (OpenSpec.upto fnExactTrimLeftSpec)

/-- 'laws.FnExactTrimRight', WHERE WHAT IT READS IS OF BULK AT MOST 1048576: true; the input reads as it did. -/
def fnExactTrimRightUptoRow : OpenClaim := { program := "ytdlobdbclgcogaadoor", sum := "c35d48595b630a7fd4ea0dbbeba5297a544dbe6da598c8270a60510d98934655", func := "loop.example/lib-g03416/laws.FnExactTrimRight", spec := "fnExactTrimRight", named := ["unicode/utf8.first", "unicode/utf8.acceptRanges"], apart := false, laid := [("unicode/utf8.acceptRanges", laid_unicode_utf8_acceptRanges), ("unicode/utf8.first", laid_unicode_utf8_first)], narrowed := true }
def FnExactTrimRightUptoSaid : Prop := fnExactTrimRightUptoRow.holds Tryd.pinned (OpenSpec.upto fnExactTrimRightSpec)

/-- 'laws.FnExactTrim', WHERE WHAT IT READS IS OF BULK AT MOST 1048576: true; the input reads as it did. -/
def fnExactTrimUptoRow : OpenClaim := { program := "ytdlobdbclgcogaadoor", sum := "c35d48595b630a7fd4ea0dbbeba5297a544dbe6da598c8270a60510d98934655", func := "loop.example/lib-g03416/laws.FnExactTrim", spec := "fnExactTrim", named := ["unicode/utf8.first", "unicode/utf8.acceptRanges"], apart := false, laid := [("unicode/utf8.acceptRanges", laid_unicode_utf8_acceptRanges), ("unicode/utf8.first", laid_unicode_utf8_first)], narrowed := true }
def FnExactTrimUptoSaid : Prop := fnExactTrimUptoRow.holds Tryd.pinned (OpenSpec.upto fnExactTrimSpec)

/-- 'laws.FnTrimAgain', WHERE WHAT IT READS IS OF BULK AT MOST 1048576: true; the input reads as it did. -/
def fnTrimAgainUptoRow : OpenClaim := { program := "ytdlobdbclgcogaadoor", sum := "c35d48595b630a7fd4ea0dbbeba5297a544dbe6da598c8270a60510d98934655", func := "loop.example/lib-g03416/laws.FnTrimAgain", spec := "fnTrimAgain", named := ["unicode/utf8.first", "unicode/utf8.acceptRanges"], apart := false, laid := [("unicode/utf8.acceptRanges", laid_unicode_utf8_acceptRanges), ("unicode/utf8.first", laid_unicode_utf8_first)], narrowed := true }
def FnTrimAgainUptoSaid : Prop := fnTrimAgainUptoRow.holds Tryd.pinned (OpenSpec.upto fnTrimAgainSpec)

/-- 'laws.FnTrimSides', WHERE WHAT IT READS IS OF BULK AT MOST 1048576: true; the input reads as it did. -/
def fnTrimSidesUptoRow : OpenClaim := { program := "ytdlobdbclgcogaadoor", sum := "c35d48595b630a7fd4ea0dbbeba5297a544dbe6da598c8270a60510d98934655", func := "loop.example/lib-g03416/laws.FnTrimSides", spec := "fnTrimSides", named := ["unicode/utf8.first", "unicode/utf8.acceptRanges"], apart := false, laid := [("unicode/utf8.acceptRanges", laid_unicode_utf8_acceptRanges), ("unicode/utf8.first", laid_unicode_utf8_first)], narrowed := true }
def FnTrimSidesUptoSaid : Prop := fnTrimSidesUptoRow.holds Tryd.pinned (OpenSpec.upto fnTrimSidesSpec)

/-- 'laws.FnTrimEnds', WHERE WHAT IT READS IS OF BULK AT MOST 1048576: true; the input reads as it did. -/
def fnTrimEndsUptoRow : OpenClaim := { program := "ytdlobdbclgcogaadoor", sum := "c35d48595b630a7fd4ea0dbbeba5297a544dbe6da598c8270a60510d98934655", func := "loop.example/lib-g03416/laws.FnTrimEnds", spec := "fnTrimEnds", unfollowed := true, recurses := true, named := ["unicode/utf8.first", "unicode/utf8.acceptRanges"], apart := false, laid := [("unicode/utf8.acceptRanges", laid_unicode_utf8_acceptRanges), ("unicode/utf8.first", laid_unicode_utf8_first)], narrowed := true }
def FnTrimEndsUptoSaid : Prop := fnTrimEndsUptoRow.holds Tryd.pinned (OpenSpec.upto fnTrimEndsSpec)

/-- 'laws.FnTrimDrop', WHERE WHAT IT READS IS OF BULK AT MOST 1048576: true; the input reads as it did. -/
def fnTrimDropUptoRow : OpenClaim := { program := "ytdlobdbclgcogaadoor", sum := "c35d48595b630a7fd4ea0dbbeba5297a544dbe6da598c8270a60510d98934655", func := "loop.example/lib-g03416/laws.FnTrimDrop", spec := "fnTrimDrop", unfollowed := true, recurses := true, named := ["unicode/utf8.first", "unicode/utf8.acceptRanges"], apart := false, laid := [("unicode/utf8.acceptRanges", laid_unicode_utf8_acceptRanges), ("unicode/utf8.first", laid_unicode_utf8_first)], narrowed := true }
def FnTrimDropUptoSaid : Prop := fnTrimDropUptoRow.holds Tryd.pinned (OpenSpec.upto fnTrimDropSpec)

/-- 'laws.FnTrimTest', WHERE WHAT IT READS IS OF BULK AT MOST 1048576: true; the input reads as it did. -/
def fnTrimTestUptoRow : OpenClaim := { program := "ytdlobdbclgcogaadoor", sum := "c35d48595b630a7fd4ea0dbbeba5297a544dbe6da598c8270a60510d98934655", func := "loop.example/lib-g03416/laws.FnTrimTest", spec := "fnTrimTest", unfollowed := true, recurses := true, named := ["unicode/utf8.first", "unicode/utf8.acceptRanges"], apart := false, laid := [("unicode/utf8.acceptRanges", laid_unicode_utf8_acceptRanges), ("unicode/utf8.first", laid_unicode_utf8_first)], narrowed := true }
def FnTrimTestUptoSaid : Prop := fnTrimTestUptoRow.holds Tryd.pinned (OpenSpec.upto fnTrimTestSpec)

/-- 'laws.FnExactMap', WHERE WHAT IT READS IS OF BULK AT MOST 1048576: true; the input reads as it did. -/
def fnExactMapUptoRow : OpenClaim := { program := "ytdlobdbclgcogaadoor", sum := "c35d48595b630a7fd4ea0dbbeba5297a544dbe6da598c8270a60510d98934655", func := "loop.example/lib-g03416/laws.FnExactMap", spec := "fnExactMap", unfollowed := true, recurses := true, named := ["unicode/utf8.first", "unicode/utf8.acceptRanges"], apart := false, laid := [("unicode/utf8.acceptRanges", laid_unicode_utf8_acceptRanges), ("unicode/utf8.first", laid_unicode_utf8_first)], narrowed := true }
def FnExactMapUptoSaid : Prop := fnExactMapUptoRow.holds Tryd.pinned (OpenSpec.upto fnExactMapSpec)

end Rows
end Go.Proofs.YtdlobdbclgcogaaDoor
