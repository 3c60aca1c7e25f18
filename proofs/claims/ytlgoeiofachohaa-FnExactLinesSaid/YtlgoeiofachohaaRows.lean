/-
  No cell of these rows narrows 'for every input' (looked for: loops, veiled, ifaces, maps, wideKeys, modest, calm, conditions, laid).
  DERIVED. THE GIVEN ROWS OF THIS SEAT. 8 by the template 'for every input the law returns true; each argument reads behind the call as it read before'; 0 by the template 'total and deterministic' (their statements: YtlgoeiofachohaaTotals.lean).
  GIVEN WITH THE SEED: the statements are not yours to turn. If you find one false, say at which input.
  Laid BY PROGRAM, IN A SANDBOX (cutbox-rows.mjs): the forced cells as the released guide's own fill.sh prints them over the translation 38070a5c95f6c977… (all of the seat's roots in one cut). By AI agents, Wed Nov 11 2026. No macro, syntax, notation, axiom, sorry.
-/
import Derived.Test.YtlgoeiofachohaaChecked
import GoSem.Claim
import GoSem.ClaimJoined
import GoSem.ClaimMapViews
import Derived.JoinedTies
import Derived.KernelRfl
namespace Go.Proofs.Ytlgoeiofachohaa
/- THE CELL 'sum', in the pinned program and in every row, IS THE sha256 OF THE DUMP (.gsa) THAT YtlgoeiofachohaaProg.lean LOADS. Nothing in Lean hashes anything: it is a label: what it is worth is what the hold of that sum in a sandbox is worth. -/
noncomputable def Try.pinned : Pinned := { name := "ytlgoeiofachohaa", sum := "38070a5c95f6c9778519a43419e64dc7b0c7402c7704b8c29917bf5ba733d679", checked := Try.checked }
namespace Rows
def none {H : Type} : Left H := { results := [], args := [] }

/-- 'laws.FnExactLines': WHATEVER THE INPUT: true; the input reads as it did. -/
def fnExactLinesSpec : ChangeSpec := { name := "fnExactLines", fn := fun _ => fun
  | [d] => { results := [.lit (.bool true)], args := [d] }
  | _ => none }
def fnExactLinesRow : OpenClaim := { program := "ytlgoeiofachohaa", sum := "38070a5c95f6c9778519a43419e64dc7b0c7402c7704b8c29917bf5ba733d679", func := "loop.example/lib-g03416/laws.FnExactLines", spec := "fnExactLines", inPlace := ["internal/bytealg.IndexByte"], unfollowed := true, recurses := true, apart := false }
def FnExactLinesSaid : Prop := fnExactLinesRow.holds Try.pinned (OpenSpec.ofChange fnExactLinesSpec)

/-- ITS FALSE NEIGHBOUR: 'it returns false'. Refute it at one input. -/
def fnExactLinesWrong : ChangeSpec := { name := "fnExactLines", fn := fun _ => fun
  | [d] => { results := [.lit (.bool false)], args := [d] }
  | _ => none }
def FnExactLinesWrongFalsely : Prop := fnExactLinesRow.holds Try.pinned (OpenSpec.ofChange fnExactLinesWrong)

/-- 'laws.FnLinesGlue': WHATEVER THE INPUT: true; the input reads as it did. -/
def fnLinesGlueSpec : ChangeSpec := { name := "fnLinesGlue", fn := fun _ => fun
  | [d] => { results := [.lit (.bool true)], args := [d] }
  | _ => none }
def fnLinesGlueRow : OpenClaim := { program := "ytlgoeiofachohaa", sum := "38070a5c95f6c9778519a43419e64dc7b0c7402c7704b8c29917bf5ba733d679", func := "loop.example/lib-g03416/laws.FnLinesGlue", spec := "fnLinesGlue", inPlace := ["internal/bytealg.IndexByte"], unfollowed := true, recurses := true, apart := false }
def FnLinesGlueSaid : Prop := fnLinesGlueRow.holds Try.pinned (OpenSpec.ofChange fnLinesGlueSpec)

/-- ITS FALSE NEIGHBOUR: 'it returns false'. Refute it at one input. -/
def fnLinesGlueWrong : ChangeSpec := { name := "fnLinesGlue", fn := fun _ => fun
  | [d] => { results := [.lit (.bool false)], args := [d] }
  | _ => none }
def FnLinesGlueWrongFalsely : Prop := fnLinesGlueRow.holds Try.pinned (OpenSpec.ofChange fnLinesGlueWrong)

/-- 'laws.FnJoinIs': WHATEVER THE INPUT: true; the input reads as it did. -/
def fnJoinIsSpec : ChangeSpec := { name := "fnJoinIs", fn := fun _ => fun
  | [d1, d2] => { results := [.lit (.bool true)], args := [d1, d2] }
  | _ => none }
def fnJoinIsRow : OpenClaim := { program := "ytlgoeiofachohaa", sum := "38070a5c95f6c9778519a43419e64dc7b0c7402c7704b8c29917bf5ba733d679", func := "loop.example/lib-g03416/laws.FnJoinIs", spec := "fnJoinIs", inPlace := ["internal/bytealg.MakeNoZero"], apart := false }
def FnJoinIsSaid : Prop := fnJoinIsRow.holds Try.pinned (OpenSpec.ofChange fnJoinIsSpec)

/-- ITS FALSE NEIGHBOUR: 'it returns false'. Refute it at one input. -/
def fnJoinIsWrong : ChangeSpec := { name := "fnJoinIs", fn := fun _ => fun
  | [d1, d2] => { results := [.lit (.bool false)], args := [d1, d2] }
  | _ => none }
def FnJoinIsWrongFalsely : Prop := fnJoinIsRow.holds Try.pinned (OpenSpec.ofChange fnJoinIsWrong)

/-- 'laws.FnJoinTwo': WHATEVER THE INPUT: true; the input reads as it did. -/
def fnJoinTwoSpec : ChangeSpec := { name := "fnJoinTwo", fn := fun _ => fun
  | [d1, d2, d3] => { results := [.lit (.bool true)], args := [d1, d2, d3] }
  | _ => none }
def fnJoinTwoRow : OpenClaim := { program := "ytlgoeiofachohaa", sum := "38070a5c95f6c9778519a43419e64dc7b0c7402c7704b8c29917bf5ba733d679", func := "loop.example/lib-g03416/laws.FnJoinTwo", spec := "fnJoinTwo", inPlace := ["internal/bytealg.MakeNoZero"], apart := false }
def FnJoinTwoSaid : Prop := fnJoinTwoRow.holds Try.pinned (OpenSpec.ofChange fnJoinTwoSpec)

/-- ITS FALSE NEIGHBOUR: 'it returns false'. Refute it at one input. -/
def fnJoinTwoWrong : ChangeSpec := { name := "fnJoinTwo", fn := fun _ => fun
  | [d1, d2, d3] => { results := [.lit (.bool false)], args := [d1, d2, d3] }
  | _ => none }
def FnJoinTwoWrongFalsely : Prop := fnJoinTwoRow.holds Try.pinned (OpenSpec.ofChange fnJoinTwoWrong)

/-- 'laws.FnJoinLength': WHATEVER THE INPUT: true; the input reads as it did. -/
def fnJoinLengthSpec : ChangeSpec := { name := "fnJoinLength", fn := fun _ => fun
  | [d1, d2] => { results := [.lit (.bool true)], args := [d1, d2] }
  | _ => none }
def fnJoinLengthRow : OpenClaim := { program := "ytlgoeiofachohaa", sum := "38070a5c95f6c9778519a43419e64dc7b0c7402c7704b8c29917bf5ba733d679", func := "loop.example/lib-g03416/laws.FnJoinLength", spec := "fnJoinLength", inPlace := ["internal/bytealg.MakeNoZero"], apart := false }
def FnJoinLengthSaid : Prop := fnJoinLengthRow.holds Try.pinned (OpenSpec.ofChange fnJoinLengthSpec)

/-- ITS FALSE NEIGHBOUR: 'it returns false'. Refute it at one input. -/
def fnJoinLengthWrong : ChangeSpec := { name := "fnJoinLength", fn := fun _ => fun
  | [d1, d2] => { results := [.lit (.bool false)], args := [d1, d2] }
  | _ => none }
def FnJoinLengthWrongFalsely : Prop := fnJoinLengthRow.holds Try.pinned (OpenSpec.ofChange fnJoinLengthWrong)

/-- 'laws.FnRepeatIs': WHATEVER THE INPUT: true; the input reads as it did. -/
def fnRepeatIsSpec : ChangeSpec := { name := "fnRepeatIs", fn := fun _ => fun
  | [d1, d2] => { results := [.lit (.bool true)], args := [d1, d2] }
  | _ => none }
def fnRepeatIsRow : OpenClaim := { program := "ytlgoeiofachohaa", sum := "38070a5c95f6c9778519a43419e64dc7b0c7402c7704b8c29917bf5ba733d679", func := "loop.example/lib-g03416/laws.FnRepeatIs", spec := "fnRepeatIs", inPlace := ["internal/bytealg.MakeNoZero"], unfollowed := true, recurses := true, apart := false }
def FnRepeatIsSaid : Prop := fnRepeatIsRow.holds Try.pinned (OpenSpec.ofChange fnRepeatIsSpec)

/-- ITS FALSE NEIGHBOUR: 'it returns false'. Refute it at one input. -/
def fnRepeatIsWrong : ChangeSpec := { name := "fnRepeatIs", fn := fun _ => fun
  | [d1, d2] => { results := [.lit (.bool false)], args := [d1, d2] }
  | _ => none }
def FnRepeatIsWrongFalsely : Prop := fnRepeatIsRow.holds Try.pinned (OpenSpec.ofChange fnRepeatIsWrong)

/-- 'laws.FnRepeatSum': WHATEVER THE INPUT: true; the input reads as it did. -/
def fnRepeatSumSpec : ChangeSpec := { name := "fnRepeatSum", fn := fun _ => fun
  | [d1, d2, d3] => { results := [.lit (.bool true)], args := [d1, d2, d3] }
  | _ => none }
def fnRepeatSumRow : OpenClaim := { program := "ytlgoeiofachohaa", sum := "38070a5c95f6c9778519a43419e64dc7b0c7402c7704b8c29917bf5ba733d679", func := "loop.example/lib-g03416/laws.FnRepeatSum", spec := "fnRepeatSum", inPlace := ["internal/bytealg.MakeNoZero"], unfollowed := true, recurses := true, apart := false }
def FnRepeatSumSaid : Prop := fnRepeatSumRow.holds Try.pinned (OpenSpec.ofChange fnRepeatSumSpec)

/-- ITS FALSE NEIGHBOUR: 'it returns false'. Refute it at one input. -/
def fnRepeatSumWrong : ChangeSpec := { name := "fnRepeatSum", fn := fun _ => fun
  | [d1, d2, d3] => { results := [.lit (.bool false)], args := [d1, d2, d3] }
  | _ => none }
def FnRepeatSumWrongFalsely : Prop := fnRepeatSumRow.holds Try.pinned (OpenSpec.ofChange fnRepeatSumWrong)

/-- 'laws.FnRepeatJoin': WHATEVER THE INPUT: true; the input reads as it did. -/
def fnRepeatJoinSpec : ChangeSpec := { name := "fnRepeatJoin", fn := fun _ => fun
  | [d1, d2] => { results := [.lit (.bool true)], args := [d1, d2] }
  | _ => none }
def fnRepeatJoinRow : OpenClaim := { program := "ytlgoeiofachohaa", sum := "38070a5c95f6c9778519a43419e64dc7b0c7402c7704b8c29917bf5ba733d679", func := "loop.example/lib-g03416/laws.FnRepeatJoin", spec := "fnRepeatJoin", inPlace := ["internal/bytealg.MakeNoZero"], unfollowed := true, recurses := true, apart := false }
def FnRepeatJoinSaid : Prop := fnRepeatJoinRow.holds Try.pinned (OpenSpec.ofChange fnRepeatJoinSpec)

/-- ITS FALSE NEIGHBOUR: 'it returns false'. Refute it at one input. -/
def fnRepeatJoinWrong : ChangeSpec := { name := "fnRepeatJoin", fn := fun _ => fun
  | [d1, d2] => { results := [.lit (.bool false)], args := [d1, d2] }
  | _ => none }
def FnRepeatJoinWrongFalsely : Prop := fnRepeatJoinRow.holds Try.pinned (OpenSpec.ofChange fnRepeatJoinWrong)

/- THE SECOND FORM. 'bulk': how many values and letters a reading holds, each counted each time it is reached (what is shared counts as often as it is met; a slice's spare places count too). A statement '..UptoSaid' is the law's where the arguments, and the package variables that the reading takes, are together of bulk at most 1048576: NARROWER than '..Said'. Prove '..Said' where nothing that the law and all that it calls make is longer than what came in: it says more and counts as full. Else prove '..UptoSaid'. A law counts once. -/
mutual
def uptoBulk {H : Type} : DataW H → Nat
  | .lit (.string bytes) => bytes.length + 1
  | .lit _ => 1
  | .nil => 1
  | .ptr d => uptoBulk d + 1
  | .slice elems spare => uptoBulkAll elems + uptoBulkAll spare + 1
  | .agg parts => uptoBulkAll parts + 1
  | .iface _ d => uptoBulk d + 1
  | .map entries => uptoBulkEntries entries + 1
  | .held _ => 1
def uptoBulkAll {H : Type} : List (DataW H) → Nat
  | [] => 0
  | d :: r => uptoBulk d + uptoBulkAll r
def uptoBulkEntries {H : Type} : List (Lit × DataW H) → Nat
  | [] => 0
  | x :: r => uptoBulkEntry x + uptoBulkEntries r
def uptoBulkEntry {H : Type} : Lit × DataW H → Nat
  | (.string bytes, d) => bytes.length + uptoBulk d + 1
  | (_, d) => uptoBulk d + 1
 end
def uptoSmall : (H : Type) → List (DataW H) → Bool := fun _ ds => decide (uptoBulkAll ds ≤ 1048576)
def OpenSpec.upto (s : _root_.Go.ChangeSpec) : _root_.Go.OpenSpec := { _root_.Go.OpenSpec.ofChange s with cond := some uptoSmall }

/-- 'laws.FnExactLines', WHERE WHAT IT READS IS OF BULK AT MOST 1048576: true; the input reads as it did. -/
def fnExactLinesUptoRow : OpenClaim := { program := "ytlgoeiofachohaa", sum := "38070a5c95f6c9778519a43419e64dc7b0c7402c7704b8c29917bf5ba733d679", func := "loop.example/lib-g03416/laws.FnExactLines", spec := "fnExactLines", inPlace := ["internal/bytealg.IndexByte"], unfollowed := true, recurses := true, apart := false, narrowed := true }
def FnExactLinesUptoSaid : Prop := fnExactLinesUptoRow.holds Try.pinned (OpenSpec.upto fnExactLinesSpec)

/-- 'laws.FnLinesGlue', WHERE WHAT IT READS IS OF BULK AT MOST 1048576: true; the input reads as it did. -/
def fnLinesGlueUptoRow : OpenClaim := { program := "ytlgoeiofachohaa", sum := "38070a5c95f6c9778519a43419e64dc7b0c7402c7704b8c29917bf5ba733d679", func := "loop.example/lib-g03416/laws.FnLinesGlue", spec := "fnLinesGlue", inPlace := ["internal/bytealg.IndexByte"], unfollowed := true, recurses := true, apart := false, narrowed := true }
def FnLinesGlueUptoSaid : Prop := fnLinesGlueUptoRow.holds Try.pinned (OpenSpec.upto fnLinesGlueSpec)

/-- 'laws.FnJoinIs', WHERE WHAT IT READS IS OF BULK AT MOST 1048576: true; the input reads as it did. -/
def fnJoinIsUptoRow : OpenClaim := { program := "ytlgoeiofachohaa", sum := "38070a5c95f6c9778519a43419e64dc7b0c7402c7704b8c29917bf5ba733d679", func := "loop.example/lib-g03416/laws.FnJoinIs", spec := "fnJoinIs", inPlace := ["internal/bytealg.MakeNoZero"], apart := false, narrowed := true }
def FnJoinIsUptoSaid : Prop := fnJoinIsUptoRow.holds Try.pinned (OpenSpec.upto fnJoinIsSpec)

/-- 'laws.FnJoinTwo', WHERE WHAT IT READS IS OF BULK AT MOST 1048576: true; the input reads as it did. -/
def fnJoinTwoUptoRow : OpenClaim := { program := "ytlgoeiofachohaa", sum := "38070a5c95f6c9778519a43419e64dc7b0c7402c7704b8c29917bf5ba733d679", func := "loop.example/lib-g03416/laws.FnJoinTwo", spec := "fnJoinTwo", inPlace := ["internal/bytealg.MakeNoZero"], apart := false, narrowed := true }
def FnJoinTwoUptoSaid : Prop := fnJoinTwoUptoRow.holds Try.pinned (OpenSpec.upto fnJoinTwoSpec)

/-- 'laws.FnJoinLength', WHERE WHAT IT READS IS OF BULK AT MOST 1048576: true; the input reads as it did. -/
def fnJoinLengthUptoRow : OpenClaim := { program := "ytlgoeiofachohaa", sum := "38070a5c95f6c9778519a43419e64dc7b0c7402c7704b8c29917bf5ba733d679", func := "loop.example/lib-g03416/laws.FnJoinLength", spec := "fnJoinLength", inPlace := ["internal/bytealg.MakeNoZero"], apart := false, narrowed := true }
def FnJoinLengthUptoSaid : Prop := fnJoinLengthUptoRow.holds Try.pinned (OpenSpec.upto fnJoinLengthSpec)

/-- 'laws.FnRepeatIs', WHERE WHAT IT READS IS OF BULK AT MOST 1048576: true; the input reads as it did. -/
def fnRepeatIsUptoRow : OpenClaim := { program := "ytlgoeiofachohaa", sum := "38070a5c95f6c9778519a43419e64dc7b0c7402c7704b8c29917bf5ba733d679", func := "loop.example/lib-g03416/laws.FnRepeatIs", spec := "fnRepeatIs", inPlace := ["internal/bytealg.MakeNoZero"], unfollowed := true, recurses := true, apart := false, narrowed := true }
def FnRepeatIsUptoSaid : Prop := fnRepeatIsUptoRow.holds Try.pinned (OpenSpec.upto fnRepeatIsSpec)

/-- 'laws.FnRepeatSum', WHERE WHAT IT READS IS OF BULK AT MOST 1048576: true; the input reads as it did. -/
def fnRepeatSumUptoRow : OpenClaim := { program := "ytlgoeiofachohaa", sum := "38070a5c95f6c9778519a43419e64dc7b0c7402c7704b8c29917bf5ba733d679", func := "loop.example/lib-g03416/laws.FnRepeatSum", spec := "fnRepeatSum", inPlace := ["internal/bytealg.MakeNoZero"], unfollowed := true, recurses := true, apart := false, narrowed := true }
def FnRepeatSumUptoSaid : Prop := fnRepeatSumUptoRow.holds Try.pinned (OpenSpec.upto fnRepeatSumSpec)

/-- 'laws.FnRepeatJoin', WHERE WHAT IT READS IS OF BULK AT MOST 1048576: true; the input reads as it did. -/
def fnRepeatJoinUptoRow : OpenClaim := { program := "ytlgoeiofachohaa", sum := "38070a5c95f6c9778519a43419e64dc7b0c7402c7704b8c29917bf5ba733d679", func := "loop.example/lib-g03416/laws.FnRepeatJoin", spec := "fnRepeatJoin", inPlace := ["internal/bytealg.MakeNoZero"], unfollowed := true, recurses := true, apart := false, narrowed := true }
def FnRepeatJoinUptoSaid : Prop := fnRepeatJoinUptoRow.holds Try.pinned (OpenSpec.upto fnRepeatJoinSpec)

end Rows
end Go.Proofs.Ytlgoeiofachohaa
