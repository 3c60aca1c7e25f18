/-
  No cell of these rows narrows 'for every input' (looked for: loops, veiled, ifaces, maps, wideKeys, modest, calm, conditions, laid).
  DERIVED. THE GIVEN ROWS OF THIS SEAT. 12 by the template 'for every input the law returns true; each argument reads behind the call as it read before'; 0 by the template 'total and deterministic' (their statements: YtemlijpkdccflaaTotals.lean).
  GIVEN WITH THE SEED: the statements are not yours to turn. If you find one false, say at which input.
  Laid BY PROGRAM, IN A SANDBOX (cutbox-rows.mjs): the forced cells as the released guide's own fill.sh prints them over the translation daca034a81038bb9… (all of the seat's roots in one cut). By AI agents, Wed Nov 11 2026. No macro, syntax, notation, axiom, sorry.
-/
import Derived.Test.YtemlijpkdccflaaChecked
import GoSem.Claim
import GoSem.ClaimJoined
import GoSem.ClaimMapViews
import Derived.JoinedTies
import Derived.KernelRfl
namespace Go.Proofs.Ytemlijpkdccflaa
/- THE CELL 'sum', in the pinned program and in every row, IS THE sha256 OF THE DUMP (.gsa) THAT YtemlijpkdccflaaProg.lean LOADS. Nothing in Lean hashes anything: it is a label: what it is worth is what the hold of that sum in a sandbox is worth. -/
noncomputable def Try.pinned : Pinned := { name := "ytemlijpkdccflaa", sum := "daca034a81038bb91f3907eb91bf91a617799f6e58a26fb88901a2d48f417588", checked := Try.checked }
namespace Rows
def none {H : Type} : Left H := { results := [], args := [] }

/-- 'laws.FnCompareFront': WHATEVER THE INPUT: true; the input reads as it did. -/
def fnCompareFrontSpec : ChangeSpec := { name := "fnCompareFront", fn := fun _ => fun
  | [d1, d2, d3] => { results := [.lit (.bool true)], args := [d1, d2, d3] }
  | _ => none }
def fnCompareFrontRow : OpenClaim := { program := "ytemlijpkdccflaa", sum := "daca034a81038bb91f3907eb91bf91a617799f6e58a26fb88901a2d48f417588", func := "loop.example/lib-g03416/laws.FnCompareFront", spec := "fnCompareFront", inPlace := ["internal/bytealg.Compare"], apart := false }
def FnCompareFrontSaid : Prop := fnCompareFrontRow.holds Try.pinned (OpenSpec.ofChange fnCompareFrontSpec)

/-- ITS FALSE NEIGHBOUR: 'it returns false'. Refute it at one input. -/
def fnCompareFrontWrong : ChangeSpec := { name := "fnCompareFront", fn := fun _ => fun
  | [d1, d2, d3] => { results := [.lit (.bool false)], args := [d1, d2, d3] }
  | _ => none }
def FnCompareFrontWrongFalsely : Prop := fnCompareFrontRow.holds Try.pinned (OpenSpec.ofChange fnCompareFrontWrong)

/-- 'laws.FnCompareOrder': WHATEVER THE INPUT: true; the input reads as it did. -/
def fnCompareOrderSpec : ChangeSpec := { name := "fnCompareOrder", fn := fun _ => fun
  | [d1, d2, d3] => { results := [.lit (.bool true)], args := [d1, d2, d3] }
  | _ => none }
def fnCompareOrderRow : OpenClaim := { program := "ytemlijpkdccflaa", sum := "daca034a81038bb91f3907eb91bf91a617799f6e58a26fb88901a2d48f417588", func := "loop.example/lib-g03416/laws.FnCompareOrder", spec := "fnCompareOrder", inPlace := ["internal/bytealg.Compare"], apart := false }
def FnCompareOrderSaid : Prop := fnCompareOrderRow.holds Try.pinned (OpenSpec.ofChange fnCompareOrderSpec)

/-- ITS FALSE NEIGHBOUR: 'it returns false'. Refute it at one input. -/
def fnCompareOrderWrong : ChangeSpec := { name := "fnCompareOrder", fn := fun _ => fun
  | [d1, d2, d3] => { results := [.lit (.bool false)], args := [d1, d2, d3] }
  | _ => none }
def FnCompareOrderWrongFalsely : Prop := fnCompareOrderRow.holds Try.pinned (OpenSpec.ofChange fnCompareOrderWrong)

/-- 'laws.FnExactCompare': WHATEVER THE INPUT: true; the input reads as it did. -/
def fnExactCompareSpec : ChangeSpec := { name := "fnExactCompare", fn := fun _ => fun
  | [d1, d2] => { results := [.lit (.bool true)], args := [d1, d2] }
  | _ => none }
def fnExactCompareRow : OpenClaim := { program := "ytemlijpkdccflaa", sum := "daca034a81038bb91f3907eb91bf91a617799f6e58a26fb88901a2d48f417588", func := "loop.example/lib-g03416/laws.FnExactCompare", spec := "fnExactCompare", inPlace := ["internal/bytealg.Compare"], apart := false }
def FnExactCompareSaid : Prop := fnExactCompareRow.holds Try.pinned (OpenSpec.ofChange fnExactCompareSpec)

/-- ITS FALSE NEIGHBOUR: 'it returns false'. Refute it at one input. -/
def fnExactCompareWrong : ChangeSpec := { name := "fnExactCompare", fn := fun _ => fun
  | [d1, d2] => { results := [.lit (.bool false)], args := [d1, d2] }
  | _ => none }
def FnExactCompareWrongFalsely : Prop := fnExactCompareRow.holds Try.pinned (OpenSpec.ofChange fnExactCompareWrong)

/-- 'laws.FnExactIndexByte': WHATEVER THE INPUT: true; the input reads as it did. -/
def fnExactIndexByteSpec : ChangeSpec := { name := "fnExactIndexByte", fn := fun _ => fun
  | [d1, d2] => { results := [.lit (.bool true)], args := [d1, d2] }
  | _ => none }
def fnExactIndexByteRow : OpenClaim := { program := "ytemlijpkdccflaa", sum := "daca034a81038bb91f3907eb91bf91a617799f6e58a26fb88901a2d48f417588", func := "loop.example/lib-g03416/laws.FnExactIndexByte", spec := "fnExactIndexByte", inPlace := ["internal/bytealg.IndexByte"], apart := false }
def FnExactIndexByteSaid : Prop := fnExactIndexByteRow.holds Try.pinned (OpenSpec.ofChange fnExactIndexByteSpec)

/-- ITS FALSE NEIGHBOUR: 'it returns false'. Refute it at one input. -/
def fnExactIndexByteWrong : ChangeSpec := { name := "fnExactIndexByte", fn := fun _ => fun
  | [d1, d2] => { results := [.lit (.bool false)], args := [d1, d2] }
  | _ => none }
def FnExactIndexByteWrongFalsely : Prop := fnExactIndexByteRow.holds Try.pinned (OpenSpec.ofChange fnExactIndexByteWrong)

/-- 'laws.FnExactEqual': WHATEVER THE INPUT: true; the input reads as it did. -/
def fnExactEqualSpec : ChangeSpec := { name := "fnExactEqual", fn := fun _ => fun
  | [d1, d2] => { results := [.lit (.bool true)], args := [d1, d2] }
  | _ => none }
def fnExactEqualRow : OpenClaim := { program := "ytemlijpkdccflaa", sum := "daca034a81038bb91f3907eb91bf91a617799f6e58a26fb88901a2d48f417588", func := "loop.example/lib-g03416/laws.FnExactEqual", spec := "fnExactEqual", apart := false }
def FnExactEqualSaid : Prop := fnExactEqualRow.holds Try.pinned (OpenSpec.ofChange fnExactEqualSpec)

/-- ITS FALSE NEIGHBOUR: 'it returns false'. Refute it at one input. -/
def fnExactEqualWrong : ChangeSpec := { name := "fnExactEqual", fn := fun _ => fun
  | [d1, d2] => { results := [.lit (.bool false)], args := [d1, d2] }
  | _ => none }
def FnExactEqualWrongFalsely : Prop := fnExactEqualRow.holds Try.pinned (OpenSpec.ofChange fnExactEqualWrong)

/-- 'laws.FnExactHasPrefix': WHATEVER THE INPUT: true; the input reads as it did. -/
def fnExactHasPrefixSpec : ChangeSpec := { name := "fnExactHasPrefix", fn := fun _ => fun
  | [d1, d2] => { results := [.lit (.bool true)], args := [d1, d2] }
  | _ => none }
def fnExactHasPrefixRow : OpenClaim := { program := "ytemlijpkdccflaa", sum := "daca034a81038bb91f3907eb91bf91a617799f6e58a26fb88901a2d48f417588", func := "loop.example/lib-g03416/laws.FnExactHasPrefix", spec := "fnExactHasPrefix", apart := false }
def FnExactHasPrefixSaid : Prop := fnExactHasPrefixRow.holds Try.pinned (OpenSpec.ofChange fnExactHasPrefixSpec)

/-- ITS FALSE NEIGHBOUR: 'it returns false'. Refute it at one input. -/
def fnExactHasPrefixWrong : ChangeSpec := { name := "fnExactHasPrefix", fn := fun _ => fun
  | [d1, d2] => { results := [.lit (.bool false)], args := [d1, d2] }
  | _ => none }
def FnExactHasPrefixWrongFalsely : Prop := fnExactHasPrefixRow.holds Try.pinned (OpenSpec.ofChange fnExactHasPrefixWrong)

/-- 'laws.FnExactHasSuffix': WHATEVER THE INPUT: true; the input reads as it did. -/
def fnExactHasSuffixSpec : ChangeSpec := { name := "fnExactHasSuffix", fn := fun _ => fun
  | [d1, d2] => { results := [.lit (.bool true)], args := [d1, d2] }
  | _ => none }
def fnExactHasSuffixRow : OpenClaim := { program := "ytemlijpkdccflaa", sum := "daca034a81038bb91f3907eb91bf91a617799f6e58a26fb88901a2d48f417588", func := "loop.example/lib-g03416/laws.FnExactHasSuffix", spec := "fnExactHasSuffix", apart := false }
def FnExactHasSuffixSaid : Prop := fnExactHasSuffixRow.holds Try.pinned (OpenSpec.ofChange fnExactHasSuffixSpec)

/-- ITS FALSE NEIGHBOUR: 'it returns false'. Refute it at one input. -/
def fnExactHasSuffixWrong : ChangeSpec := { name := "fnExactHasSuffix", fn := fun _ => fun
  | [d1, d2] => { results := [.lit (.bool false)], args := [d1, d2] }
  | _ => none }
def FnExactHasSuffixWrongFalsely : Prop := fnExactHasSuffixRow.holds Try.pinned (OpenSpec.ofChange fnExactHasSuffixWrong)

/-- 'laws.FnExactLastIndexByte': WHATEVER THE INPUT: true; the input reads as it did. -/
def fnExactLastIndexByteSpec : ChangeSpec := { name := "fnExactLastIndexByte", fn := fun _ => fun
  | [d1, d2] => { results := [.lit (.bool true)], args := [d1, d2] }
  | _ => none }
def fnExactLastIndexByteRow : OpenClaim := { program := "ytemlijpkdccflaa", sum := "daca034a81038bb91f3907eb91bf91a617799f6e58a26fb88901a2d48f417588", func := "loop.example/lib-g03416/laws.FnExactLastIndexByte", spec := "fnExactLastIndexByte", apart := false }
def FnExactLastIndexByteSaid : Prop := fnExactLastIndexByteRow.holds Try.pinned (OpenSpec.ofChange fnExactLastIndexByteSpec)

/-- ITS FALSE NEIGHBOUR: 'it returns false'. Refute it at one input. -/
def fnExactLastIndexByteWrong : ChangeSpec := { name := "fnExactLastIndexByte", fn := fun _ => fun
  | [d1, d2] => { results := [.lit (.bool false)], args := [d1, d2] }
  | _ => none }
def FnExactLastIndexByteWrongFalsely : Prop := fnExactLastIndexByteRow.holds Try.pinned (OpenSpec.ofChange fnExactLastIndexByteWrong)

/-- 'laws.FnExactTrimPrefix': WHATEVER THE INPUT: true; the input reads as it did. -/
def fnExactTrimPrefixSpec : ChangeSpec := { name := "fnExactTrimPrefix", fn := fun _ => fun
  | [d1, d2] => { results := [.lit (.bool true)], args := [d1, d2] }
  | _ => none }
def fnExactTrimPrefixRow : OpenClaim := { program := "ytemlijpkdccflaa", sum := "daca034a81038bb91f3907eb91bf91a617799f6e58a26fb88901a2d48f417588", func := "loop.example/lib-g03416/laws.FnExactTrimPrefix", spec := "fnExactTrimPrefix", apart := false }
def FnExactTrimPrefixSaid : Prop := fnExactTrimPrefixRow.holds Try.pinned (OpenSpec.ofChange fnExactTrimPrefixSpec)

/-- ITS FALSE NEIGHBOUR: 'it returns false'. Refute it at one input. -/
def fnExactTrimPrefixWrong : ChangeSpec := { name := "fnExactTrimPrefix", fn := fun _ => fun
  | [d1, d2] => { results := [.lit (.bool false)], args := [d1, d2] }
  | _ => none }
def FnExactTrimPrefixWrongFalsely : Prop := fnExactTrimPrefixRow.holds Try.pinned (OpenSpec.ofChange fnExactTrimPrefixWrong)

/-- 'laws.FnExactTrimSuffix': WHATEVER THE INPUT: true; the input reads as it did. -/
def fnExactTrimSuffixSpec : ChangeSpec := { name := "fnExactTrimSuffix", fn := fun _ => fun
  | [d1, d2] => { results := [.lit (.bool true)], args := [d1, d2] }
  | _ => none }
def fnExactTrimSuffixRow : OpenClaim := { program := "ytemlijpkdccflaa", sum := "daca034a81038bb91f3907eb91bf91a617799f6e58a26fb88901a2d48f417588", func := "loop.example/lib-g03416/laws.FnExactTrimSuffix", spec := "fnExactTrimSuffix", apart := false }
def FnExactTrimSuffixSaid : Prop := fnExactTrimSuffixRow.holds Try.pinned (OpenSpec.ofChange fnExactTrimSuffixSpec)

/-- ITS FALSE NEIGHBOUR: 'it returns false'. Refute it at one input. -/
def fnExactTrimSuffixWrong : ChangeSpec := { name := "fnExactTrimSuffix", fn := fun _ => fun
  | [d1, d2] => { results := [.lit (.bool false)], args := [d1, d2] }
  | _ => none }
def FnExactTrimSuffixWrongFalsely : Prop := fnExactTrimSuffixRow.holds Try.pinned (OpenSpec.ofChange fnExactTrimSuffixWrong)

/-- 'laws.FnExactCutPrefix': WHATEVER THE INPUT: true; the input reads as it did. -/
def fnExactCutPrefixSpec : ChangeSpec := { name := "fnExactCutPrefix", fn := fun _ => fun
  | [d1, d2] => { results := [.lit (.bool true)], args := [d1, d2] }
  | _ => none }
def fnExactCutPrefixRow : OpenClaim := { program := "ytemlijpkdccflaa", sum := "daca034a81038bb91f3907eb91bf91a617799f6e58a26fb88901a2d48f417588", func := "loop.example/lib-g03416/laws.FnExactCutPrefix", spec := "fnExactCutPrefix", apart := false }
def FnExactCutPrefixSaid : Prop := fnExactCutPrefixRow.holds Try.pinned (OpenSpec.ofChange fnExactCutPrefixSpec)

/-- ITS FALSE NEIGHBOUR: 'it returns false'. Refute it at one input. -/
def fnExactCutPrefixWrong : ChangeSpec := { name := "fnExactCutPrefix", fn := fun _ => fun
  | [d1, d2] => { results := [.lit (.bool false)], args := [d1, d2] }
  | _ => none }
def FnExactCutPrefixWrongFalsely : Prop := fnExactCutPrefixRow.holds Try.pinned (OpenSpec.ofChange fnExactCutPrefixWrong)

/-- 'laws.FnExactCutSuffix': WHATEVER THE INPUT: true; the input reads as it did. -/
def fnExactCutSuffixSpec : ChangeSpec := { name := "fnExactCutSuffix", fn := fun _ => fun
  | [d1, d2] => { results := [.lit (.bool true)], args := [d1, d2] }
  | _ => none }
def fnExactCutSuffixRow : OpenClaim := { program := "ytemlijpkdccflaa", sum := "daca034a81038bb91f3907eb91bf91a617799f6e58a26fb88901a2d48f417588", func := "loop.example/lib-g03416/laws.FnExactCutSuffix", spec := "fnExactCutSuffix", apart := false }
def FnExactCutSuffixSaid : Prop := fnExactCutSuffixRow.holds Try.pinned (OpenSpec.ofChange fnExactCutSuffixSpec)

/-- ITS FALSE NEIGHBOUR: 'it returns false'. Refute it at one input. -/
def fnExactCutSuffixWrong : ChangeSpec := { name := "fnExactCutSuffix", fn := fun _ => fun
  | [d1, d2] => { results := [.lit (.bool false)], args := [d1, d2] }
  | _ => none }
def FnExactCutSuffixWrongFalsely : Prop := fnExactCutSuffixRow.holds Try.pinned (OpenSpec.ofChange fnExactCutSuffixWrong)

/- THE SECOND FORM. 'bulk': how many values and letters a reading holds, each counted each time it is reached (what is shared counts as often as it is met; a slice's spare places count too). A statement '..UptoSaid' is the law's where the arguments, and the package variables that the reading takes, are together of bulk at most 1048576: NARROWER than '..Said'. Prove '..Said' where nothing that the law and all that it calls make is longer than what came in: it says more and counts as full. Else prove '..UptoSaid'. A law counts once. -/
mutual
def uptoBulk {H : Type} : DataW H → Nat
  | .lit (.string bytes) => bytes.length + 1
  | .lit _ => 1
  | .nil => 1
  | .ptr d => uptoBulk d + 1
  | .slice elems spare => uptoBulkAll elems + uptoBulkAll spare + 1
  | .agg parts => uptoBulkAll parts + 1
  | .iface _ d => uptoBulk d + 1
  | .map entries => uptoBulkEntries entries + 1
  | .held _ => 1
def uptoBulkAll {H : Type} : List (DataW H) → Nat
  | [] => 0
  | d :: r => uptoBulk d + uptoBulkAll r
def uptoBulkEntries {H : Type} : List (Lit × DataW H) → Nat
  | [] => 0
  | x :: r => uptoBulkEntry x + uptoBulkEntries r
def uptoBulkEntry {H : Type} : Lit × DataW H → Nat
  | (.string bytes, d) => bytes.length + uptoBulk d + 1
  | (_, d) => uptoBulk d + 1
 end
def uptoSmall : (H : Type) → List (DataW H) → Bool := fun _ ds => decide (uptoBulkAll ds ≤ 1048576)
def OpenSpec.upto (s : _root_.Go.ChangeSpec) : _root_.Go.OpenSpec := { _root_.Go.OpenSpec.ofChange s with cond := some uptoSmall }

/-- 'laws.FnCompareFront', WHERE WHAT IT READS IS OF BULK AT MOST 1048576: true; the input reads as it did. -/
def fnCompareFrontUptoRow : OpenClaim := { program := "ytemlijpkdccflaa", sum := "daca034a81038bb91f3907eb91bf91a617799f6e58a26fb88901a2d48f417588", func := "loop.example/lib-g03416/laws.FnCompareFront", spec := "fnCompareFront", inPlace := ["internal/bytealg.Compare"], apart := false, narrowed := true }
def FnCompareFrontUptoSaid : Prop := fnCompareFrontUptoRow.holds Try.pinned (OpenSpec.upto fnCompareFrontSpec)

/-- 'laws.FnCompareOrder', WHERE WHAT IT READS IS OF BULK AT MOST 1048576: true; the input reads as it did. -/
def fnCompareOrderUptoRow : OpenClaim := { program := "ytemlijpkdccflaa", sum := "daca034a81038bb91f3907eb91bf91a617799f6e58a26fb88901a2d48f417588", func := "loop.example/lib-g03416/laws.FnCompareOrder", spec := "fnCompareOrder", inPlace := ["internal/bytealg.Compare"], apart := false, narrowed := true }
def FnCompareOrderUptoSaid : Prop := fnCompareOrderUptoRow.holds Try.pinned (OpenSpec.upto fnCompareOrderSpec)

/-- 'laws.FnExactCompare', WHERE WHAT IT READS IS OF BULK AT MOST 1048576: true; the input reads as it did. -/
def fnExactCompareUptoRow : OpenClaim := { program := "ytemlijpkdccflaa", sum := "daca034a81038bb91f3907eb91bf91a617799f6e58a26fb88901a2d48f417588", func := "loop.example/lib-g03416/laws.FnExactCompare", spec := "fnExactCompare", inPlace := ["internal/bytealg.Compare"], apart := false, narrowed := true }
def FnExactCompareUptoSaid : Prop := fnExactCompareUptoRow.holds Try.pinned (OpenSpec.upto fnExactCompareSpec)

/-- 'laws.FnExactIndexByte', WHERE WHAT IT READS IS OF BULK AT MOST 1048576: true; the input reads as it did. -/
def fnExactIndexByteUptoRow : OpenClaim := { program := "ytemlijpkdccflaa", sum := "daca034a81038bb91f3907eb91bf91a617799f6e58a26fb88901a2d48f417588", func := "loop.example/lib-g03416/laws.FnExactIndexByte", spec := "fnExactIndexByte", inPlace := ["internal/bytealg.IndexByte"], apart := false, narrowed := true }
def FnExactIndexByteUptoSaid : Prop := fnExactIndexByteUptoRow.holds Try.pinned (OpenSpec.upto fnExactIndexByteSpec)

/-- 'laws.FnExactEqual', WHERE WHAT IT READS IS OF BULK AT MOST 1048576: true; the input reads as it did. -/
def fnExactEqualUptoRow : OpenClaim := { program := "ytemlijpkdccflaa", sum := "daca034a81038bb91f3907eb91bf91a617799f6e58a26fb88901a2d48f417588", func := "loop.example/lib-g03416/laws.FnExactEqual", spec := "fnExactEqual", apart := false, narrowed := true }
def FnExactEqualUptoSaid : Prop := fnExactEqualUptoRow.holds Try.pinned (OpenSpec.upto fnExactEqualSpec)

/-- 'laws.FnExactHasPrefix', WHERE WHAT IT READS IS OF BULK AT MOST 1048576: true; the input reads as it did. -/
def fnExactHasPrefixUptoRow : OpenClaim := { program := "ytemlijpkdccflaa", sum := "daca034a81038bb91f3907eb91bf91a617799f6e58a26fb88901a2d48f417588", func := "loop.example/lib-g03416/laws.FnExactHasPrefix", spec := "fnExactHasPrefix", apart := false, narrowed := true }
def FnExactHasPrefixUptoSaid : Prop := fnExactHasPrefixUptoRow.holds Try.pinned (OpenSpec.upto fnExactHasPrefixSpec)

/-- 'laws.FnExactHasSuffix', WHERE WHAT IT READS IS OF BULK AT MOST 1048576: true; the input reads as it did. -/
def fnExactHasSuffixUptoRow : OpenClaim := { program := "ytemlijpkdccflaa", sum := "daca034a81038bb91f3907eb91bf91a617799f6e58a26fb88901a2d48f417588", func := "loop.example/lib-g03416/laws.FnExactHasSuffix", spec := "fnExactHasSuffix", apart := false, narrowed := true }
def FnExactHasSuffixUptoSaid : Prop := fnExactHasSuffixUptoRow.holds Try.pinned (OpenSpec.upto fnExactHasSuffixSpec)

/-- 'laws.FnExactLastIndexByte', WHERE WHAT IT READS IS OF BULK AT MOST 1048576: true; the input reads as it did. -/
def fnExactLastIndexByteUptoRow : OpenClaim := { program := "ytemlijpkdccflaa", sum := "daca034a81038bb91f3907eb91bf91a617799f6e58a26fb88901a2d48f417588", func := "loop.example/lib-g03416/laws.FnExactLastIndexByte", spec := "fnExactLastIndexByte", apart := false, narrowed := true }
def FnExactLastIndexByteUptoSaid : Prop := fnExactLastIndexByteUptoRow.holds Try.pinned (OpenSpec.upto fnExactLastIndexByteSpec)

/-- 'laws.FnExactTrimPrefix', WHERE WHAT IT READS IS OF BULK AT MOST 1048576: true; the input reads as it did. -/
def fnExactTrimPrefixUptoRow : OpenClaim := { program := "ytemlijpkdccflaa", sum := "daca034a81038bb91f3907eb91bf91a617799f6e58a26fb88901a2d48f417588", func := "loop.example/lib-g03416/laws.FnExactTrimPrefix", spec := "fnExactTrimPrefix", apart := false, narrowed := true }
def FnExactTrimPrefixUptoSaid : Prop := fnExactTrimPrefixUptoRow.holds Try.pinned (OpenSpec.upto fnExactTrimPrefixSpec)

/-- 'laws.FnExactTrimSuffix', WHERE WHAT IT READS IS OF BULK AT MOST 1048576: true; the input reads as it did. -/
def fnExactTrimSuffixUptoRow : OpenClaim := { program := "ytemlijpkdccflaa", sum := "daca034a81038bb91f3907eb91bf91a617799f6e58a26fb88901a2d48f417588", func := "loop.example/lib-g03416/laws.FnExactTrimSuffix", spec := "fnExactTrimSuffix", apart := false, narrowed := true }
def FnExactTrimSuffixUptoSaid : Prop := fnExactTrimSuffixUptoRow.holds Try.pinned (OpenSpec.upto fnExactTrimSuffixSpec)

/-- 'laws.FnExactCutPrefix', WHERE WHAT IT READS IS OF BULK AT MOST 1048576: true; the input reads as it did. -/
def fnExactCutPrefixUptoRow : OpenClaim := { program := "ytemlijpkdccflaa", sum := "daca034a81038bb91f3907eb91bf91a617799f6e58a26fb88901a2d48f417588", func := "loop.example/lib-g03416/laws.FnExactCutPrefix", spec := "fnExactCutPrefix", apart := false, narrowed := true }
def FnExactCutPrefixUptoSaid : Prop := fnExactCutPrefixUptoRow.holds Try.pinned (OpenSpec.upto fnExactCutPrefixSpec)

/-- 'laws.FnExactCutSuffix', WHERE WHAT IT READS IS OF BULK AT MOST 1048576: true; the input reads as it did. -/
def fnExactCutSuffixUptoRow : OpenClaim := { program := "ytemlijpkdccflaa", sum := "daca034a81038bb91f3907eb91bf91a617799f6e58a26fb88901a2d48f417588", func := "loop.example/lib-g03416/laws.FnExactCutSuffix", spec := "fnExactCutSuffix", apart := false, narrowed := true }
def FnExactCutSuffixUptoSaid : Prop := fnExactCutSuffixUptoRow.holds Try.pinned (OpenSpec.upto fnExactCutSuffixSpec)

end Rows
end Go.Proofs.Ytemlijpkdccflaa
