/-
  No cell of these rows narrows 'for every input' (looked for: loops, veiled, ifaces, maps, wideKeys, modest, calm, conditions, laid).
  DERIVED. THE GIVEN ROWS OF THIS SEAT. 10 by the template 'for every input the law returns true; each argument reads behind the call as it read before'; 0 by the template 'total and deterministic' (their statements: YtakfghkbdijbiaaTotals.lean).
  GIVEN WITH THE SEED: the statements are not yours to turn. If you find one false, say at which input.
  Laid BY PROGRAM, IN A SANDBOX (cutbox-rows.mjs): the forced cells as the released guide's own fill.sh prints them over the translation badebbdb3ee66791… (all of the seat's roots in one cut). By AI agents, Wed Nov 11 2026. No macro, syntax, notation, axiom, sorry.
-/
import Derived.Test.YtakfghkbdijbiaaChecked
import GoSem.Claim
import GoSem.ClaimJoined
import GoSem.ClaimMapViews
import Derived.JoinedTies
import Derived.KernelRfl
namespace Go.Proofs.Ytakfghkbdijbiaa
/- THE CELL 'sum', in the pinned program and in every row, IS THE sha256 OF THE DUMP (.gsa) THAT YtakfghkbdijbiaaProg.lean LOADS. Nothing in Lean hashes anything: it is a label: what it is worth is what the hold of that sum in a sandbox is worth. -/
noncomputable def Try.pinned : Pinned := { name := "ytakfghkbdijbiaa", sum := "badebbdb3ee667910d816f8efd313baf2d4e46e9aae2af6de2b534db1f556046", checked := Try.checked }
namespace Rows
def none {H : Type} : Left H := { results := [], args := [] }

/-- 'laws.FnMovedBack': WHATEVER THE INPUT: true; the input reads as it did. -/
def fnMovedBackSpec : ChangeSpec := { name := "fnMovedBack", fn := fun _ => fun
  | [d1, d2, d3] => { results := [.lit (.bool true)], args := [d1, d2, d3] }
  | _ => none }
def fnMovedBackRow : OpenClaim := { program := "ytakfghkbdijbiaa", sum := "badebbdb3ee667910d816f8efd313baf2d4e46e9aae2af6de2b534db1f556046", func := "loop.example/lib-g01190/laws.FnMovedBack", spec := "fnMovedBack", apart := false }
def FnMovedBackSaid : Prop := fnMovedBackRow.holds Try.pinned (OpenSpec.ofChange fnMovedBackSpec)

/-- ITS FALSE NEIGHBOUR: 'it returns false'. Refute it at one input. -/
def fnMovedBackWrong : ChangeSpec := { name := "fnMovedBack", fn := fun _ => fun
  | [d1, d2, d3] => { results := [.lit (.bool false)], args := [d1, d2, d3] }
  | _ => none }
def FnMovedBackWrongFalsely : Prop := fnMovedBackRow.holds Try.pinned (OpenSpec.ofChange fnMovedBackWrong)

/-- 'laws.FnSizeRoads': WHATEVER THE INPUT: true; the input reads as it did. -/
def fnSizeRoadsSpec : ChangeSpec := { name := "fnSizeRoads", fn := fun _ => fun
  | [d] => { results := [.lit (.bool true)], args := [d] }
  | _ => none }
def fnSizeRoadsRow : OpenClaim := { program := "ytakfghkbdijbiaa", sum := "badebbdb3ee667910d816f8efd313baf2d4e46e9aae2af6de2b534db1f556046", func := "loop.example/lib-g01190/laws.FnSizeRoads", spec := "fnSizeRoads", apart := false }
def FnSizeRoadsSaid : Prop := fnSizeRoadsRow.holds Try.pinned (OpenSpec.ofChange fnSizeRoadsSpec)

/-- ITS FALSE NEIGHBOUR: 'it returns false'. Refute it at one input. -/
def fnSizeRoadsWrong : ChangeSpec := { name := "fnSizeRoads", fn := fun _ => fun
  | [d] => { results := [.lit (.bool false)], args := [d] }
  | _ => none }
def FnSizeRoadsWrongFalsely : Prop := fnSizeRoadsRow.holds Try.pinned (OpenSpec.ofChange fnSizeRoadsWrong)

/-- 'laws.FnSinglePoint': WHATEVER THE INPUT: true; the input reads as it did. -/
def fnSinglePointSpec : ChangeSpec := { name := "fnSinglePoint", fn := fun _ => fun
  | [d1, d2] => { results := [.lit (.bool true)], args := [d1, d2] }
  | _ => none }
def fnSinglePointRow : OpenClaim := { program := "ytakfghkbdijbiaa", sum := "badebbdb3ee667910d816f8efd313baf2d4e46e9aae2af6de2b534db1f556046", func := "loop.example/lib-g01190/laws.FnSinglePoint", spec := "fnSinglePoint", apart := false }
def FnSinglePointSaid : Prop := fnSinglePointRow.holds Try.pinned (OpenSpec.ofChange fnSinglePointSpec)

/-- ITS FALSE NEIGHBOUR: 'it returns false'. Refute it at one input. -/
def fnSinglePointWrong : ChangeSpec := { name := "fnSinglePoint", fn := fun _ => fun
  | [d1, d2] => { results := [.lit (.bool false)], args := [d1, d2] }
  | _ => none }
def FnSinglePointWrongFalsely : Prop := fnSinglePointRow.holds Try.pinned (OpenSpec.ofChange fnSinglePointWrong)

/-- 'laws.FnModSame': WHATEVER THE INPUT: true; the input reads as it did. -/
def fnModSameSpec : ChangeSpec := { name := "fnModSame", fn := fun _ => fun
  | [d1, d2, d3, d4] => { results := [.lit (.bool true)], args := [d1, d2, d3, d4] }
  | _ => none }
def fnModSameRow : OpenClaim := { program := "ytakfghkbdijbiaa", sum := "badebbdb3ee667910d816f8efd313baf2d4e46e9aae2af6de2b534db1f556046", func := "loop.example/lib-g01190/laws.FnModSame", spec := "fnModSame", apart := false }
def FnModSameSaid : Prop := fnModSameRow.holds Try.pinned (OpenSpec.ofChange fnModSameSpec)

/-- ITS FALSE NEIGHBOUR: 'it returns false'. Refute it at one input. -/
def fnModSameWrong : ChangeSpec := { name := "fnModSame", fn := fun _ => fun
  | [d1, d2, d3, d4] => { results := [.lit (.bool false)], args := [d1, d2, d3, d4] }
  | _ => none }
def FnModSameWrongFalsely : Prop := fnModSameRow.holds Try.pinned (OpenSpec.ofChange fnModSameWrong)

/-- 'laws.FnUnionWithPoint': WHATEVER THE INPUT: true; the input reads as it did. -/
def fnUnionWithPointSpec : ChangeSpec := { name := "fnUnionWithPoint", fn := fun _ => fun
  | [d1, d2] => { results := [.lit (.bool true)], args := [d1, d2] }
  | _ => none }
def fnUnionWithPointRow : OpenClaim := { program := "ytakfghkbdijbiaa", sum := "badebbdb3ee667910d816f8efd313baf2d4e46e9aae2af6de2b534db1f556046", func := "loop.example/lib-g01190/laws.FnUnionWithPoint", spec := "fnUnionWithPoint", apart := false }
def FnUnionWithPointSaid : Prop := fnUnionWithPointRow.holds Try.pinned (OpenSpec.ofChange fnUnionWithPointSpec)

/-- ITS FALSE NEIGHBOUR: 'it returns false'. Refute it at one input. -/
def fnUnionWithPointWrong : ChangeSpec := { name := "fnUnionWithPoint", fn := fun _ => fun
  | [d1, d2] => { results := [.lit (.bool false)], args := [d1, d2] }
  | _ => none }
def FnUnionWithPointWrongFalsely : Prop := fnUnionWithPointRow.holds Try.pinned (OpenSpec.ofChange fnUnionWithPointWrong)

/-- 'laws.FnInRoads': WHATEVER THE INPUT: true; the input reads as it did. -/
def fnInRoadsSpec : ChangeSpec := { name := "fnInRoads", fn := fun _ => fun
  | [d1, d2] => { results := [.lit (.bool true)], args := [d1, d2] }
  | _ => none }
def fnInRoadsRow : OpenClaim := { program := "ytakfghkbdijbiaa", sum := "badebbdb3ee667910d816f8efd313baf2d4e46e9aae2af6de2b534db1f556046", func := "loop.example/lib-g01190/laws.FnInRoads", spec := "fnInRoads", apart := false }
def FnInRoadsSaid : Prop := fnInRoadsRow.holds Try.pinned (OpenSpec.ofChange fnInRoadsSpec)

/-- ITS FALSE NEIGHBOUR: 'it returns false'. Refute it at one input. -/
def fnInRoadsWrong : ChangeSpec := { name := "fnInRoads", fn := fun _ => fun
  | [d1, d2] => { results := [.lit (.bool false)], args := [d1, d2] }
  | _ => none }
def FnInRoadsWrongFalsely : Prop := fnInRoadsRow.holds Try.pinned (OpenSpec.ofChange fnInRoadsWrong)

/-- 'laws.FnMoreUnion': WHATEVER THE INPUT: true; the input reads as it did. -/
def fnMoreUnionSpec : ChangeSpec := { name := "fnMoreUnion", fn := fun _ => fun
  | [d1, d2, d3] => { results := [.lit (.bool true)], args := [d1, d2, d3] }
  | _ => none }
def fnMoreUnionRow : OpenClaim := { program := "ytakfghkbdijbiaa", sum := "badebbdb3ee667910d816f8efd313baf2d4e46e9aae2af6de2b534db1f556046", func := "loop.example/lib-g01190/laws.FnMoreUnion", spec := "fnMoreUnion", apart := false }
def FnMoreUnionSaid : Prop := fnMoreUnionRow.holds Try.pinned (OpenSpec.ofChange fnMoreUnionSpec)

/-- ITS FALSE NEIGHBOUR: 'it returns false'. Refute it at one input. -/
def fnMoreUnionWrong : ChangeSpec := { name := "fnMoreUnion", fn := fun _ => fun
  | [d1, d2, d3] => { results := [.lit (.bool false)], args := [d1, d2, d3] }
  | _ => none }
def FnMoreUnionWrongFalsely : Prop := fnMoreUnionRow.holds Try.pinned (OpenSpec.ofChange fnMoreUnionWrong)

/-- 'laws.FnSplit': WHATEVER THE INPUT: true; the input reads as it did. -/
def fnSplitSpec : ChangeSpec := { name := "fnSplit", fn := fun _ => fun
  | [d1, d2, d3, d4] => { results := [.lit (.bool true)], args := [d1, d2, d3, d4] }
  | _ => none }
def fnSplitRow : OpenClaim := { program := "ytakfghkbdijbiaa", sum := "badebbdb3ee667910d816f8efd313baf2d4e46e9aae2af6de2b534db1f556046", func := "loop.example/lib-g01190/laws.FnSplit", spec := "fnSplit", apart := false }
def FnSplitSaid : Prop := fnSplitRow.holds Try.pinned (OpenSpec.ofChange fnSplitSpec)

/-- ITS FALSE NEIGHBOUR: 'it returns false'. Refute it at one input. -/
def fnSplitWrong : ChangeSpec := { name := "fnSplit", fn := fun _ => fun
  | [d1, d2, d3, d4] => { results := [.lit (.bool false)], args := [d1, d2, d3, d4] }
  | _ => none }
def FnSplitWrongFalsely : Prop := fnSplitRow.holds Try.pinned (OpenSpec.ofChange fnSplitWrong)

/-- 'laws.FnIntersectMoved': WHATEVER THE INPUT: true; the input reads as it did. -/
def fnIntersectMovedSpec : ChangeSpec := { name := "fnIntersectMoved", fn := fun _ => fun
  | [d1, d2, d3] => { results := [.lit (.bool true)], args := [d1, d2, d3] }
  | _ => none }
def fnIntersectMovedRow : OpenClaim := { program := "ytakfghkbdijbiaa", sum := "badebbdb3ee667910d816f8efd313baf2d4e46e9aae2af6de2b534db1f556046", func := "loop.example/lib-g01190/laws.FnIntersectMoved", spec := "fnIntersectMoved", apart := false }
def FnIntersectMovedSaid : Prop := fnIntersectMovedRow.holds Try.pinned (OpenSpec.ofChange fnIntersectMovedSpec)

/-- ITS FALSE NEIGHBOUR: 'it returns false'. Refute it at one input. -/
def fnIntersectMovedWrong : ChangeSpec := { name := "fnIntersectMoved", fn := fun _ => fun
  | [d1, d2, d3] => { results := [.lit (.bool false)], args := [d1, d2, d3] }
  | _ => none }
def FnIntersectMovedWrongFalsely : Prop := fnIntersectMovedRow.holds Try.pinned (OpenSpec.ofChange fnIntersectMovedWrong)

/-- 'laws.FnWellFormed': WHATEVER THE INPUT: true; the input reads as it did. -/
def fnWellFormedSpec : ChangeSpec := { name := "fnWellFormed", fn := fun _ => fun
  | [d1, d2, d3, d4] => { results := [.lit (.bool true)], args := [d1, d2, d3, d4] }
  | _ => none }
def fnWellFormedRow : OpenClaim := { program := "ytakfghkbdijbiaa", sum := "badebbdb3ee667910d816f8efd313baf2d4e46e9aae2af6de2b534db1f556046", func := "loop.example/lib-g01190/laws.FnWellFormed", spec := "fnWellFormed", apart := false }
def FnWellFormedSaid : Prop := fnWellFormedRow.holds Try.pinned (OpenSpec.ofChange fnWellFormedSpec)

/-- ITS FALSE NEIGHBOUR: 'it returns false'. Refute it at one input. -/
def fnWellFormedWrong : ChangeSpec := { name := "fnWellFormed", fn := fun _ => fun
  | [d1, d2, d3, d4] => { results := [.lit (.bool false)], args := [d1, d2, d3, d4] }
  | _ => none }
def FnWellFormedWrongFalsely : Prop := fnWellFormedRow.holds Try.pinned (OpenSpec.ofChange fnWellFormedWrong)

/- THE SECOND FORM. 'bulk': how many values and letters a reading holds, each counted each time it is reached (what is shared counts as often as it is met; a slice's spare places count too). A statement '..UptoSaid' is the law's where the arguments, and the package variables that the reading takes, are together of bulk at most 1048576: NARROWER than '..Said'. Prove '..Said' where nothing that the law and all that it calls make is longer than what came in: it says more and counts as full. Else prove '..UptoSaid'. A law counts once. -/
mutual
def uptoBulk {H : Type} : DataW H → Nat
  | .lit (.string bytes) => bytes.length + 1
  | .lit _ => 1
  | .nil => 1
  | .ptr d => uptoBulk d + 1
  | .slice elems spare => uptoBulkAll elems + uptoBulkAll spare + 1
  | .agg parts => uptoBulkAll parts + 1
  | .iface _ d => uptoBulk d + 1
  | .map entries => uptoBulkEntries entries + 1
  | .held _ => 1
def uptoBulkAll {H : Type} : List (DataW H) → Nat
  | [] => 0
  | d :: r => uptoBulk d + uptoBulkAll r
def uptoBulkEntries {H : Type} : List (Lit × DataW H) → Nat
  | [] => 0
  | x :: r => uptoBulkEntry x + uptoBulkEntries r
def uptoBulkEntry {H : Type} : Lit × DataW H → Nat
  | (.string bytes, d) => bytes.length + uptoBulk d + 1
  | (_, d) => uptoBulk d + 1
 end
def uptoSmall : (H : Type) → List (DataW H) → Bool := fun _ ds => decide (uptoBulkAll ds ≤ 1048576)
def OpenSpec.upto (s : _root_.Go.ChangeSpec) : _root_.Go.OpenSpec := { _root_.Go.OpenSpec.ofChange s with cond := some uptoSmall }

/-- 'laws.FnMovedBack', WHERE WHAT IT READS IS OF BULK AT MOST 1048576: true; the input reads as it did. -/
def fnMovedBackUptoRow : OpenClaim := { program := "ytakfghkbdijbiaa", sum := "badebbdb3ee667910d816f8efd313baf2d4e46e9aae2af6de2b534db1f556046", func := "loop.example/lib-g01190/laws.FnMovedBack", spec := "fnMovedBack", apart := false, narrowed := true }
def FnMovedBackUptoSaid : Prop := fnMovedBackUptoRow.holds Try.pinned (OpenSpec.upto fnMovedBackSpec)

/-- 'laws.FnSizeRoads', WHERE WHAT IT READS IS OF BULK AT MOST 1048576: true; the input reads as it did. -/
def fnSizeRoadsUptoRow : OpenClaim := { program := "ytakfghkbdijbiaa", sum := "badebbdb3ee667910d816f8efd313baf2d4e46e9aae2af6de2b534db1f556046", func := "loop.example/lib-g01190/laws.FnSizeRoads", spec := "fnSizeRoads", apart := false, narrowed := true }
def FnSizeRoadsUptoSaid : Prop := fnSizeRoadsUptoRow.holds Try.pinned (OpenSpec.upto fnSizeRoadsSpec)

/-- 'laws.FnSinglePoint', WHERE WHAT IT READS IS OF BULK AT MOST 1048576: true; the input reads as it did. -/
def fnSinglePointUptoRow : OpenClaim := { program := "ytakfghkbdijbiaa", sum := "badebbdb3ee667910d816f8efd313baf2d4e46e9aae2af6de2b534db1f556046", func := "loop.example/lib-g01190/laws.FnSinglePoint", spec := "fnSinglePoint", apart := false, narrowed := true }
def FnSinglePointUptoSaid : Prop := fnSinglePointUptoRow.holds Try.pinned (OpenSpec.upto fnSinglePointSpec)

/-- 'laws.FnModSame', WHERE WHAT IT READS IS OF BULK AT MOST 1048576: true; the input reads as it did. -/
def fnModSameUptoRow : OpenClaim := { program := "ytakfghkbdijbiaa", sum := "badebbdb3ee667910d816f8efd313baf2d4e46e9aae2af6de2b534db1f556046", func := "loop.example/lib-g01190/laws.FnModSame", spec := "fnModSame", apart := false, narrowed := true }
def FnModSameUptoSaid : Prop := fnModSameUptoRow.holds Try.pinned (OpenSpec.upto fnModSameSpec)

/-- 'laws.FnUnionWithPoint', WHERE WHAT IT READS IS OF BULK AT MOST 1048576: true; the input reads as it did. -/
def fnUnionWithPointUptoRow : OpenClaim := { program := "ytakfghkbdijbiaa", sum := "badebbdb3ee667910d816f8efd313baf2d4e46e9aae2af6de2b534db1f556046", func := "loop.example/lib-g01190/laws.FnUnionWithPoint", spec := "fnUnionWithPoint", apart := false, narrowed := true }
def FnUnionWithPointUptoSaid : Prop := fnUnionWithPointUptoRow.holds Try.pinned (OpenSpec.upto fnUnionWithPointSpec)

/-- 'laws.FnInRoads', WHERE WHAT IT READS IS OF BULK AT MOST 1048576: true; the input reads as it did. -/
def fnInRoadsUptoRow : OpenClaim := { program := "ytakfghkbdijbiaa", sum := "badebbdb3ee667910d816f8efd313baf2d4e46e9aae2af6de2b534db1f556046", func := "loop.example/lib-g01190/laws.FnInRoads", spec := "fnInRoads", apart := false, narrowed := true }
def FnInRoadsUptoSaid : Prop := fnInRoadsUptoRow.holds Try.pinned (OpenSpec.upto fnInRoadsSpec)

/-- 'laws.FnMoreUnion', WHERE WHAT IT READS IS OF BULK AT MOST 1048576: true; the input reads as it did. -/
def fnMoreUnionUptoRow : OpenClaim := { program := "ytakfghkbdijbiaa", sum := "badebbdb3ee667910d816f8efd313baf2d4e46e9aae2af6de2b534db1f556046", func := "loop.example/lib-g01190/laws.FnMoreUnion", spec := "fnMoreUnion", apart := false, narrowed := true }
def FnMoreUnionUptoSaid : Prop := fnMoreUnionUptoRow.holds Try.pinned (OpenSpec.upto fnMoreUnionSpec)

/-- 'laws.FnSplit', WHERE WHAT IT READS IS OF BULK AT MOST 1048576: true; the input reads as it did. -/
def fnSplitUptoRow : OpenClaim := { program := "ytakfghkbdijbiaa", sum := "badebbdb3ee667910d816f8efd313baf2d4e46e9aae2af6de2b534db1f556046", func := "loop.example/lib-g01190/laws.FnSplit", spec := "fnSplit", apart := false, narrowed := true }
def FnSplitUptoSaid : Prop := fnSplitUptoRow.holds Try.pinned (OpenSpec.upto fnSplitSpec)

/-- 'laws.FnIntersectMoved', WHERE WHAT IT READS IS OF BULK AT MOST 1048576: true; the input reads as it did. -/
def fnIntersectMovedUptoRow : OpenClaim := { program := "ytakfghkbdijbiaa", sum := "badebbdb3ee667910d816f8efd313baf2d4e46e9aae2af6de2b534db1f556046", func := "loop.example/lib-g01190/laws.FnIntersectMoved", spec := "fnIntersectMoved", apart := false, narrowed := true }
def FnIntersectMovedUptoSaid : Prop := fnIntersectMovedUptoRow.holds Try.pinned (OpenSpec.upto fnIntersectMovedSpec)

/-- 'laws.FnWellFormed', WHERE WHAT IT READS IS OF BULK AT MOST 1048576: true; the input reads as it did. -/
def fnWellFormedUptoRow : OpenClaim := { program := "ytakfghkbdijbiaa", sum := "badebbdb3ee667910d816f8efd313baf2d4e46e9aae2af6de2b534db1f556046", func := "loop.example/lib-g01190/laws.FnWellFormed", spec := "fnWellFormed", apart := false, narrowed := true }
def FnWellFormedUptoSaid : Prop := fnWellFormedUptoRow.holds Try.pinned (OpenSpec.upto fnWellFormedSpec)

end Rows
end Go.Proofs.Ytakfghkbdijbiaa
