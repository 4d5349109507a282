/-
  No cell of these rows narrows 'for every input' (looked for: loops, veiled, ifaces, maps, wideKeys, modest, calm, conditions, laid).
  DERIVED. THE GIVEN ROWS OF THIS SEAT. 12 by the template 'for every input the law returns true; each argument reads behind the call as it read before'; 0 by the template 'total and deterministic' (their statements: YtclcldmckcgoeaaTotals.lean).
  GIVEN WITH THE SEED: the statements are not yours to turn. If you find one false, say at which input.
  Laid BY PROGRAM, IN A SANDBOX (cutbox-rows.mjs): the forced cells as the released guide's own fill.sh prints them over the translation 8d49ea5cb287431f… (all of the seat's roots in one cut). By AI agents, Wed Nov 11 2026. No macro, syntax, notation, axiom, sorry.
-/
import Derived.Test.YtclcldmckcgoeaaChecked
import GoSem.Claim
import GoSem.ClaimJoined
import GoSem.ClaimMapViews
import Derived.JoinedTies
import Derived.KernelRfl
namespace Go.Proofs.Ytclcldmckcgoeaa
/- THE CELL 'sum', in the pinned program and in every row, IS THE sha256 OF THE DUMP (.gsa) THAT YtclcldmckcgoeaaProg.lean LOADS. Nothing in Lean hashes anything: it is a label: what it is worth is what the hold of that sum in a sandbox is worth. -/
noncomputable def Try.pinned : Pinned := { name := "ytclcldmckcgoeaa", sum := "8d49ea5cb287431f20e2ccd9fe2239f5ed00284d7df61908ed138e9dfbc6858b", checked := Try.checked }
namespace Rows
def none {H : Type} : Left H := { results := [], args := [] }

/-- 'laws.FnUnion': WHATEVER THE INPUT: true; the input reads as it did. -/
def fnUnionSpec : ChangeSpec := { name := "fnUnion", fn := fun _ => fun
  | [d1, d2] => { results := [.lit (.bool true)], args := [d1, d2] }
  | _ => none }
def fnUnionRow : OpenClaim := { program := "ytclcldmckcgoeaa", sum := "8d49ea5cb287431f20e2ccd9fe2239f5ed00284d7df61908ed138e9dfbc6858b", func := "loop.example/lib-g01190/laws.FnUnion", spec := "fnUnion", apart := false }
def FnUnionSaid : Prop := fnUnionRow.holds Try.pinned (OpenSpec.ofChange fnUnionSpec)

/-- ITS FALSE NEIGHBOUR: 'it returns false'. Refute it at one input. -/
def fnUnionWrong : ChangeSpec := { name := "fnUnion", fn := fun _ => fun
  | [d1, d2] => { results := [.lit (.bool false)], args := [d1, d2] }
  | _ => none }
def FnUnionWrongFalsely : Prop := fnUnionRow.holds Try.pinned (OpenSpec.ofChange fnUnionWrong)

/-- 'laws.FnUnionEmpty': WHATEVER THE INPUT: true; the input reads as it did. -/
def fnUnionEmptySpec : ChangeSpec := { name := "fnUnionEmpty", fn := fun _ => fun
  | [d1, d2] => { results := [.lit (.bool true)], args := [d1, d2] }
  | _ => none }
def fnUnionEmptyRow : OpenClaim := { program := "ytclcldmckcgoeaa", sum := "8d49ea5cb287431f20e2ccd9fe2239f5ed00284d7df61908ed138e9dfbc6858b", func := "loop.example/lib-g01190/laws.FnUnionEmpty", spec := "fnUnionEmpty", apart := false }
def FnUnionEmptySaid : Prop := fnUnionEmptyRow.holds Try.pinned (OpenSpec.ofChange fnUnionEmptySpec)

/-- ITS FALSE NEIGHBOUR: 'it returns false'. Refute it at one input. -/
def fnUnionEmptyWrong : ChangeSpec := { name := "fnUnionEmpty", fn := fun _ => fun
  | [d1, d2] => { results := [.lit (.bool false)], args := [d1, d2] }
  | _ => none }
def FnUnionEmptyWrongFalsely : Prop := fnUnionEmptyRow.holds Try.pinned (OpenSpec.ofChange fnUnionEmptyWrong)

/-- 'laws.FnExactRectIntersect': WHATEVER THE INPUT: true; the input reads as it did. -/
def fnExactRectIntersectSpec : ChangeSpec := { name := "fnExactRectIntersect", fn := fun _ => fun
  | [d1, d2] => { results := [.lit (.bool true)], args := [d1, d2] }
  | _ => none }
def fnExactRectIntersectRow : OpenClaim := { program := "ytclcldmckcgoeaa", sum := "8d49ea5cb287431f20e2ccd9fe2239f5ed00284d7df61908ed138e9dfbc6858b", func := "loop.example/lib-g01190/laws.FnExactRectIntersect", spec := "fnExactRectIntersect", apart := false }
def FnExactRectIntersectSaid : Prop := fnExactRectIntersectRow.holds Try.pinned (OpenSpec.ofChange fnExactRectIntersectSpec)

/-- ITS FALSE NEIGHBOUR: 'it returns false'. Refute it at one input. -/
def fnExactRectIntersectWrong : ChangeSpec := { name := "fnExactRectIntersect", fn := fun _ => fun
  | [d1, d2] => { results := [.lit (.bool false)], args := [d1, d2] }
  | _ => none }
def FnExactRectIntersectWrongFalsely : Prop := fnExactRectIntersectRow.holds Try.pinned (OpenSpec.ofChange fnExactRectIntersectWrong)

/-- 'laws.FnIntersectOrder': WHATEVER THE INPUT: true; the input reads as it did. -/
def fnIntersectOrderSpec : ChangeSpec := { name := "fnIntersectOrder", fn := fun _ => fun
  | [d1, d2, d3] => { results := [.lit (.bool true)], args := [d1, d2, d3] }
  | _ => none }
def fnIntersectOrderRow : OpenClaim := { program := "ytclcldmckcgoeaa", sum := "8d49ea5cb287431f20e2ccd9fe2239f5ed00284d7df61908ed138e9dfbc6858b", func := "loop.example/lib-g01190/laws.FnIntersectOrder", spec := "fnIntersectOrder", apart := false }
def FnIntersectOrderSaid : Prop := fnIntersectOrderRow.holds Try.pinned (OpenSpec.ofChange fnIntersectOrderSpec)

/-- ITS FALSE NEIGHBOUR: 'it returns false'. Refute it at one input. -/
def fnIntersectOrderWrong : ChangeSpec := { name := "fnIntersectOrder", fn := fun _ => fun
  | [d1, d2, d3] => { results := [.lit (.bool false)], args := [d1, d2, d3] }
  | _ => none }
def FnIntersectOrderWrongFalsely : Prop := fnIntersectOrderRow.holds Try.pinned (OpenSpec.ofChange fnIntersectOrderWrong)

/-- 'laws.FnUnionOrder': WHATEVER THE INPUT: true; the input reads as it did. -/
def fnUnionOrderSpec : ChangeSpec := { name := "fnUnionOrder", fn := fun _ => fun
  | [d1, d2, d3] => { results := [.lit (.bool true)], args := [d1, d2, d3] }
  | _ => none }
def fnUnionOrderRow : OpenClaim := { program := "ytclcldmckcgoeaa", sum := "8d49ea5cb287431f20e2ccd9fe2239f5ed00284d7df61908ed138e9dfbc6858b", func := "loop.example/lib-g01190/laws.FnUnionOrder", spec := "fnUnionOrder", apart := false }
def FnUnionOrderSaid : Prop := fnUnionOrderRow.holds Try.pinned (OpenSpec.ofChange fnUnionOrderSpec)

/-- ITS FALSE NEIGHBOUR: 'it returns false'. Refute it at one input. -/
def fnUnionOrderWrong : ChangeSpec := { name := "fnUnionOrder", fn := fun _ => fun
  | [d1, d2, d3] => { results := [.lit (.bool false)], args := [d1, d2, d3] }
  | _ => none }
def FnUnionOrderWrongFalsely : Prop := fnUnionOrderRow.holds Try.pinned (OpenSpec.ofChange fnUnionOrderWrong)

/-- 'laws.FnUnionSmallest': WHATEVER THE INPUT: true; the input reads as it did. -/
def fnUnionSmallestSpec : ChangeSpec := { name := "fnUnionSmallest", fn := fun _ => fun
  | [d1, d2, d3] => { results := [.lit (.bool true)], args := [d1, d2, d3] }
  | _ => none }
def fnUnionSmallestRow : OpenClaim := { program := "ytclcldmckcgoeaa", sum := "8d49ea5cb287431f20e2ccd9fe2239f5ed00284d7df61908ed138e9dfbc6858b", func := "loop.example/lib-g01190/laws.FnUnionSmallest", spec := "fnUnionSmallest", apart := false }
def FnUnionSmallestSaid : Prop := fnUnionSmallestRow.holds Try.pinned (OpenSpec.ofChange fnUnionSmallestSpec)

/-- ITS FALSE NEIGHBOUR: 'it returns false'. Refute it at one input. -/
def fnUnionSmallestWrong : ChangeSpec := { name := "fnUnionSmallest", fn := fun _ => fun
  | [d1, d2, d3] => { results := [.lit (.bool false)], args := [d1, d2, d3] }
  | _ => none }
def FnUnionSmallestWrongFalsely : Prop := fnUnionSmallestRow.holds Try.pinned (OpenSpec.ofChange fnUnionSmallestWrong)

/-- 'laws.FnOverlapRoads': WHATEVER THE INPUT: true; the input reads as it did. -/
def fnOverlapRoadsSpec : ChangeSpec := { name := "fnOverlapRoads", fn := fun _ => fun
  | [d1, d2] => { results := [.lit (.bool true)], args := [d1, d2] }
  | _ => none }
def fnOverlapRoadsRow : OpenClaim := { program := "ytclcldmckcgoeaa", sum := "8d49ea5cb287431f20e2ccd9fe2239f5ed00284d7df61908ed138e9dfbc6858b", func := "loop.example/lib-g01190/laws.FnOverlapRoads", spec := "fnOverlapRoads", apart := false }
def FnOverlapRoadsSaid : Prop := fnOverlapRoadsRow.holds Try.pinned (OpenSpec.ofChange fnOverlapRoadsSpec)

/-- ITS FALSE NEIGHBOUR: 'it returns false'. Refute it at one input. -/
def fnOverlapRoadsWrong : ChangeSpec := { name := "fnOverlapRoads", fn := fun _ => fun
  | [d1, d2] => { results := [.lit (.bool false)], args := [d1, d2] }
  | _ => none }
def FnOverlapRoadsWrongFalsely : Prop := fnOverlapRoadsRow.holds Try.pinned (OpenSpec.ofChange fnOverlapRoadsWrong)

/-- 'laws.FnIntersectLargest': WHATEVER THE INPUT: true; the input reads as it did. -/
def fnIntersectLargestSpec : ChangeSpec := { name := "fnIntersectLargest", fn := fun _ => fun
  | [d1, d2, d3] => { results := [.lit (.bool true)], args := [d1, d2, d3] }
  | _ => none }
def fnIntersectLargestRow : OpenClaim := { program := "ytclcldmckcgoeaa", sum := "8d49ea5cb287431f20e2ccd9fe2239f5ed00284d7df61908ed138e9dfbc6858b", func := "loop.example/lib-g01190/laws.FnIntersectLargest", spec := "fnIntersectLargest", apart := false }
def FnIntersectLargestSaid : Prop := fnIntersectLargestRow.holds Try.pinned (OpenSpec.ofChange fnIntersectLargestSpec)

/-- ITS FALSE NEIGHBOUR: 'it returns false'. Refute it at one input. -/
def fnIntersectLargestWrong : ChangeSpec := { name := "fnIntersectLargest", fn := fun _ => fun
  | [d1, d2, d3] => { results := [.lit (.bool false)], args := [d1, d2, d3] }
  | _ => none }
def FnIntersectLargestWrongFalsely : Prop := fnIntersectLargestRow.holds Try.pinned (OpenSpec.ofChange fnIntersectLargestWrong)

/-- 'laws.FnIntersectPoints': WHATEVER THE INPUT: true; the input reads as it did. -/
def fnIntersectPointsSpec : ChangeSpec := { name := "fnIntersectPoints", fn := fun _ => fun
  | [d1, d2, d3] => { results := [.lit (.bool true)], args := [d1, d2, d3] }
  | _ => none }
def fnIntersectPointsRow : OpenClaim := { program := "ytclcldmckcgoeaa", sum := "8d49ea5cb287431f20e2ccd9fe2239f5ed00284d7df61908ed138e9dfbc6858b", func := "loop.example/lib-g01190/laws.FnIntersectPoints", spec := "fnIntersectPoints", apart := false }
def FnIntersectPointsSaid : Prop := fnIntersectPointsRow.holds Try.pinned (OpenSpec.ofChange fnIntersectPointsSpec)

/-- ITS FALSE NEIGHBOUR: 'it returns false'. Refute it at one input. -/
def fnIntersectPointsWrong : ChangeSpec := { name := "fnIntersectPoints", fn := fun _ => fun
  | [d1, d2, d3] => { results := [.lit (.bool false)], args := [d1, d2, d3] }
  | _ => none }
def FnIntersectPointsWrongFalsely : Prop := fnIntersectPointsRow.holds Try.pinned (OpenSpec.ofChange fnIntersectPointsWrong)

/-- 'laws.FnOverlapPoint': WHATEVER THE INPUT: true; the input reads as it did. -/
def fnOverlapPointSpec : ChangeSpec := { name := "fnOverlapPoint", fn := fun _ => fun
  | [d1, d2] => { results := [.lit (.bool true)], args := [d1, d2] }
  | _ => none }
def fnOverlapPointRow : OpenClaim := { program := "ytclcldmckcgoeaa", sum := "8d49ea5cb287431f20e2ccd9fe2239f5ed00284d7df61908ed138e9dfbc6858b", func := "loop.example/lib-g01190/laws.FnOverlapPoint", spec := "fnOverlapPoint", apart := false }
def FnOverlapPointSaid : Prop := fnOverlapPointRow.holds Try.pinned (OpenSpec.ofChange fnOverlapPointSpec)

/-- ITS FALSE NEIGHBOUR: 'it returns false'. Refute it at one input. -/
def fnOverlapPointWrong : ChangeSpec := { name := "fnOverlapPoint", fn := fun _ => fun
  | [d1, d2] => { results := [.lit (.bool false)], args := [d1, d2] }
  | _ => none }
def FnOverlapPointWrongFalsely : Prop := fnOverlapPointRow.holds Try.pinned (OpenSpec.ofChange fnOverlapPointWrong)

/-- 'laws.FnUnionPoints': WHATEVER THE INPUT: true; the input reads as it did. -/
def fnUnionPointsSpec : ChangeSpec := { name := "fnUnionPoints", fn := fun _ => fun
  | [d1, d2, d3] => { results := [.lit (.bool true)], args := [d1, d2, d3] }
  | _ => none }
def fnUnionPointsRow : OpenClaim := { program := "ytclcldmckcgoeaa", sum := "8d49ea5cb287431f20e2ccd9fe2239f5ed00284d7df61908ed138e9dfbc6858b", func := "loop.example/lib-g01190/laws.FnUnionPoints", spec := "fnUnionPoints", apart := false }
def FnUnionPointsSaid : Prop := fnUnionPointsRow.holds Try.pinned (OpenSpec.ofChange fnUnionPointsSpec)

/-- ITS FALSE NEIGHBOUR: 'it returns false'. Refute it at one input. -/
def fnUnionPointsWrong : ChangeSpec := { name := "fnUnionPoints", fn := fun _ => fun
  | [d1, d2, d3] => { results := [.lit (.bool false)], args := [d1, d2, d3] }
  | _ => none }
def FnUnionPointsWrongFalsely : Prop := fnUnionPointsRow.holds Try.pinned (OpenSpec.ofChange fnUnionPointsWrong)

/-- 'laws.FnAbsorbed': WHATEVER THE INPUT: true; the input reads as it did. -/
def fnAbsorbedSpec : ChangeSpec := { name := "fnAbsorbed", fn := fun _ => fun
  | [d1, d2] => { results := [.lit (.bool true)], args := [d1, d2] }
  | _ => none }
def fnAbsorbedRow : OpenClaim := { program := "ytclcldmckcgoeaa", sum := "8d49ea5cb287431f20e2ccd9fe2239f5ed00284d7df61908ed138e9dfbc6858b", func := "loop.example/lib-g01190/laws.FnAbsorbed", spec := "fnAbsorbed", apart := false }
def FnAbsorbedSaid : Prop := fnAbsorbedRow.holds Try.pinned (OpenSpec.ofChange fnAbsorbedSpec)

/-- ITS FALSE NEIGHBOUR: 'it returns false'. Refute it at one input. -/
def fnAbsorbedWrong : ChangeSpec := { name := "fnAbsorbed", fn := fun _ => fun
  | [d1, d2] => { results := [.lit (.bool false)], args := [d1, d2] }
  | _ => none }
def FnAbsorbedWrongFalsely : Prop := fnAbsorbedRow.holds Try.pinned (OpenSpec.ofChange fnAbsorbedWrong)

/- THE SECOND FORM. 'bulk': how many values and letters a reading holds, each counted each time it is reached (what is shared counts as often as it is met; a slice's spare places count too). A statement '..UptoSaid' is the law's where the arguments, and the package variables that the reading takes, are together of bulk at most 1048576: NARROWER than '..Said'. Prove '..Said' where nothing that the law and all that it calls make is longer than what came in: it says more and counts as full. Else prove '..UptoSaid'. A law counts once. -/
mutual
def uptoBulk {H : Type} : DataW H → Nat
  | .lit (.string bytes) => bytes.length + 1
  | .lit _ => 1
  | .nil => 1
  | .ptr d => uptoBulk d + 1
  | .slice elems spare => uptoBulkAll elems + uptoBulkAll spare + 1
  | .agg parts => uptoBulkAll parts + 1
  | .iface _ d => uptoBulk d + 1
  | .map entries => uptoBulkEntries entries + 1
  | .held _ => 1
def uptoBulkAll {H : Type} : List (DataW H) → Nat
  | [] => 0
  | d :: r => uptoBulk d + uptoBulkAll r
def uptoBulkEntries {H : Type} : List (Lit × DataW H) → Nat
  | [] => 0
  | x :: r => uptoBulkEntry x + uptoBulkEntries r
def uptoBulkEntry {H : Type} : Lit × DataW H → Nat
  | (.string bytes, d) => bytes.length + uptoBulk d + 1
  | (_, d) => uptoBulk d + 1
 end
def uptoSmall : (H : Type) → List (DataW H) → Bool := fun _ ds => decide (uptoBulkAll ds ≤ 1048576)
def OpenSpec.upto (s : _root_.Go.ChangeSpec) : _root_.Go.OpenSpec := { _root_.Go.OpenSpec.ofChange s with cond := some uptoSmall }

/-- 'laws.FnUnion', WHERE WHAT IT READS IS OF BULK AT MOST 1048576: true; the input reads as it did. -/
def fnUnionUptoRow : OpenClaim := { program := "ytclcldmckcgoeaa", sum := "8d49ea5cb287431f20e2ccd9fe2239f5ed00284d7df61908ed138e9dfbc6858b", func := "loop.example/lib-g01190/laws.FnUnion", spec := "fnUnion", apart := false, narrowed := true }
def FnUnionUptoSaid : Prop := fnUnionUptoRow.holds Try.pinned (OpenSpec.upto fnUnionSpec)

/-- 'laws.FnUnionEmpty', WHERE WHAT IT READS IS OF BULK AT MOST 1048576: true; the input reads as it did. -/
def fnUnionEmptyUptoRow : OpenClaim := { program := "ytclcldmckcgoeaa", sum := "8d49ea5cb287431f20e2ccd9fe2239f5ed00284d7df61908ed138e9dfbc6858b", func := "loop.example/lib-g01190/laws.FnUnionEmpty", spec := "fnUnionEmpty", apart := false, narrowed := true }
def FnUnionEmptyUptoSaid : Prop := fnUnionEmptyUptoRow.holds Try.pinned (OpenSpec.upto fnUnionEmptySpec)

/-- 'laws.FnExactRectIntersect', WHERE WHAT IT READS IS OF BULK AT MOST 1048576: true; the input reads as it did. -/
def fnExactRectIntersectUptoRow : OpenClaim := { program := "ytclcldmckcgoeaa", sum := "8d49ea5cb287431f20e2ccd9fe2239f5ed00284d7df61908ed138e9dfbc6858b", func := "loop.example/lib-g01190/laws.FnExactRectIntersect", spec := "fnExactRectIntersect", apart := false, narrowed := true }
def FnExactRectIntersectUptoSaid : Prop := fnExactRectIntersectUptoRow.holds Try.pinned (OpenSpec.upto fnExactRectIntersectSpec)

/-- 'laws.FnIntersectOrder', WHERE WHAT IT READS IS OF BULK AT MOST 1048576: true; the input reads as it did. -/
def fnIntersectOrderUptoRow : OpenClaim := { program := "ytclcldmckcgoeaa", sum := "8d49ea5cb287431f20e2ccd9fe2239f5ed00284d7df61908ed138e9dfbc6858b", func := "loop.example/lib-g01190/laws.FnIntersectOrder", spec := "fnIntersectOrder", apart := false, narrowed := true }
def FnIntersectOrderUptoSaid : Prop := fnIntersectOrderUptoRow.holds Try.pinned (OpenSpec.upto fnIntersectOrderSpec)

/-- 'laws.FnUnionOrder', WHERE WHAT IT READS IS OF BULK AT MOST 1048576: true; the input reads as it did. -/
def fnUnionOrderUptoRow : OpenClaim := { program := "ytclcldmckcgoeaa", sum := "8d49ea5cb287431f20e2ccd9fe2239f5ed00284d7df61908ed138e9dfbc6858b", func := "loop.example/lib-g01190/laws.FnUnionOrder", spec := "fnUnionOrder", apart := false, narrowed := true }
def FnUnionOrderUptoSaid : Prop := fnUnionOrderUptoRow.holds Try.pinned (OpenSpec.upto fnUnionOrderSpec)

/-- 'laws.FnUnionSmallest', WHERE WHAT IT READS IS OF BULK AT MOST 1048576: true; the input reads as it did. -/
def fnUnionSmallestUptoRow : OpenClaim := { program := "ytclcldmckcgoeaa", sum := "8d49ea5cb287431f20e2ccd9fe2239f5ed00284d7df61908ed138e9dfbc6858b", func := "loop.example/lib-g01190/laws.FnUnionSmallest", spec := "fnUnionSmallest", apart := false, narrowed := true }
def FnUnionSmallestUptoSaid : Prop := fnUnionSmallestUptoRow.holds Try.pinned (OpenSpec.upto fnUnionSmallestSpec)

/-- 'laws.FnOverlapRoads', WHERE WHAT IT READS IS OF BULK AT MOST 1048576: true; the input reads as it did. -/
def fnOverlapRoadsUptoRow : OpenClaim := { program := "ytclcldmckcgoeaa", sum := "8d49ea5cb287431f20e2ccd9fe2239f5ed00284d7df61908ed138e9dfbc6858b", func := "loop.example/lib-g01190/laws.FnOverlapRoads", spec := "fnOverlapRoads", apart := false, narrowed := true }
def FnOverlapRoadsUptoSaid : Prop := fnOverlapRoadsUptoRow.holds Try.pinned (OpenSpec.upto fnOverlapRoadsSpec)

/-- 'laws.FnIntersectLargest', WHERE WHAT IT READS IS OF BULK AT MOST 1048576: true; the input reads as it did. -/
def fnIntersectLargestUptoRow : OpenClaim := { program := "ytclcldmckcgoeaa", sum := "8d49ea5cb287431f20e2ccd9fe2239f5ed00284d7df61908ed138e9dfbc6858b", func := "loop.example/lib-g01190/laws.FnIntersectLargest", spec := "fnIntersectLargest", apart := false, narrowed := true }
def FnIntersectLargestUptoSaid : Prop := fnIntersectLargestUptoRow.holds Try.pinned (OpenSpec.upto fnIntersectLargestSpec)

/-- 'laws.FnIntersectPoints', WHERE WHAT IT READS IS OF BULK AT MOST 1048576: true; the input reads as it did. -/
def fnIntersectPointsUptoRow : OpenClaim := { program := "ytclcldmckcgoeaa", sum := "8d49ea5cb287431f20e2ccd9fe2239f5ed00284d7df61908ed138e9dfbc6858b", func := "loop.example/lib-g01190/laws.FnIntersectPoints", spec := "fnIntersectPoints", apart := false, narrowed := true }
def FnIntersectPointsUptoSaid : Prop := fnIntersectPointsUptoRow.holds Try.pinned (OpenSpec.upto fnIntersectPointsSpec)

/-- 'laws.FnOverlapPoint', WHERE WHAT IT READS IS OF BULK AT MOST 1048576: true; the input reads as it did. -/
def fnOverlapPointUptoRow : OpenClaim := { program := "ytclcldmckcgoeaa", sum := "8d49ea5cb287431f20e2ccd9fe2239f5ed00284d7df61908ed138e9dfbc6858b", func := "loop.example/lib-g01190/laws.FnOverlapPoint", spec := "fnOverlapPoint", apart := false, narrowed := true }
def FnOverlapPointUptoSaid : Prop := fnOverlapPointUptoRow.holds Try.pinned (OpenSpec.upto fnOverlapPointSpec)

/-- 'laws.FnUnionPoints', WHERE WHAT IT READS IS OF BULK AT MOST 1048576: true; the input reads as it did. -/
def fnUnionPointsUptoRow : OpenClaim := { program := "ytclcldmckcgoeaa", sum := "8d49ea5cb287431f20e2ccd9fe2239f5ed00284d7df61908ed138e9dfbc6858b", func := "loop.example/lib-g01190/laws.FnUnionPoints", spec := "fnUnionPoints", apart := false, narrowed := true }
def FnUnionPointsUptoSaid : Prop := fnUnionPointsUptoRow.holds Try.pinned (OpenSpec.upto fnUnionPointsSpec)

/-- 'laws.FnAbsorbed', WHERE WHAT IT READS IS OF BULK AT MOST 1048576: true; the input reads as it did. -/
def fnAbsorbedUptoRow : OpenClaim := { program := "ytclcldmckcgoeaa", sum := "8d49ea5cb287431f20e2ccd9fe2239f5ed00284d7df61908ed138e9dfbc6858b", func := "loop.example/lib-g01190/laws.FnAbsorbed", spec := "fnAbsorbed", apart := false, narrowed := true }
def FnAbsorbedUptoSaid : Prop := fnAbsorbedUptoRow.holds Try.pinned (OpenSpec.upto fnAbsorbedSpec)

end Rows
end Go.Proofs.Ytclcldmckcgoeaa
