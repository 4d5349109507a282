/-
  No cell of these rows narrows 'for every input' (looked for: loops, veiled, ifaces, maps, wideKeys, modest, calm, conditions, laid).
  DERIVED. THE GIVEN ROWS OF THIS SEAT. 12 by the template 'for every input the law returns true; each argument reads behind the call as it read before'; 0 by the template 'total and deterministic' (their statements: YthafdjlgagmfdaaTotals.lean).
  GIVEN WITH THE SEED: the statements are not yours to turn. If you find one false, say at which input.
  Laid BY PROGRAM, IN A SANDBOX (cutbox-rows.mjs): the forced cells as the released guide's own fill.sh prints them over the translation 9d8bb65b1aa6865d… (all of the seat's roots in one cut). By AI agents, Wed Nov 11 2026. No macro, syntax, notation, axiom, sorry.
-/
import Derived.Test.YthafdjlgagmfdaaChecked
import GoSem.Claim
import GoSem.ClaimJoined
import GoSem.ClaimMapViews
import Derived.JoinedTies
import Derived.KernelRfl
namespace Go.Proofs.Ythafdjlgagmfdaa
/- THE CELL 'sum', in the pinned program and in every row, IS THE sha256 OF THE DUMP (.gsa) THAT YthafdjlgagmfdaaProg.lean LOADS. Nothing in Lean hashes anything: it is a label: what it is worth is what the hold of that sum in a sandbox is worth. -/
noncomputable def Try.pinned : Pinned := { name := "ythafdjlgagmfdaa", sum := "9d8bb65b1aa6865dcf7b04b79275a8b71c0ac1771300a77d9aa1464ecc395a09", checked := Try.checked }
namespace Rows
def none {H : Type} : Left H := { results := [], args := [] }

/-- 'laws.FnExactNewRect': WHATEVER THE INPUT: true; the input reads as it did. -/
def fnExactNewRectSpec : ChangeSpec := { name := "fnExactNewRect", fn := fun _ => fun
  | [d1, d2, d3, d4] => { results := [.lit (.bool true)], args := [d1, d2, d3, d4] }
  | _ => none }
def fnExactNewRectRow : OpenClaim := { program := "ythafdjlgagmfdaa", sum := "9d8bb65b1aa6865dcf7b04b79275a8b71c0ac1771300a77d9aa1464ecc395a09", func := "loop.example/lib-g01190/laws.FnExactNewRect", spec := "fnExactNewRect", apart := false }
def FnExactNewRectSaid : Prop := fnExactNewRectRow.holds Try.pinned (OpenSpec.ofChange fnExactNewRectSpec)

/-- ITS FALSE NEIGHBOUR: 'it returns false'. Refute it at one input. -/
def fnExactNewRectWrong : ChangeSpec := { name := "fnExactNewRect", fn := fun _ => fun
  | [d1, d2, d3, d4] => { results := [.lit (.bool false)], args := [d1, d2, d3, d4] }
  | _ => none }
def FnExactNewRectWrongFalsely : Prop := fnExactNewRectRow.holds Try.pinned (OpenSpec.ofChange fnExactNewRectWrong)

/-- 'laws.FnEqual': WHATEVER THE INPUT: true; the input reads as it did. -/
def fnEqualSpec : ChangeSpec := { name := "fnEqual", fn := fun _ => fun
  | [d1, d2, d3] => { results := [.lit (.bool true)], args := [d1, d2, d3] }
  | _ => none }
def fnEqualRow : OpenClaim := { program := "ythafdjlgagmfdaa", sum := "9d8bb65b1aa6865dcf7b04b79275a8b71c0ac1771300a77d9aa1464ecc395a09", func := "loop.example/lib-g01190/laws.FnEqual", spec := "fnEqual", apart := false }
def FnEqualSaid : Prop := fnEqualRow.holds Try.pinned (OpenSpec.ofChange fnEqualSpec)

/-- ITS FALSE NEIGHBOUR: 'it returns false'. Refute it at one input. -/
def fnEqualWrong : ChangeSpec := { name := "fnEqual", fn := fun _ => fun
  | [d1, d2, d3] => { results := [.lit (.bool false)], args := [d1, d2, d3] }
  | _ => none }
def FnEqualWrongFalsely : Prop := fnEqualRow.holds Try.pinned (OpenSpec.ofChange fnEqualWrong)

/-- 'laws.FnExactRectEq': WHATEVER THE INPUT: true; the input reads as it did. -/
def fnExactRectEqSpec : ChangeSpec := { name := "fnExactRectEq", fn := fun _ => fun
  | [d1, d2] => { results := [.lit (.bool true)], args := [d1, d2] }
  | _ => none }
def fnExactRectEqRow : OpenClaim := { program := "ythafdjlgagmfdaa", sum := "9d8bb65b1aa6865dcf7b04b79275a8b71c0ac1771300a77d9aa1464ecc395a09", func := "loop.example/lib-g01190/laws.FnExactRectEq", spec := "fnExactRectEq", apart := false }
def FnExactRectEqSaid : Prop := fnExactRectEqRow.holds Try.pinned (OpenSpec.ofChange fnExactRectEqSpec)

/-- ITS FALSE NEIGHBOUR: 'it returns false'. Refute it at one input. -/
def fnExactRectEqWrong : ChangeSpec := { name := "fnExactRectEq", fn := fun _ => fun
  | [d1, d2] => { results := [.lit (.bool false)], args := [d1, d2] }
  | _ => none }
def FnExactRectEqWrongFalsely : Prop := fnExactRectEqRow.holds Try.pinned (OpenSpec.ofChange fnExactRectEqWrong)

/-- 'laws.FnExactRectOverlaps': WHATEVER THE INPUT: true; the input reads as it did. -/
def fnExactRectOverlapsSpec : ChangeSpec := { name := "fnExactRectOverlaps", fn := fun _ => fun
  | [d1, d2] => { results := [.lit (.bool true)], args := [d1, d2] }
  | _ => none }
def fnExactRectOverlapsRow : OpenClaim := { program := "ythafdjlgagmfdaa", sum := "9d8bb65b1aa6865dcf7b04b79275a8b71c0ac1771300a77d9aa1464ecc395a09", func := "loop.example/lib-g01190/laws.FnExactRectOverlaps", spec := "fnExactRectOverlaps", apart := false }
def FnExactRectOverlapsSaid : Prop := fnExactRectOverlapsRow.holds Try.pinned (OpenSpec.ofChange fnExactRectOverlapsSpec)

/-- ITS FALSE NEIGHBOUR: 'it returns false'. Refute it at one input. -/
def fnExactRectOverlapsWrong : ChangeSpec := { name := "fnExactRectOverlaps", fn := fun _ => fun
  | [d1, d2] => { results := [.lit (.bool false)], args := [d1, d2] }
  | _ => none }
def FnExactRectOverlapsWrongFalsely : Prop := fnExactRectOverlapsRow.holds Try.pinned (OpenSpec.ofChange fnExactRectOverlapsWrong)

/-- 'laws.FnExactRectCanon': WHATEVER THE INPUT: true; the input reads as it did. -/
def fnExactRectCanonSpec : ChangeSpec := { name := "fnExactRectCanon", fn := fun _ => fun
  | [d] => { results := [.lit (.bool true)], args := [d] }
  | _ => none }
def fnExactRectCanonRow : OpenClaim := { program := "ythafdjlgagmfdaa", sum := "9d8bb65b1aa6865dcf7b04b79275a8b71c0ac1771300a77d9aa1464ecc395a09", func := "loop.example/lib-g01190/laws.FnExactRectCanon", spec := "fnExactRectCanon", apart := false }
def FnExactRectCanonSaid : Prop := fnExactRectCanonRow.holds Try.pinned (OpenSpec.ofChange fnExactRectCanonSpec)

/-- ITS FALSE NEIGHBOUR: 'it returns false'. Refute it at one input. -/
def fnExactRectCanonWrong : ChangeSpec := { name := "fnExactRectCanon", fn := fun _ => fun
  | [d] => { results := [.lit (.bool false)], args := [d] }
  | _ => none }
def FnExactRectCanonWrongFalsely : Prop := fnExactRectCanonRow.holds Try.pinned (OpenSpec.ofChange fnExactRectCanonWrong)

/-- 'laws.FnExactRectIn': WHATEVER THE INPUT: true; the input reads as it did. -/
def fnExactRectInSpec : ChangeSpec := { name := "fnExactRectIn", fn := fun _ => fun
  | [d1, d2] => { results := [.lit (.bool true)], args := [d1, d2] }
  | _ => none }
def fnExactRectInRow : OpenClaim := { program := "ythafdjlgagmfdaa", sum := "9d8bb65b1aa6865dcf7b04b79275a8b71c0ac1771300a77d9aa1464ecc395a09", func := "loop.example/lib-g01190/laws.FnExactRectIn", spec := "fnExactRectIn", apart := false }
def FnExactRectInSaid : Prop := fnExactRectInRow.holds Try.pinned (OpenSpec.ofChange fnExactRectInSpec)

/-- ITS FALSE NEIGHBOUR: 'it returns false'. Refute it at one input. -/
def fnExactRectInWrong : ChangeSpec := { name := "fnExactRectIn", fn := fun _ => fun
  | [d1, d2] => { results := [.lit (.bool false)], args := [d1, d2] }
  | _ => none }
def FnExactRectInWrongFalsely : Prop := fnExactRectInRow.holds Try.pinned (OpenSpec.ofChange fnExactRectInWrong)

/-- 'laws.FnInOrder': WHATEVER THE INPUT: true; the input reads as it did. -/
def fnInOrderSpec : ChangeSpec := { name := "fnInOrder", fn := fun _ => fun
  | [d1, d2, d3] => { results := [.lit (.bool true)], args := [d1, d2, d3] }
  | _ => none }
def fnInOrderRow : OpenClaim := { program := "ythafdjlgagmfdaa", sum := "9d8bb65b1aa6865dcf7b04b79275a8b71c0ac1771300a77d9aa1464ecc395a09", func := "loop.example/lib-g01190/laws.FnInOrder", spec := "fnInOrder", apart := false }
def FnInOrderSaid : Prop := fnInOrderRow.holds Try.pinned (OpenSpec.ofChange fnInOrderSpec)

/-- ITS FALSE NEIGHBOUR: 'it returns false'. Refute it at one input. -/
def fnInOrderWrong : ChangeSpec := { name := "fnInOrder", fn := fun _ => fun
  | [d1, d2, d3] => { results := [.lit (.bool false)], args := [d1, d2, d3] }
  | _ => none }
def FnInOrderWrongFalsely : Prop := fnInOrderRow.holds Try.pinned (OpenSpec.ofChange fnInOrderWrong)

/-- 'laws.FnEmptySize': WHATEVER THE INPUT: true; the input reads as it did. -/
def fnEmptySizeSpec : ChangeSpec := { name := "fnEmptySize", fn := fun _ => fun
  | [d] => { results := [.lit (.bool true)], args := [d] }
  | _ => none }
def fnEmptySizeRow : OpenClaim := { program := "ythafdjlgagmfdaa", sum := "9d8bb65b1aa6865dcf7b04b79275a8b71c0ac1771300a77d9aa1464ecc395a09", func := "loop.example/lib-g01190/laws.FnEmptySize", spec := "fnEmptySize", apart := false }
def FnEmptySizeSaid : Prop := fnEmptySizeRow.holds Try.pinned (OpenSpec.ofChange fnEmptySizeSpec)

/-- ITS FALSE NEIGHBOUR: 'it returns false'. Refute it at one input. -/
def fnEmptySizeWrong : ChangeSpec := { name := "fnEmptySize", fn := fun _ => fun
  | [d] => { results := [.lit (.bool false)], args := [d] }
  | _ => none }
def FnEmptySizeWrongFalsely : Prop := fnEmptySizeRow.holds Try.pinned (OpenSpec.ofChange fnEmptySizeWrong)

/-- 'laws.FnCounted': WHATEVER THE INPUT: true; the input reads as it did. -/
def fnCountedSpec : ChangeSpec := { name := "fnCounted", fn := fun _ => fun
  | [d] => { results := [.lit (.bool true)], args := [d] }
  | _ => none }
def fnCountedRow : OpenClaim := { program := "ythafdjlgagmfdaa", sum := "9d8bb65b1aa6865dcf7b04b79275a8b71c0ac1771300a77d9aa1464ecc395a09", func := "loop.example/lib-g01190/laws.FnCounted", spec := "fnCounted", apart := false }
def FnCountedSaid : Prop := fnCountedRow.holds Try.pinned (OpenSpec.ofChange fnCountedSpec)

/-- ITS FALSE NEIGHBOUR: 'it returns false'. Refute it at one input. -/
def fnCountedWrong : ChangeSpec := { name := "fnCounted", fn := fun _ => fun
  | [d] => { results := [.lit (.bool false)], args := [d] }
  | _ => none }
def FnCountedWrongFalsely : Prop := fnCountedRow.holds Try.pinned (OpenSpec.ofChange fnCountedWrong)

/-- 'laws.FnCanonRoads': WHATEVER THE INPUT: true; the input reads as it did. -/
def fnCanonRoadsSpec : ChangeSpec := { name := "fnCanonRoads", fn := fun _ => fun
  | [d] => { results := [.lit (.bool true)], args := [d] }
  | _ => none }
def fnCanonRoadsRow : OpenClaim := { program := "ythafdjlgagmfdaa", sum := "9d8bb65b1aa6865dcf7b04b79275a8b71c0ac1771300a77d9aa1464ecc395a09", func := "loop.example/lib-g01190/laws.FnCanonRoads", spec := "fnCanonRoads", apart := false }
def FnCanonRoadsSaid : Prop := fnCanonRoadsRow.holds Try.pinned (OpenSpec.ofChange fnCanonRoadsSpec)

/-- ITS FALSE NEIGHBOUR: 'it returns false'. Refute it at one input. -/
def fnCanonRoadsWrong : ChangeSpec := { name := "fnCanonRoads", fn := fun _ => fun
  | [d] => { results := [.lit (.bool false)], args := [d] }
  | _ => none }
def FnCanonRoadsWrongFalsely : Prop := fnCanonRoadsRow.holds Try.pinned (OpenSpec.ofChange fnCanonRoadsWrong)

/-- 'laws.FnCanonSize': WHATEVER THE INPUT: true; the input reads as it did. -/
def fnCanonSizeSpec : ChangeSpec := { name := "fnCanonSize", fn := fun _ => fun
  | [d] => { results := [.lit (.bool true)], args := [d] }
  | _ => none }
def fnCanonSizeRow : OpenClaim := { program := "ythafdjlgagmfdaa", sum := "9d8bb65b1aa6865dcf7b04b79275a8b71c0ac1771300a77d9aa1464ecc395a09", func := "loop.example/lib-g01190/laws.FnCanonSize", spec := "fnCanonSize", apart := false }
def FnCanonSizeSaid : Prop := fnCanonSizeRow.holds Try.pinned (OpenSpec.ofChange fnCanonSizeSpec)

/-- ITS FALSE NEIGHBOUR: 'it returns false'. Refute it at one input. -/
def fnCanonSizeWrong : ChangeSpec := { name := "fnCanonSize", fn := fun _ => fun
  | [d] => { results := [.lit (.bool false)], args := [d] }
  | _ => none }
def FnCanonSizeWrongFalsely : Prop := fnCanonSizeRow.holds Try.pinned (OpenSpec.ofChange fnCanonSizeWrong)

/-- 'laws.FnEqPoints': WHATEVER THE INPUT: true; the input reads as it did. -/
def fnEqPointsSpec : ChangeSpec := { name := "fnEqPoints", fn := fun _ => fun
  | [d1, d2, d3] => { results := [.lit (.bool true)], args := [d1, d2, d3] }
  | _ => none }
def fnEqPointsRow : OpenClaim := { program := "ythafdjlgagmfdaa", sum := "9d8bb65b1aa6865dcf7b04b79275a8b71c0ac1771300a77d9aa1464ecc395a09", func := "loop.example/lib-g01190/laws.FnEqPoints", spec := "fnEqPoints", apart := false }
def FnEqPointsSaid : Prop := fnEqPointsRow.holds Try.pinned (OpenSpec.ofChange fnEqPointsSpec)

/-- ITS FALSE NEIGHBOUR: 'it returns false'. Refute it at one input. -/
def fnEqPointsWrong : ChangeSpec := { name := "fnEqPoints", fn := fun _ => fun
  | [d1, d2, d3] => { results := [.lit (.bool false)], args := [d1, d2, d3] }
  | _ => none }
def FnEqPointsWrongFalsely : Prop := fnEqPointsRow.holds Try.pinned (OpenSpec.ofChange fnEqPointsWrong)

/- THE SECOND FORM. 'bulk': how many values and letters a reading holds, each counted each time it is reached (what is shared counts as often as it is met; a slice's spare places count too). A statement '..UptoSaid' is the law's where the arguments, and the package variables that the reading takes, are together of bulk at most 1048576: NARROWER than '..Said'. Prove '..Said' where nothing that the law and all that it calls make is longer than what came in: it says more and counts as full. Else prove '..UptoSaid'. A law counts once. -/
mutual
def uptoBulk {H : Type} : DataW H → Nat
  | .lit (.string bytes) => bytes.length + 1
  | .lit _ => 1
  | .nil => 1
  | .ptr d => uptoBulk d + 1
  | .slice elems spare => uptoBulkAll elems + uptoBulkAll spare + 1
  | .agg parts => uptoBulkAll parts + 1
  | .iface _ d => uptoBulk d + 1
  | .map entries => uptoBulkEntries entries + 1
  | .held _ => 1
def uptoBulkAll {H : Type} : List (DataW H) → Nat
  | [] => 0
  | d :: r => uptoBulk d + uptoBulkAll r
def uptoBulkEntries {H : Type} : List (Lit × DataW H) → Nat
  | [] => 0
  | x :: r => uptoBulkEntry x + uptoBulkEntries r
def uptoBulkEntry {H : Type} : Lit × DataW H → Nat
  | (.string bytes, d) => bytes.length + uptoBulk d + 1
  | (_, d) => uptoBulk d + 1
 end
def uptoSmall : (H : Type) → List (DataW H) → Bool := fun _ ds => decide (uptoBulkAll ds ≤ 1048576)
def OpenSpec.upto (s : _root_.Go.ChangeSpec) : _root_.Go.OpenSpec := { _root_.Go.OpenSpec.ofChange s with cond := some uptoSmall }

/-- 'laws.FnExactNewRect', WHERE WHAT IT READS IS OF BULK AT MOST 1048576: true; the input reads as it did. -/
def fnExactNewRectUptoRow : OpenClaim := { program := "ythafdjlgagmfdaa", sum := "9d8bb65b1aa6865dcf7b04b79275a8b71c0ac1771300a77d9aa1464ecc395a09", func := "loop.example/lib-g01190/laws.FnExactNewRect", spec := "fnExactNewRect", apart := false, narrowed := true }
def FnExactNewRectUptoSaid : Prop := fnExactNewRectUptoRow.holds Try.pinned (OpenSpec.upto fnExactNewRectSpec)

/-- 'laws.FnEqual', WHERE WHAT IT READS IS OF BULK AT MOST 1048576: true; the input reads as it did. -/
def fnEqualUptoRow : OpenClaim := { program := "ythafdjlgagmfdaa", sum := "9d8bb65b1aa6865dcf7b04b79275a8b71c0ac1771300a77d9aa1464ecc395a09", func := "loop.example/lib-g01190/laws.FnEqual", spec := "fnEqual", apart := false, narrowed := true }
def FnEqualUptoSaid : Prop := fnEqualUptoRow.holds Try.pinned (OpenSpec.upto fnEqualSpec)

/-- 'laws.FnExactRectEq', WHERE WHAT IT READS IS OF BULK AT MOST 1048576: true; the input reads as it did. -/
def fnExactRectEqUptoRow : OpenClaim := { program := "ythafdjlgagmfdaa", sum := "9d8bb65b1aa6865dcf7b04b79275a8b71c0ac1771300a77d9aa1464ecc395a09", func := "loop.example/lib-g01190/laws.FnExactRectEq", spec := "fnExactRectEq", apart := false, narrowed := true }
def FnExactRectEqUptoSaid : Prop := fnExactRectEqUptoRow.holds Try.pinned (OpenSpec.upto fnExactRectEqSpec)

/-- 'laws.FnExactRectOverlaps', WHERE WHAT IT READS IS OF BULK AT MOST 1048576: true; the input reads as it did. -/
def fnExactRectOverlapsUptoRow : OpenClaim := { program := "ythafdjlgagmfdaa", sum := "9d8bb65b1aa6865dcf7b04b79275a8b71c0ac1771300a77d9aa1464ecc395a09", func := "loop.example/lib-g01190/laws.FnExactRectOverlaps", spec := "fnExactRectOverlaps", apart := false, narrowed := true }
def FnExactRectOverlapsUptoSaid : Prop := fnExactRectOverlapsUptoRow.holds Try.pinned (OpenSpec.upto fnExactRectOverlapsSpec)

/-- 'laws.FnExactRectCanon', WHERE WHAT IT READS IS OF BULK AT MOST 1048576: true; the input reads as it did. -/
def fnExactRectCanonUptoRow : OpenClaim := { program := "ythafdjlgagmfdaa", sum := "9d8bb65b1aa6865dcf7b04b79275a8b71c0ac1771300a77d9aa1464ecc395a09", func := "loop.example/lib-g01190/laws.FnExactRectCanon", spec := "fnExactRectCanon", apart := false, narrowed := true }
def FnExactRectCanonUptoSaid : Prop := fnExactRectCanonUptoRow.holds Try.pinned (OpenSpec.upto fnExactRectCanonSpec)

/-- 'laws.FnExactRectIn', WHERE WHAT IT READS IS OF BULK AT MOST 1048576: true; the input reads as it did. -/
def fnExactRectInUptoRow : OpenClaim := { program := "ythafdjlgagmfdaa", sum := "9d8bb65b1aa6865dcf7b04b79275a8b71c0ac1771300a77d9aa1464ecc395a09", func := "loop.example/lib-g01190/laws.FnExactRectIn", spec := "fnExactRectIn", apart := false, narrowed := true }
def FnExactRectInUptoSaid : Prop := fnExactRectInUptoRow.holds Try.pinned (OpenSpec.upto fnExactRectInSpec)

/-- 'laws.FnInOrder', WHERE WHAT IT READS IS OF BULK AT MOST 1048576: true; the input reads as it did. -/
def fnInOrderUptoRow : OpenClaim := { program := "ythafdjlgagmfdaa", sum := "9d8bb65b1aa6865dcf7b04b79275a8b71c0ac1771300a77d9aa1464ecc395a09", func := "loop.example/lib-g01190/laws.FnInOrder", spec := "fnInOrder", apart := false, narrowed := true }
def FnInOrderUptoSaid : Prop := fnInOrderUptoRow.holds Try.pinned (OpenSpec.upto fnInOrderSpec)

/-- 'laws.FnEmptySize', WHERE WHAT IT READS IS OF BULK AT MOST 1048576: true; the input reads as it did. -/
def fnEmptySizeUptoRow : OpenClaim := { program := "ythafdjlgagmfdaa", sum := "9d8bb65b1aa6865dcf7b04b79275a8b71c0ac1771300a77d9aa1464ecc395a09", func := "loop.example/lib-g01190/laws.FnEmptySize", spec := "fnEmptySize", apart := false, narrowed := true }
def FnEmptySizeUptoSaid : Prop := fnEmptySizeUptoRow.holds Try.pinned (OpenSpec.upto fnEmptySizeSpec)

/-- 'laws.FnCounted', WHERE WHAT IT READS IS OF BULK AT MOST 1048576: true; the input reads as it did. -/
def fnCountedUptoRow : OpenClaim := { program := "ythafdjlgagmfdaa", sum := "9d8bb65b1aa6865dcf7b04b79275a8b71c0ac1771300a77d9aa1464ecc395a09", func := "loop.example/lib-g01190/laws.FnCounted", spec := "fnCounted", apart := false, narrowed := true }
def FnCountedUptoSaid : Prop := fnCountedUptoRow.holds Try.pinned (OpenSpec.upto fnCountedSpec)

/-- 'laws.FnCanonRoads', WHERE WHAT IT READS IS OF BULK AT MOST 1048576: true; the input reads as it did. -/
def fnCanonRoadsUptoRow : OpenClaim := { program := "ythafdjlgagmfdaa", sum := "9d8bb65b1aa6865dcf7b04b79275a8b71c0ac1771300a77d9aa1464ecc395a09", func := "loop.example/lib-g01190/laws.FnCanonRoads", spec := "fnCanonRoads", apart := false, narrowed := true }
def FnCanonRoadsUptoSaid : Prop := fnCanonRoadsUptoRow.holds Try.pinned (OpenSpec.upto fnCanonRoadsSpec)

/-- 'laws.FnCanonSize', WHERE WHAT IT READS IS OF BULK AT MOST 1048576: true; the input reads as it did. -/
def fnCanonSizeUptoRow : OpenClaim := { program := "ythafdjlgagmfdaa", sum := "9d8bb65b1aa6865dcf7b04b79275a8b71c0ac1771300a77d9aa1464ecc395a09", func := "loop.example/lib-g01190/laws.FnCanonSize", spec := "fnCanonSize", apart := false, narrowed := true }
def FnCanonSizeUptoSaid : Prop := fnCanonSizeUptoRow.holds Try.pinned (OpenSpec.upto fnCanonSizeSpec)

/-- 'laws.FnEqPoints', WHERE WHAT IT READS IS OF BULK AT MOST 1048576: true; the input reads as it did. -/
def fnEqPointsUptoRow : OpenClaim := { program := "ythafdjlgagmfdaa", sum := "9d8bb65b1aa6865dcf7b04b79275a8b71c0ac1771300a77d9aa1464ecc395a09", func := "loop.example/lib-g01190/laws.FnEqPoints", spec := "fnEqPoints", apart := false, narrowed := true }
def FnEqPointsUptoSaid : Prop := fnEqPointsUptoRow.holds Try.pinned (OpenSpec.upto fnEqPointsSpec)

end Rows
end Go.Proofs.Ythafdjlgagmfdaa
