/-
  No cell of these rows narrows 'for every input' (looked for: loops, veiled, ifaces, maps, wideKeys, modest, calm, conditions, laid).
  DERIVED. THE GIVEN ROWS OF THIS SEAT. 12 by the template 'for every input the law returns true; each argument reads behind the call as it read before'; 0 by the template 'total and deterministic' (their statements: YtngfknnlojadeaaTotals.lean).
  GIVEN WITH THE SEED: the statements are not yours to turn. If you find one false, say at which input.
  Laid BY PROGRAM, IN A SANDBOX (cutbox-rows.mjs): the forced cells as the released guide's own fill.sh prints them over the translation d53faaa0fb855348… (all of the seat's roots in one cut). By AI agents, Wed Nov 11 2026. No macro, syntax, notation, axiom, sorry.
-/
import Derived.Test.YtngfknnlojadeaaChecked
import GoSem.Claim
import GoSem.ClaimJoined
import GoSem.ClaimMapViews
import Derived.JoinedTies
import Derived.KernelRfl
namespace Go.Proofs.Ytngfknnlojadeaa
/- THE CELL 'sum', in the pinned program and in every row, IS THE sha256 OF THE DUMP (.gsa) THAT YtngfknnlojadeaaProg.lean LOADS. Nothing in Lean hashes anything: it is a label: what it is worth is what the hold of that sum in a sandbox is worth. -/
noncomputable def Try.pinned : Pinned := { name := "ytngfknnlojadeaa", sum := "d53faaa0fb855348658602ddc504bfa00645a7b25bfa12fbd613237a913169ed", checked := Try.checked }
namespace Rows
def none {H : Type} : Left H := { results := [], args := [] }

/-- 'laws.FnCorners': WHATEVER THE INPUT: true; the input reads as it did. -/
def fnCornersSpec : ChangeSpec := { name := "fnCorners", fn := fun _ => fun
  | [d] => { results := [.lit (.bool true)], args := [d] }
  | _ => none }
def fnCornersRow : OpenClaim := { program := "ytngfknnlojadeaa", sum := "d53faaa0fb855348658602ddc504bfa00645a7b25bfa12fbd613237a913169ed", func := "loop.example/lib-g01190/laws.FnCorners", spec := "fnCorners", apart := false }
def FnCornersSaid : Prop := fnCornersRow.holds Try.pinned (OpenSpec.ofChange fnCornersSpec)

/-- ITS FALSE NEIGHBOUR: 'it returns false'. Refute it at one input. -/
def fnCornersWrong : ChangeSpec := { name := "fnCorners", fn := fun _ => fun
  | [d] => { results := [.lit (.bool false)], args := [d] }
  | _ => none }
def FnCornersWrongFalsely : Prop := fnCornersRow.holds Try.pinned (OpenSpec.ofChange fnCornersWrong)

/-- 'laws.FnExactPointIn': WHATEVER THE INPUT: true; the input reads as it did. -/
def fnExactPointInSpec : ChangeSpec := { name := "fnExactPointIn", fn := fun _ => fun
  | [d1, d2] => { results := [.lit (.bool true)], args := [d1, d2] }
  | _ => none }
def fnExactPointInRow : OpenClaim := { program := "ytngfknnlojadeaa", sum := "d53faaa0fb855348658602ddc504bfa00645a7b25bfa12fbd613237a913169ed", func := "loop.example/lib-g01190/laws.FnExactPointIn", spec := "fnExactPointIn", apart := false }
def FnExactPointInSaid : Prop := fnExactPointInRow.holds Try.pinned (OpenSpec.ofChange fnExactPointInSpec)

/-- ITS FALSE NEIGHBOUR: 'it returns false'. Refute it at one input. -/
def fnExactPointInWrong : ChangeSpec := { name := "fnExactPointIn", fn := fun _ => fun
  | [d1, d2] => { results := [.lit (.bool false)], args := [d1, d2] }
  | _ => none }
def FnExactPointInWrongFalsely : Prop := fnExactPointInRow.holds Try.pinned (OpenSpec.ofChange fnExactPointInWrong)

/-- 'laws.FnRectAdd': WHATEVER THE INPUT: true; the input reads as it did. -/
def fnRectAddSpec : ChangeSpec := { name := "fnRectAdd", fn := fun _ => fun
  | [d1, d2] => { results := [.lit (.bool true)], args := [d1, d2] }
  | _ => none }
def fnRectAddRow : OpenClaim := { program := "ytngfknnlojadeaa", sum := "d53faaa0fb855348658602ddc504bfa00645a7b25bfa12fbd613237a913169ed", func := "loop.example/lib-g01190/laws.FnRectAdd", spec := "fnRectAdd", apart := false }
def FnRectAddSaid : Prop := fnRectAddRow.holds Try.pinned (OpenSpec.ofChange fnRectAddSpec)

/-- ITS FALSE NEIGHBOUR: 'it returns false'. Refute it at one input. -/
def fnRectAddWrong : ChangeSpec := { name := "fnRectAdd", fn := fun _ => fun
  | [d1, d2] => { results := [.lit (.bool false)], args := [d1, d2] }
  | _ => none }
def FnRectAddWrongFalsely : Prop := fnRectAddRow.holds Try.pinned (OpenSpec.ofChange fnRectAddWrong)

/-- 'laws.FnRectAddWraps': WHATEVER THE INPUT: true; the input reads as it did. -/
def fnRectAddWrapsSpec : ChangeSpec := { name := "fnRectAddWraps", fn := fun _ => fun
  | [d1, d2] => { results := [.lit (.bool true)], args := [d1, d2] }
  | _ => none }
def fnRectAddWrapsRow : OpenClaim := { program := "ytngfknnlojadeaa", sum := "d53faaa0fb855348658602ddc504bfa00645a7b25bfa12fbd613237a913169ed", func := "loop.example/lib-g01190/laws.FnRectAddWraps", spec := "fnRectAddWraps", apart := false }
def FnRectAddWrapsSaid : Prop := fnRectAddWrapsRow.holds Try.pinned (OpenSpec.ofChange fnRectAddWrapsSpec)

/-- ITS FALSE NEIGHBOUR: 'it returns false'. Refute it at one input. -/
def fnRectAddWrapsWrong : ChangeSpec := { name := "fnRectAddWraps", fn := fun _ => fun
  | [d1, d2] => { results := [.lit (.bool false)], args := [d1, d2] }
  | _ => none }
def FnRectAddWrapsWrongFalsely : Prop := fnRectAddWrapsRow.holds Try.pinned (OpenSpec.ofChange fnRectAddWrapsWrong)

/-- 'laws.FnRectSub': WHATEVER THE INPUT: true; the input reads as it did. -/
def fnRectSubSpec : ChangeSpec := { name := "fnRectSub", fn := fun _ => fun
  | [d1, d2] => { results := [.lit (.bool true)], args := [d1, d2] }
  | _ => none }
def fnRectSubRow : OpenClaim := { program := "ytngfknnlojadeaa", sum := "d53faaa0fb855348658602ddc504bfa00645a7b25bfa12fbd613237a913169ed", func := "loop.example/lib-g01190/laws.FnRectSub", spec := "fnRectSub", apart := false }
def FnRectSubSaid : Prop := fnRectSubRow.holds Try.pinned (OpenSpec.ofChange fnRectSubSpec)

/-- ITS FALSE NEIGHBOUR: 'it returns false'. Refute it at one input. -/
def fnRectSubWrong : ChangeSpec := { name := "fnRectSub", fn := fun _ => fun
  | [d1, d2] => { results := [.lit (.bool false)], args := [d1, d2] }
  | _ => none }
def FnRectSubWrongFalsely : Prop := fnRectSubRow.holds Try.pinned (OpenSpec.ofChange fnRectSubWrong)

/-- 'laws.FnRectSubWraps': WHATEVER THE INPUT: true; the input reads as it did. -/
def fnRectSubWrapsSpec : ChangeSpec := { name := "fnRectSubWraps", fn := fun _ => fun
  | [d1, d2] => { results := [.lit (.bool true)], args := [d1, d2] }
  | _ => none }
def fnRectSubWrapsRow : OpenClaim := { program := "ytngfknnlojadeaa", sum := "d53faaa0fb855348658602ddc504bfa00645a7b25bfa12fbd613237a913169ed", func := "loop.example/lib-g01190/laws.FnRectSubWraps", spec := "fnRectSubWraps", apart := false }
def FnRectSubWrapsSaid : Prop := fnRectSubWrapsRow.holds Try.pinned (OpenSpec.ofChange fnRectSubWrapsSpec)

/-- ITS FALSE NEIGHBOUR: 'it returns false'. Refute it at one input. -/
def fnRectSubWrapsWrong : ChangeSpec := { name := "fnRectSubWraps", fn := fun _ => fun
  | [d1, d2] => { results := [.lit (.bool false)], args := [d1, d2] }
  | _ => none }
def FnRectSubWrapsWrongFalsely : Prop := fnRectSubWrapsRow.holds Try.pinned (OpenSpec.ofChange fnRectSubWrapsWrong)

/-- 'laws.FnAddThenSub': WHATEVER THE INPUT: true; the input reads as it did. -/
def fnAddThenSubSpec : ChangeSpec := { name := "fnAddThenSub", fn := fun _ => fun
  | [d1, d2, d3] => { results := [.lit (.bool true)], args := [d1, d2, d3] }
  | _ => none }
def fnAddThenSubRow : OpenClaim := { program := "ytngfknnlojadeaa", sum := "d53faaa0fb855348658602ddc504bfa00645a7b25bfa12fbd613237a913169ed", func := "loop.example/lib-g01190/laws.FnAddThenSub", spec := "fnAddThenSub", apart := false }
def FnAddThenSubSaid : Prop := fnAddThenSubRow.holds Try.pinned (OpenSpec.ofChange fnAddThenSubSpec)

/-- ITS FALSE NEIGHBOUR: 'it returns false'. Refute it at one input. -/
def fnAddThenSubWrong : ChangeSpec := { name := "fnAddThenSub", fn := fun _ => fun
  | [d1, d2, d3] => { results := [.lit (.bool false)], args := [d1, d2, d3] }
  | _ => none }
def FnAddThenSubWrongFalsely : Prop := fnAddThenSubRow.holds Try.pinned (OpenSpec.ofChange fnAddThenSubWrong)

/-- 'laws.FnMulThenDiv': WHATEVER THE INPUT: true; the input reads as it did. -/
def fnMulThenDivSpec : ChangeSpec := { name := "fnMulThenDiv", fn := fun _ => fun
  | [d1, d2] => { results := [.lit (.bool true)], args := [d1, d2] }
  | _ => none }
def fnMulThenDivRow : OpenClaim := { program := "ytngfknnlojadeaa", sum := "d53faaa0fb855348658602ddc504bfa00645a7b25bfa12fbd613237a913169ed", func := "loop.example/lib-g01190/laws.FnMulThenDiv", spec := "fnMulThenDiv", apart := false }
def FnMulThenDivSaid : Prop := fnMulThenDivRow.holds Try.pinned (OpenSpec.ofChange fnMulThenDivSpec)

/-- ITS FALSE NEIGHBOUR: 'it returns false'. Refute it at one input. -/
def fnMulThenDivWrong : ChangeSpec := { name := "fnMulThenDiv", fn := fun _ => fun
  | [d1, d2] => { results := [.lit (.bool false)], args := [d1, d2] }
  | _ => none }
def FnMulThenDivWrongFalsely : Prop := fnMulThenDivRow.holds Try.pinned (OpenSpec.ofChange fnMulThenDivWrong)

/-- 'laws.FnMulSpreads': WHATEVER THE INPUT: true; the input reads as it did. -/
def fnMulSpreadsSpec : ChangeSpec := { name := "fnMulSpreads", fn := fun _ => fun
  | [d1, d2, d3, d4] => { results := [.lit (.bool true)], args := [d1, d2, d3, d4] }
  | _ => none }
def fnMulSpreadsRow : OpenClaim := { program := "ytngfknnlojadeaa", sum := "d53faaa0fb855348658602ddc504bfa00645a7b25bfa12fbd613237a913169ed", func := "loop.example/lib-g01190/laws.FnMulSpreads", spec := "fnMulSpreads", apart := false }
def FnMulSpreadsSaid : Prop := fnMulSpreadsRow.holds Try.pinned (OpenSpec.ofChange fnMulSpreadsSpec)

/-- ITS FALSE NEIGHBOUR: 'it returns false'. Refute it at one input. -/
def fnMulSpreadsWrong : ChangeSpec := { name := "fnMulSpreads", fn := fun _ => fun
  | [d1, d2, d3, d4] => { results := [.lit (.bool false)], args := [d1, d2, d3, d4] }
  | _ => none }
def FnMulSpreadsWrongFalsely : Prop := fnMulSpreadsRow.holds Try.pinned (OpenSpec.ofChange fnMulSpreadsWrong)

/-- 'laws.FnPoints': WHATEVER THE INPUT: true; the input reads as it did. -/
def fnPointsSpec : ChangeSpec := { name := "fnPoints", fn := fun _ => fun
  | [d1, d2, d3] => { results := [.lit (.bool true)], args := [d1, d2, d3] }
  | _ => none }
def fnPointsRow : OpenClaim := { program := "ytngfknnlojadeaa", sum := "d53faaa0fb855348658602ddc504bfa00645a7b25bfa12fbd613237a913169ed", func := "loop.example/lib-g01190/laws.FnPoints", spec := "fnPoints", apart := false }
def FnPointsSaid : Prop := fnPointsRow.holds Try.pinned (OpenSpec.ofChange fnPointsSpec)

/-- ITS FALSE NEIGHBOUR: 'it returns false'. Refute it at one input. -/
def fnPointsWrong : ChangeSpec := { name := "fnPoints", fn := fun _ => fun
  | [d1, d2, d3] => { results := [.lit (.bool false)], args := [d1, d2, d3] }
  | _ => none }
def FnPointsWrongFalsely : Prop := fnPointsRow.holds Try.pinned (OpenSpec.ofChange fnPointsWrong)

/-- 'laws.FnRectSize': WHATEVER THE INPUT: true; the input reads as it did. -/
def fnRectSizeSpec : ChangeSpec := { name := "fnRectSize", fn := fun _ => fun
  | [d] => { results := [.lit (.bool true)], args := [d] }
  | _ => none }
def fnRectSizeRow : OpenClaim := { program := "ytngfknnlojadeaa", sum := "d53faaa0fb855348658602ddc504bfa00645a7b25bfa12fbd613237a913169ed", func := "loop.example/lib-g01190/laws.FnRectSize", spec := "fnRectSize", apart := false }
def FnRectSizeSaid : Prop := fnRectSizeRow.holds Try.pinned (OpenSpec.ofChange fnRectSizeSpec)

/-- ITS FALSE NEIGHBOUR: 'it returns false'. Refute it at one input. -/
def fnRectSizeWrong : ChangeSpec := { name := "fnRectSize", fn := fun _ => fun
  | [d] => { results := [.lit (.bool false)], args := [d] }
  | _ => none }
def FnRectSizeWrongFalsely : Prop := fnRectSizeRow.holds Try.pinned (OpenSpec.ofChange fnRectSizeWrong)

/-- 'laws.FnRectSizeAny': WHATEVER THE INPUT: true; the input reads as it did. -/
def fnRectSizeAnySpec : ChangeSpec := { name := "fnRectSizeAny", fn := fun _ => fun
  | [d] => { results := [.lit (.bool true)], args := [d] }
  | _ => none }
def fnRectSizeAnyRow : OpenClaim := { program := "ytngfknnlojadeaa", sum := "d53faaa0fb855348658602ddc504bfa00645a7b25bfa12fbd613237a913169ed", func := "loop.example/lib-g01190/laws.FnRectSizeAny", spec := "fnRectSizeAny", apart := false }
def FnRectSizeAnySaid : Prop := fnRectSizeAnyRow.holds Try.pinned (OpenSpec.ofChange fnRectSizeAnySpec)

/-- ITS FALSE NEIGHBOUR: 'it returns false'. Refute it at one input. -/
def fnRectSizeAnyWrong : ChangeSpec := { name := "fnRectSizeAny", fn := fun _ => fun
  | [d] => { results := [.lit (.bool false)], args := [d] }
  | _ => none }
def FnRectSizeAnyWrongFalsely : Prop := fnRectSizeAnyRow.holds Try.pinned (OpenSpec.ofChange fnRectSizeAnyWrong)

/- THE SECOND FORM. 'bulk': how many values and letters a reading holds, each counted each time it is reached (what is shared counts as often as it is met; a slice's spare places count too). A statement '..UptoSaid' is the law's where the arguments, and the package variables that the reading takes, are together of bulk at most 1048576: NARROWER than '..Said'. Prove '..Said' where nothing that the law and all that it calls make is longer than what came in: it says more and counts as full. Else prove '..UptoSaid'. A law counts once. -/
mutual
def uptoBulk {H : Type} : DataW H → Nat
  | .lit (.string bytes) => bytes.length + 1
  | .lit _ => 1
  | .nil => 1
  | .ptr d => uptoBulk d + 1
  | .slice elems spare => uptoBulkAll elems + uptoBulkAll spare + 1
  | .agg parts => uptoBulkAll parts + 1
  | .iface _ d => uptoBulk d + 1
  | .map entries => uptoBulkEntries entries + 1
  | .held _ => 1
def uptoBulkAll {H : Type} : List (DataW H) → Nat
  | [] => 0
  | d :: r => uptoBulk d + uptoBulkAll r
def uptoBulkEntries {H : Type} : List (Lit × DataW H) → Nat
  | [] => 0
  | x :: r => uptoBulkEntry x + uptoBulkEntries r
def uptoBulkEntry {H : Type} : Lit × DataW H → Nat
  | (.string bytes, d) => bytes.length + uptoBulk d + 1
  | (_, d) => uptoBulk d + 1
 end
def uptoSmall : (H : Type) → List (DataW H) → Bool := fun _ ds => decide (uptoBulkAll ds ≤ 1048576)
def OpenSpec.upto (s : _root_.Go.ChangeSpec) : _root_.Go.OpenSpec := { _root_.Go.OpenSpec.ofChange s with cond := some uptoSmall }

/-- 'laws.FnCorners', WHERE WHAT IT READS IS OF BULK AT MOST 1048576: true; the input reads as it did. -/
def fnCornersUptoRow : OpenClaim := { program := "ytngfknnlojadeaa", sum := "d53faaa0fb855348658602ddc504bfa00645a7b25bfa12fbd613237a913169ed", func := "loop.example/lib-g01190/laws.FnCorners", spec := "fnCorners", apart := false, narrowed := true }
def FnCornersUptoSaid : Prop := fnCornersUptoRow.holds Try.pinned (OpenSpec.upto fnCornersSpec)

/-- 'laws.FnExactPointIn', WHERE WHAT IT READS IS OF BULK AT MOST 1048576: true; the input reads as it did. -/
def fnExactPointInUptoRow : OpenClaim := { program := "ytngfknnlojadeaa", sum := "d53faaa0fb855348658602ddc504bfa00645a7b25bfa12fbd613237a913169ed", func := "loop.example/lib-g01190/laws.FnExactPointIn", spec := "fnExactPointIn", apart := false, narrowed := true }
def FnExactPointInUptoSaid : Prop := fnExactPointInUptoRow.holds Try.pinned (OpenSpec.upto fnExactPointInSpec)

/-- 'laws.FnRectAdd', WHERE WHAT IT READS IS OF BULK AT MOST 1048576: true; the input reads as it did. -/
def fnRectAddUptoRow : OpenClaim := { program := "ytngfknnlojadeaa", sum := "d53faaa0fb855348658602ddc504bfa00645a7b25bfa12fbd613237a913169ed", func := "loop.example/lib-g01190/laws.FnRectAdd", spec := "fnRectAdd", apart := false, narrowed := true }
def FnRectAddUptoSaid : Prop := fnRectAddUptoRow.holds Try.pinned (OpenSpec.upto fnRectAddSpec)

/-- 'laws.FnRectAddWraps', WHERE WHAT IT READS IS OF BULK AT MOST 1048576: true; the input reads as it did. -/
def fnRectAddWrapsUptoRow : OpenClaim := { program := "ytngfknnlojadeaa", sum := "d53faaa0fb855348658602ddc504bfa00645a7b25bfa12fbd613237a913169ed", func := "loop.example/lib-g01190/laws.FnRectAddWraps", spec := "fnRectAddWraps", apart := false, narrowed := true }
def FnRectAddWrapsUptoSaid : Prop := fnRectAddWrapsUptoRow.holds Try.pinned (OpenSpec.upto fnRectAddWrapsSpec)

/-- 'laws.FnRectSub', WHERE WHAT IT READS IS OF BULK AT MOST 1048576: true; the input reads as it did. -/
def fnRectSubUptoRow : OpenClaim := { program := "ytngfknnlojadeaa", sum := "d53faaa0fb855348658602ddc504bfa00645a7b25bfa12fbd613237a913169ed", func := "loop.example/lib-g01190/laws.FnRectSub", spec := "fnRectSub", apart := false, narrowed := true }
def FnRectSubUptoSaid : Prop := fnRectSubUptoRow.holds Try.pinned (OpenSpec.upto fnRectSubSpec)

/-- 'laws.FnRectSubWraps', WHERE WHAT IT READS IS OF BULK AT MOST 1048576: true; the input reads as it did. -/
def fnRectSubWrapsUptoRow : OpenClaim := { program := "ytngfknnlojadeaa", sum := "d53faaa0fb855348658602ddc504bfa00645a7b25bfa12fbd613237a913169ed", func := "loop.example/lib-g01190/laws.FnRectSubWraps", spec := "fnRectSubWraps", apart := false, narrowed := true }
def FnRectSubWrapsUptoSaid : Prop := fnRectSubWrapsUptoRow.holds Try.pinned (OpenSpec.upto fnRectSubWrapsSpec)

/-- 'laws.FnAddThenSub', WHERE WHAT IT READS IS OF BULK AT MOST 1048576: true; the input reads as it did. -/
def fnAddThenSubUptoRow : OpenClaim := { program := "ytngfknnlojadeaa", sum := "d53faaa0fb855348658602ddc504bfa00645a7b25bfa12fbd613237a913169ed", func := "loop.example/lib-g01190/laws.FnAddThenSub", spec := "fnAddThenSub", apart := false, narrowed := true }
def FnAddThenSubUptoSaid : Prop := fnAddThenSubUptoRow.holds Try.pinned (OpenSpec.upto fnAddThenSubSpec)

/-- 'laws.FnMulThenDiv', WHERE WHAT IT READS IS OF BULK AT MOST 1048576: true; the input reads as it did. -/
def fnMulThenDivUptoRow : OpenClaim := { program := "ytngfknnlojadeaa", sum := "d53faaa0fb855348658602ddc504bfa00645a7b25bfa12fbd613237a913169ed", func := "loop.example/lib-g01190/laws.FnMulThenDiv", spec := "fnMulThenDiv", apart := false, narrowed := true }
def FnMulThenDivUptoSaid : Prop := fnMulThenDivUptoRow.holds Try.pinned (OpenSpec.upto fnMulThenDivSpec)

/-- 'laws.FnMulSpreads', WHERE WHAT IT READS IS OF BULK AT MOST 1048576: true; the input reads as it did. -/
def fnMulSpreadsUptoRow : OpenClaim := { program := "ytngfknnlojadeaa", sum := "d53faaa0fb855348658602ddc504bfa00645a7b25bfa12fbd613237a913169ed", func := "loop.example/lib-g01190/laws.FnMulSpreads", spec := "fnMulSpreads", apart := false, narrowed := true }
def FnMulSpreadsUptoSaid : Prop := fnMulSpreadsUptoRow.holds Try.pinned (OpenSpec.upto fnMulSpreadsSpec)

/-- 'laws.FnPoints', WHERE WHAT IT READS IS OF BULK AT MOST 1048576: true; the input reads as it did. -/
def fnPointsUptoRow : OpenClaim := { program := "ytngfknnlojadeaa", sum := "d53faaa0fb855348658602ddc504bfa00645a7b25bfa12fbd613237a913169ed", func := "loop.example/lib-g01190/laws.FnPoints", spec := "fnPoints", apart := false, narrowed := true }
def FnPointsUptoSaid : Prop := fnPointsUptoRow.holds Try.pinned (OpenSpec.upto fnPointsSpec)

/-- 'laws.FnRectSize', WHERE WHAT IT READS IS OF BULK AT MOST 1048576: true; the input reads as it did. -/
def fnRectSizeUptoRow : OpenClaim := { program := "ytngfknnlojadeaa", sum := "d53faaa0fb855348658602ddc504bfa00645a7b25bfa12fbd613237a913169ed", func := "loop.example/lib-g01190/laws.FnRectSize", spec := "fnRectSize", apart := false, narrowed := true }
def FnRectSizeUptoSaid : Prop := fnRectSizeUptoRow.holds Try.pinned (OpenSpec.upto fnRectSizeSpec)

/-- 'laws.FnRectSizeAny', WHERE WHAT IT READS IS OF BULK AT MOST 1048576: true; the input reads as it did. -/
def fnRectSizeAnyUptoRow : OpenClaim := { program := "ytngfknnlojadeaa", sum := "d53faaa0fb855348658602ddc504bfa00645a7b25bfa12fbd613237a913169ed", func := "loop.example/lib-g01190/laws.FnRectSizeAny", spec := "fnRectSizeAny", apart := false, narrowed := true }
def FnRectSizeAnyUptoSaid : Prop := fnRectSizeAnyUptoRow.holds Try.pinned (OpenSpec.upto fnRectSizeAnySpec)

end Rows
end Go.Proofs.Ytngfknnlojadeaa
