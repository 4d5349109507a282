/-
  No cell of these rows narrows 'for every input' (looked for: loops, veiled, ifaces, maps, wideKeys, modest, calm, conditions, laid).
  DERIVED. THE GIVEN ROWS OF THIS SEAT. 12 by the template 'for every input the law returns true; each argument reads behind the call as it read before'; 0 by the template 'total and deterministic' (their statements: YtockppelodnhlaaTotals.lean).
  GIVEN WITH THE SEED: the statements are not yours to turn. If you find one false, say at which input.
  Laid BY PROGRAM, IN A SANDBOX (cutbox-rows.mjs): the forced cells as the released guide's own fill.sh prints them over the translation 2814e7775fff1d1a… (all of the seat's roots in one cut). By AI agents, Wed Nov 11 2026. No macro, syntax, notation, axiom, sorry.
-/
import Derived.Test.YtockppelodnhlaaChecked
import GoSem.Claim
import GoSem.ClaimJoined
import GoSem.ClaimMapViews
import Derived.JoinedTies
import Derived.KernelRfl
namespace Go.Proofs.Ytockppelodnhlaa
/- THE CELL 'sum', in the pinned program and in every row, IS THE sha256 OF THE DUMP (.gsa) THAT YtockppelodnhlaaProg.lean LOADS. Nothing in Lean hashes anything: it is a label: what it is worth is what the hold of that sum in a sandbox is worth. -/
noncomputable def Try.pinned : Pinned := { name := "ytockppelodnhlaa", sum := "2814e7775fff1d1aa826bd1baa3b9df87160fd2c48aad3e5baaaafaa4ff7faec", checked := Try.checked }
namespace Rows
def none {H : Type} : Left H := { results := [], args := [] }

/-- 'laws.FnExactNewPoint': WHATEVER THE INPUT: true; the input reads as it did. -/
def fnExactNewPointSpec : ChangeSpec := { name := "fnExactNewPoint", fn := fun _ => fun
  | [d1, d2] => { results := [.lit (.bool true)], args := [d1, d2] }
  | _ => none }
def fnExactNewPointRow : OpenClaim := { program := "ytockppelodnhlaa", sum := "2814e7775fff1d1aa826bd1baa3b9df87160fd2c48aad3e5baaaafaa4ff7faec", func := "loop.example/lib-g01190/laws.FnExactNewPoint", spec := "fnExactNewPoint", apart := false }
def FnExactNewPointSaid : Prop := fnExactNewPointRow.holds Try.pinned (OpenSpec.ofChange fnExactNewPointSpec)

/-- ITS FALSE NEIGHBOUR: 'it returns false'. Refute it at one input. -/
def fnExactNewPointWrong : ChangeSpec := { name := "fnExactNewPoint", fn := fun _ => fun
  | [d1, d2] => { results := [.lit (.bool false)], args := [d1, d2] }
  | _ => none }
def FnExactNewPointWrongFalsely : Prop := fnExactNewPointRow.holds Try.pinned (OpenSpec.ofChange fnExactNewPointWrong)

/-- 'laws.FnExactPointEq': WHATEVER THE INPUT: true; the input reads as it did. -/
def fnExactPointEqSpec : ChangeSpec := { name := "fnExactPointEq", fn := fun _ => fun
  | [d1, d2] => { results := [.lit (.bool true)], args := [d1, d2] }
  | _ => none }
def fnExactPointEqRow : OpenClaim := { program := "ytockppelodnhlaa", sum := "2814e7775fff1d1aa826bd1baa3b9df87160fd2c48aad3e5baaaafaa4ff7faec", func := "loop.example/lib-g01190/laws.FnExactPointEq", spec := "fnExactPointEq", apart := false }
def FnExactPointEqSaid : Prop := fnExactPointEqRow.holds Try.pinned (OpenSpec.ofChange fnExactPointEqSpec)

/-- ITS FALSE NEIGHBOUR: 'it returns false'. Refute it at one input. -/
def fnExactPointEqWrong : ChangeSpec := { name := "fnExactPointEq", fn := fun _ => fun
  | [d1, d2] => { results := [.lit (.bool false)], args := [d1, d2] }
  | _ => none }
def FnExactPointEqWrongFalsely : Prop := fnExactPointEqRow.holds Try.pinned (OpenSpec.ofChange fnExactPointEqWrong)

/-- 'laws.FnDivSteps': WHATEVER THE INPUT: true; the input reads as it did. -/
def fnDivStepsSpec : ChangeSpec := { name := "fnDivSteps", fn := fun _ => fun
  | [d1, d2, d3] => { results := [.lit (.bool true)], args := [d1, d2, d3] }
  | _ => none }
def fnDivStepsRow : OpenClaim := { program := "ytockppelodnhlaa", sum := "2814e7775fff1d1aa826bd1baa3b9df87160fd2c48aad3e5baaaafaa4ff7faec", func := "loop.example/lib-g01190/laws.FnDivSteps", spec := "fnDivSteps", apart := false }
def FnDivStepsSaid : Prop := fnDivStepsRow.holds Try.pinned (OpenSpec.ofChange fnDivStepsSpec)

/-- ITS FALSE NEIGHBOUR: 'it returns false'. Refute it at one input. -/
def fnDivStepsWrong : ChangeSpec := { name := "fnDivSteps", fn := fun _ => fun
  | [d1, d2, d3] => { results := [.lit (.bool false)], args := [d1, d2, d3] }
  | _ => none }
def FnDivStepsWrongFalsely : Prop := fnDivStepsRow.holds Try.pinned (OpenSpec.ofChange fnDivStepsWrong)

/-- 'laws.FnExactRectEmpty': WHATEVER THE INPUT: true; the input reads as it did. -/
def fnExactRectEmptySpec : ChangeSpec := { name := "fnExactRectEmpty", fn := fun _ => fun
  | [d] => { results := [.lit (.bool true)], args := [d] }
  | _ => none }
def fnExactRectEmptyRow : OpenClaim := { program := "ytockppelodnhlaa", sum := "2814e7775fff1d1aa826bd1baa3b9df87160fd2c48aad3e5baaaafaa4ff7faec", func := "loop.example/lib-g01190/laws.FnExactRectEmpty", spec := "fnExactRectEmpty", apart := false }
def FnExactRectEmptySaid : Prop := fnExactRectEmptyRow.holds Try.pinned (OpenSpec.ofChange fnExactRectEmptySpec)

/-- ITS FALSE NEIGHBOUR: 'it returns false'. Refute it at one input. -/
def fnExactRectEmptyWrong : ChangeSpec := { name := "fnExactRectEmpty", fn := fun _ => fun
  | [d] => { results := [.lit (.bool false)], args := [d] }
  | _ => none }
def FnExactRectEmptyWrongFalsely : Prop := fnExactRectEmptyRow.holds Try.pinned (OpenSpec.ofChange fnExactRectEmptyWrong)

/-- 'laws.FnPointAdd': WHATEVER THE INPUT: true; the input reads as it did. -/
def fnPointAddSpec : ChangeSpec := { name := "fnPointAdd", fn := fun _ => fun
  | [d1, d2] => { results := [.lit (.bool true)], args := [d1, d2] }
  | _ => none }
def fnPointAddRow : OpenClaim := { program := "ytockppelodnhlaa", sum := "2814e7775fff1d1aa826bd1baa3b9df87160fd2c48aad3e5baaaafaa4ff7faec", func := "loop.example/lib-g01190/laws.FnPointAdd", spec := "fnPointAdd", apart := false }
def FnPointAddSaid : Prop := fnPointAddRow.holds Try.pinned (OpenSpec.ofChange fnPointAddSpec)

/-- ITS FALSE NEIGHBOUR: 'it returns false'. Refute it at one input. -/
def fnPointAddWrong : ChangeSpec := { name := "fnPointAdd", fn := fun _ => fun
  | [d1, d2] => { results := [.lit (.bool false)], args := [d1, d2] }
  | _ => none }
def FnPointAddWrongFalsely : Prop := fnPointAddRow.holds Try.pinned (OpenSpec.ofChange fnPointAddWrong)

/-- 'laws.FnPointAddWraps': WHATEVER THE INPUT: true; the input reads as it did. -/
def fnPointAddWrapsSpec : ChangeSpec := { name := "fnPointAddWraps", fn := fun _ => fun
  | [d1, d2] => { results := [.lit (.bool true)], args := [d1, d2] }
  | _ => none }
def fnPointAddWrapsRow : OpenClaim := { program := "ytockppelodnhlaa", sum := "2814e7775fff1d1aa826bd1baa3b9df87160fd2c48aad3e5baaaafaa4ff7faec", func := "loop.example/lib-g01190/laws.FnPointAddWraps", spec := "fnPointAddWraps", apart := false }
def FnPointAddWrapsSaid : Prop := fnPointAddWrapsRow.holds Try.pinned (OpenSpec.ofChange fnPointAddWrapsSpec)

/-- ITS FALSE NEIGHBOUR: 'it returns false'. Refute it at one input. -/
def fnPointAddWrapsWrong : ChangeSpec := { name := "fnPointAddWraps", fn := fun _ => fun
  | [d1, d2] => { results := [.lit (.bool false)], args := [d1, d2] }
  | _ => none }
def FnPointAddWrapsWrongFalsely : Prop := fnPointAddWrapsRow.holds Try.pinned (OpenSpec.ofChange fnPointAddWrapsWrong)

/-- 'laws.FnPointDiv': WHATEVER THE INPUT: true; the input reads as it did. -/
def fnPointDivSpec : ChangeSpec := { name := "fnPointDiv", fn := fun _ => fun
  | [d1, d2] => { results := [.lit (.bool true)], args := [d1, d2] }
  | _ => none }
def fnPointDivRow : OpenClaim := { program := "ytockppelodnhlaa", sum := "2814e7775fff1d1aa826bd1baa3b9df87160fd2c48aad3e5baaaafaa4ff7faec", func := "loop.example/lib-g01190/laws.FnPointDiv", spec := "fnPointDiv", apart := false }
def FnPointDivSaid : Prop := fnPointDivRow.holds Try.pinned (OpenSpec.ofChange fnPointDivSpec)

/-- ITS FALSE NEIGHBOUR: 'it returns false'. Refute it at one input. -/
def fnPointDivWrong : ChangeSpec := { name := "fnPointDiv", fn := fun _ => fun
  | [d1, d2] => { results := [.lit (.bool false)], args := [d1, d2] }
  | _ => none }
def FnPointDivWrongFalsely : Prop := fnPointDivRow.holds Try.pinned (OpenSpec.ofChange fnPointDivWrong)

/-- 'laws.FnPointDivLeast': WHATEVER THE INPUT: true; the input reads as it did. -/
def fnPointDivLeastSpec : ChangeSpec := { name := "fnPointDivLeast", fn := fun _ => fun
  | [d] => { results := [.lit (.bool true)], args := [d] }
  | _ => none }
def fnPointDivLeastRow : OpenClaim := { program := "ytockppelodnhlaa", sum := "2814e7775fff1d1aa826bd1baa3b9df87160fd2c48aad3e5baaaafaa4ff7faec", func := "loop.example/lib-g01190/laws.FnPointDivLeast", spec := "fnPointDivLeast", apart := false }
def FnPointDivLeastSaid : Prop := fnPointDivLeastRow.holds Try.pinned (OpenSpec.ofChange fnPointDivLeastSpec)

/-- ITS FALSE NEIGHBOUR: 'it returns false'. Refute it at one input. -/
def fnPointDivLeastWrong : ChangeSpec := { name := "fnPointDivLeast", fn := fun _ => fun
  | [d] => { results := [.lit (.bool false)], args := [d] }
  | _ => none }
def FnPointDivLeastWrongFalsely : Prop := fnPointDivLeastRow.holds Try.pinned (OpenSpec.ofChange fnPointDivLeastWrong)

/-- 'laws.FnPointMul': WHATEVER THE INPUT: true; the input reads as it did. -/
def fnPointMulSpec : ChangeSpec := { name := "fnPointMul", fn := fun _ => fun
  | [d1, d2] => { results := [.lit (.bool true)], args := [d1, d2] }
  | _ => none }
def fnPointMulRow : OpenClaim := { program := "ytockppelodnhlaa", sum := "2814e7775fff1d1aa826bd1baa3b9df87160fd2c48aad3e5baaaafaa4ff7faec", func := "loop.example/lib-g01190/laws.FnPointMul", spec := "fnPointMul", apart := false }
def FnPointMulSaid : Prop := fnPointMulRow.holds Try.pinned (OpenSpec.ofChange fnPointMulSpec)

/-- ITS FALSE NEIGHBOUR: 'it returns false'. Refute it at one input. -/
def fnPointMulWrong : ChangeSpec := { name := "fnPointMul", fn := fun _ => fun
  | [d1, d2] => { results := [.lit (.bool false)], args := [d1, d2] }
  | _ => none }
def FnPointMulWrongFalsely : Prop := fnPointMulRow.holds Try.pinned (OpenSpec.ofChange fnPointMulWrong)

/-- 'laws.FnPointMulWraps': WHATEVER THE INPUT: true; the input reads as it did. -/
def fnPointMulWrapsSpec : ChangeSpec := { name := "fnPointMulWraps", fn := fun _ => fun
  | [d1, d2] => { results := [.lit (.bool true)], args := [d1, d2] }
  | _ => none }
def fnPointMulWrapsRow : OpenClaim := { program := "ytockppelodnhlaa", sum := "2814e7775fff1d1aa826bd1baa3b9df87160fd2c48aad3e5baaaafaa4ff7faec", func := "loop.example/lib-g01190/laws.FnPointMulWraps", spec := "fnPointMulWraps", apart := false }
def FnPointMulWrapsSaid : Prop := fnPointMulWrapsRow.holds Try.pinned (OpenSpec.ofChange fnPointMulWrapsSpec)

/-- ITS FALSE NEIGHBOUR: 'it returns false'. Refute it at one input. -/
def fnPointMulWrapsWrong : ChangeSpec := { name := "fnPointMulWraps", fn := fun _ => fun
  | [d1, d2] => { results := [.lit (.bool false)], args := [d1, d2] }
  | _ => none }
def FnPointMulWrapsWrongFalsely : Prop := fnPointMulWrapsRow.holds Try.pinned (OpenSpec.ofChange fnPointMulWrapsWrong)

/-- 'laws.FnPointSub': WHATEVER THE INPUT: true; the input reads as it did. -/
def fnPointSubSpec : ChangeSpec := { name := "fnPointSub", fn := fun _ => fun
  | [d1, d2] => { results := [.lit (.bool true)], args := [d1, d2] }
  | _ => none }
def fnPointSubRow : OpenClaim := { program := "ytockppelodnhlaa", sum := "2814e7775fff1d1aa826bd1baa3b9df87160fd2c48aad3e5baaaafaa4ff7faec", func := "loop.example/lib-g01190/laws.FnPointSub", spec := "fnPointSub", apart := false }
def FnPointSubSaid : Prop := fnPointSubRow.holds Try.pinned (OpenSpec.ofChange fnPointSubSpec)

/-- ITS FALSE NEIGHBOUR: 'it returns false'. Refute it at one input. -/
def fnPointSubWrong : ChangeSpec := { name := "fnPointSub", fn := fun _ => fun
  | [d1, d2] => { results := [.lit (.bool false)], args := [d1, d2] }
  | _ => none }
def FnPointSubWrongFalsely : Prop := fnPointSubRow.holds Try.pinned (OpenSpec.ofChange fnPointSubWrong)

/-- 'laws.FnPointSubWraps': WHATEVER THE INPUT: true; the input reads as it did. -/
def fnPointSubWrapsSpec : ChangeSpec := { name := "fnPointSubWraps", fn := fun _ => fun
  | [d1, d2] => { results := [.lit (.bool true)], args := [d1, d2] }
  | _ => none }
def fnPointSubWrapsRow : OpenClaim := { program := "ytockppelodnhlaa", sum := "2814e7775fff1d1aa826bd1baa3b9df87160fd2c48aad3e5baaaafaa4ff7faec", func := "loop.example/lib-g01190/laws.FnPointSubWraps", spec := "fnPointSubWraps", apart := false }
def FnPointSubWrapsSaid : Prop := fnPointSubWrapsRow.holds Try.pinned (OpenSpec.ofChange fnPointSubWrapsSpec)

/-- ITS FALSE NEIGHBOUR: 'it returns false'. Refute it at one input. -/
def fnPointSubWrapsWrong : ChangeSpec := { name := "fnPointSubWraps", fn := fun _ => fun
  | [d1, d2] => { results := [.lit (.bool false)], args := [d1, d2] }
  | _ => none }
def FnPointSubWrapsWrongFalsely : Prop := fnPointSubWrapsRow.holds Try.pinned (OpenSpec.ofChange fnPointSubWrapsWrong)

/- THE SECOND FORM. 'bulk': how many values and letters a reading holds, each counted each time it is reached (what is shared counts as often as it is met; a slice's spare places count too). A statement '..UptoSaid' is the law's where the arguments, and the package variables that the reading takes, are together of bulk at most 1048576: NARROWER than '..Said'. Prove '..Said' where nothing that the law and all that it calls make is longer than what came in: it says more and counts as full. Else prove '..UptoSaid'. A law counts once. -/
mutual
def uptoBulk {H : Type} : DataW H → Nat
  | .lit (.string bytes) => bytes.length + 1
  | .lit _ => 1
  | .nil => 1
  | .ptr d => uptoBulk d + 1
  | .slice elems spare => uptoBulkAll elems + uptoBulkAll spare + 1
  | .agg parts => uptoBulkAll parts + 1
  | .iface _ d => uptoBulk d + 1
  | .map entries => uptoBulkEntries entries + 1
  | .held _ => 1
def uptoBulkAll {H : Type} : List (DataW H) → Nat
  | [] => 0
  | d :: r => uptoBulk d + uptoBulkAll r
def uptoBulkEntries {H : Type} : List (Lit × DataW H) → Nat
  | [] => 0
  | x :: r => uptoBulkEntry x + uptoBulkEntries r
def uptoBulkEntry {H : Type} : Lit × DataW H → Nat
  | (.string bytes, d) => bytes.length + uptoBulk d + 1
  | (_, d) => uptoBulk d + 1
 end
def uptoSmall : (H : Type) → List (DataW H) → Bool := fun _ ds => decide (uptoBulkAll ds ≤ 1048576)
def OpenSpec.upto (s : _root_.Go.ChangeSpec) : _root_.Go.OpenSpec := { _root_.Go.OpenSpec.ofChange s with cond := some uptoSmall }

/-- 'laws.FnExactNewPoint', WHERE WHAT IT READS IS OF BULK AT MOST 1048576: true; the input reads as it did. -/
def fnExactNewPointUptoRow : OpenClaim := { program := "ytockppelodnhlaa", sum := "2814e7775fff1d1aa826bd1baa3b9df87160fd2c48aad3e5baaaafaa4ff7faec", func := "loop.example/lib-g01190/laws.FnExactNewPoint", spec := "fnExactNewPoint", apart := false, narrowed := true }
def FnExactNewPointUptoSaid : Prop := fnExactNewPointUptoRow.holds Try.pinned (OpenSpec.upto fnExactNewPointSpec)

/-- 'laws.FnExactPointEq', WHERE WHAT IT READS IS OF BULK AT MOST 1048576: true; the input reads as it did. -/
def fnExactPointEqUptoRow : OpenClaim := { program := "ytockppelodnhlaa", sum := "2814e7775fff1d1aa826bd1baa3b9df87160fd2c48aad3e5baaaafaa4ff7faec", func := "loop.example/lib-g01190/laws.FnExactPointEq", spec := "fnExactPointEq", apart := false, narrowed := true }
def FnExactPointEqUptoSaid : Prop := fnExactPointEqUptoRow.holds Try.pinned (OpenSpec.upto fnExactPointEqSpec)

/-- 'laws.FnDivSteps', WHERE WHAT IT READS IS OF BULK AT MOST 1048576: true; the input reads as it did. -/
def fnDivStepsUptoRow : OpenClaim := { program := "ytockppelodnhlaa", sum := "2814e7775fff1d1aa826bd1baa3b9df87160fd2c48aad3e5baaaafaa4ff7faec", func := "loop.example/lib-g01190/laws.FnDivSteps", spec := "fnDivSteps", apart := false, narrowed := true }
def FnDivStepsUptoSaid : Prop := fnDivStepsUptoRow.holds Try.pinned (OpenSpec.upto fnDivStepsSpec)

/-- 'laws.FnExactRectEmpty', WHERE WHAT IT READS IS OF BULK AT MOST 1048576: true; the input reads as it did. -/
def fnExactRectEmptyUptoRow : OpenClaim := { program := "ytockppelodnhlaa", sum := "2814e7775fff1d1aa826bd1baa3b9df87160fd2c48aad3e5baaaafaa4ff7faec", func := "loop.example/lib-g01190/laws.FnExactRectEmpty", spec := "fnExactRectEmpty", apart := false, narrowed := true }
def FnExactRectEmptyUptoSaid : Prop := fnExactRectEmptyUptoRow.holds Try.pinned (OpenSpec.upto fnExactRectEmptySpec)

/-- 'laws.FnPointAdd', WHERE WHAT IT READS IS OF BULK AT MOST 1048576: true; the input reads as it did. -/
def fnPointAddUptoRow : OpenClaim := { program := "ytockppelodnhlaa", sum := "2814e7775fff1d1aa826bd1baa3b9df87160fd2c48aad3e5baaaafaa4ff7faec", func := "loop.example/lib-g01190/laws.FnPointAdd", spec := "fnPointAdd", apart := false, narrowed := true }
def FnPointAddUptoSaid : Prop := fnPointAddUptoRow.holds Try.pinned (OpenSpec.upto fnPointAddSpec)

/-- 'laws.FnPointAddWraps', WHERE WHAT IT READS IS OF BULK AT MOST 1048576: true; the input reads as it did. -/
def fnPointAddWrapsUptoRow : OpenClaim := { program := "ytockppelodnhlaa", sum := "2814e7775fff1d1aa826bd1baa3b9df87160fd2c48aad3e5baaaafaa4ff7faec", func := "loop.example/lib-g01190/laws.FnPointAddWraps", spec := "fnPointAddWraps", apart := false, narrowed := true }
def FnPointAddWrapsUptoSaid : Prop := fnPointAddWrapsUptoRow.holds Try.pinned (OpenSpec.upto fnPointAddWrapsSpec)

/-- 'laws.FnPointDiv', WHERE WHAT IT READS IS OF BULK AT MOST 1048576: true; the input reads as it did. -/
def fnPointDivUptoRow : OpenClaim := { program := "ytockppelodnhlaa", sum := "2814e7775fff1d1aa826bd1baa3b9df87160fd2c48aad3e5baaaafaa4ff7faec", func := "loop.example/lib-g01190/laws.FnPointDiv", spec := "fnPointDiv", apart := false, narrowed := true }
def FnPointDivUptoSaid : Prop := fnPointDivUptoRow.holds Try.pinned (OpenSpec.upto fnPointDivSpec)

/-- 'laws.FnPointDivLeast', WHERE WHAT IT READS IS OF BULK AT MOST 1048576: true; the input reads as it did. -/
def fnPointDivLeastUptoRow : OpenClaim := { program := "ytockppelodnhlaa", sum := "2814e7775fff1d1aa826bd1baa3b9df87160fd2c48aad3e5baaaafaa4ff7faec", func := "loop.example/lib-g01190/laws.FnPointDivLeast", spec := "fnPointDivLeast", apart := false, narrowed := true }
def FnPointDivLeastUptoSaid : Prop := fnPointDivLeastUptoRow.holds Try.pinned (OpenSpec.upto fnPointDivLeastSpec)

/-- 'laws.FnPointMul', WHERE WHAT IT READS IS OF BULK AT MOST 1048576: true; the input reads as it did. -/
def fnPointMulUptoRow : OpenClaim := { program := "ytockppelodnhlaa", sum := "2814e7775fff1d1aa826bd1baa3b9df87160fd2c48aad3e5baaaafaa4ff7faec", func := "loop.example/lib-g01190/laws.FnPointMul", spec := "fnPointMul", apart := false, narrowed := true }
def FnPointMulUptoSaid : Prop := fnPointMulUptoRow.holds Try.pinned (OpenSpec.upto fnPointMulSpec)

/-- 'laws.FnPointMulWraps', WHERE WHAT IT READS IS OF BULK AT MOST 1048576: true; the input reads as it did. -/
def fnPointMulWrapsUptoRow : OpenClaim := { program := "ytockppelodnhlaa", sum := "2814e7775fff1d1aa826bd1baa3b9df87160fd2c48aad3e5baaaafaa4ff7faec", func := "loop.example/lib-g01190/laws.FnPointMulWraps", spec := "fnPointMulWraps", apart := false, narrowed := true }
def FnPointMulWrapsUptoSaid : Prop := fnPointMulWrapsUptoRow.holds Try.pinned (OpenSpec.upto fnPointMulWrapsSpec)

/-- 'laws.FnPointSub', WHERE WHAT IT READS IS OF BULK AT MOST 1048576: true; the input reads as it did. -/
def fnPointSubUptoRow : OpenClaim := { program := "ytockppelodnhlaa", sum := "2814e7775fff1d1aa826bd1baa3b9df87160fd2c48aad3e5baaaafaa4ff7faec", func := "loop.example/lib-g01190/laws.FnPointSub", spec := "fnPointSub", apart := false, narrowed := true }
def FnPointSubUptoSaid : Prop := fnPointSubUptoRow.holds Try.pinned (OpenSpec.upto fnPointSubSpec)

/-- 'laws.FnPointSubWraps', WHERE WHAT IT READS IS OF BULK AT MOST 1048576: true; the input reads as it did. -/
def fnPointSubWrapsUptoRow : OpenClaim := { program := "ytockppelodnhlaa", sum := "2814e7775fff1d1aa826bd1baa3b9df87160fd2c48aad3e5baaaafaa4ff7faec", func := "loop.example/lib-g01190/laws.FnPointSubWraps", spec := "fnPointSubWraps", apart := false, narrowed := true }
def FnPointSubWrapsUptoSaid : Prop := fnPointSubWrapsUptoRow.holds Try.pinned (OpenSpec.upto fnPointSubWrapsSpec)

end Rows
end Go.Proofs.Ytockppelodnhlaa
