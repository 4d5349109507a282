/-
  No cell of these rows narrows 'for every input' (looked for: loops, veiled, ifaces, maps, wideKeys, modest, calm, conditions, laid).
  DERIVED. THE GIVEN ROWS OF THIS SEAT. 12 by the template 'for every input the law returns true; each argument reads behind the call as it read before'; 0 by the template 'total and deterministic' (their statements: YtfhimelhfckjdaaTotals.lean).
  GIVEN WITH THE SEED: the statements are not yours to turn. If you find one false, say at which input.
  Laid BY PROGRAM, IN A SANDBOX (cutbox-rows.mjs): the forced cells as the released guide's own fill.sh prints them over the translation ab408fdca6c622b5… (all of the seat's roots in one cut). By AI agents, Wed Nov 11 2026. No macro, syntax, notation, axiom, sorry.
-/
import Derived.Test.YtfhimelhfckjdaaChecked
import GoSem.Claim
import GoSem.ClaimJoined
import GoSem.ClaimMapViews
import Derived.JoinedTies
import Derived.KernelRfl
namespace Go.Proofs.Ytfhimelhfckjdaa
/- THE CELL 'sum', in the pinned program and in every row, IS THE sha256 OF THE DUMP (.gsa) THAT YtfhimelhfckjdaaProg.lean LOADS. Nothing in Lean hashes anything: it is a label: what it is worth is what the hold of that sum in a sandbox is worth. -/
noncomputable def Try.pinned : Pinned := { name := "ytfhimelhfckjdaa", sum := "ab408fdca6c622b51b5ef88fbdf2f4846bd84c275b6053550fab868b629c1bf2", checked := Try.checked }
namespace Rows
def none {H : Type} : Left H := { results := [], args := [] }

/-- 'laws.FnInset': WHATEVER THE INPUT: true; the input reads as it did. -/
def fnInsetSpec : ChangeSpec := { name := "fnInset", fn := fun _ => fun
  | [d1, d2] => { results := [.lit (.bool true)], args := [d1, d2] }
  | _ => none }
def fnInsetRow : OpenClaim := { program := "ytfhimelhfckjdaa", sum := "ab408fdca6c622b51b5ef88fbdf2f4846bd84c275b6053550fab868b629c1bf2", func := "loop.example/lib-g01190/laws.FnInset", spec := "fnInset", apart := false }
def FnInsetSaid : Prop := fnInsetRow.holds Try.pinned (OpenSpec.ofChange fnInsetSpec)

/-- ITS FALSE NEIGHBOUR: 'it returns false'. Refute it at one input. -/
def fnInsetWrong : ChangeSpec := { name := "fnInset", fn := fun _ => fun
  | [d1, d2] => { results := [.lit (.bool false)], args := [d1, d2] }
  | _ => none }
def FnInsetWrongFalsely : Prop := fnInsetRow.holds Try.pinned (OpenSpec.ofChange fnInsetWrong)

/-- 'laws.FnInsetCenter': WHATEVER THE INPUT: true; the input reads as it did. -/
def fnInsetCenterSpec : ChangeSpec := { name := "fnInsetCenter", fn := fun _ => fun
  | [d1, d2] => { results := [.lit (.bool true)], args := [d1, d2] }
  | _ => none }
def fnInsetCenterRow : OpenClaim := { program := "ytfhimelhfckjdaa", sum := "ab408fdca6c622b51b5ef88fbdf2f4846bd84c275b6053550fab868b629c1bf2", func := "loop.example/lib-g01190/laws.FnInsetCenter", spec := "fnInsetCenter", apart := false }
def FnInsetCenterSaid : Prop := fnInsetCenterRow.holds Try.pinned (OpenSpec.ofChange fnInsetCenterSpec)

/-- ITS FALSE NEIGHBOUR: 'it returns false'. Refute it at one input. -/
def fnInsetCenterWrong : ChangeSpec := { name := "fnInsetCenter", fn := fun _ => fun
  | [d1, d2] => { results := [.lit (.bool false)], args := [d1, d2] }
  | _ => none }
def FnInsetCenterWrongFalsely : Prop := fnInsetCenterRow.holds Try.pinned (OpenSpec.ofChange fnInsetCenterWrong)

/-- 'laws.FnModOnly': WHATEVER THE INPUT: true; the input reads as it did. -/
def fnModOnlySpec : ChangeSpec := { name := "fnModOnly", fn := fun _ => fun
  | [d1, d2, d3, d4, d5] => { results := [.lit (.bool true)], args := [d1, d2, d3, d4, d5] }
  | _ => none }
def fnModOnlyRow : OpenClaim := { program := "ytfhimelhfckjdaa", sum := "ab408fdca6c622b51b5ef88fbdf2f4846bd84c275b6053550fab868b629c1bf2", func := "loop.example/lib-g01190/laws.FnModOnly", spec := "fnModOnly", apart := false }
def FnModOnlySaid : Prop := fnModOnlyRow.holds Try.pinned (OpenSpec.ofChange fnModOnlySpec)

/-- ITS FALSE NEIGHBOUR: 'it returns false'. Refute it at one input. -/
def fnModOnlyWrong : ChangeSpec := { name := "fnModOnly", fn := fun _ => fun
  | [d1, d2, d3, d4, d5] => { results := [.lit (.bool false)], args := [d1, d2, d3, d4, d5] }
  | _ => none }
def FnModOnlyWrongFalsely : Prop := fnModOnlyRow.holds Try.pinned (OpenSpec.ofChange fnModOnlyWrong)

/-- 'laws.FnPointMod': WHATEVER THE INPUT: true; the input reads as it did. -/
def fnPointModSpec : ChangeSpec := { name := "fnPointMod", fn := fun _ => fun
  | [d1, d2] => { results := [.lit (.bool true)], args := [d1, d2] }
  | _ => none }
def fnPointModRow : OpenClaim := { program := "ytfhimelhfckjdaa", sum := "ab408fdca6c622b51b5ef88fbdf2f4846bd84c275b6053550fab868b629c1bf2", func := "loop.example/lib-g01190/laws.FnPointMod", spec := "fnPointMod", apart := false }
def FnPointModSaid : Prop := fnPointModRow.holds Try.pinned (OpenSpec.ofChange fnPointModSpec)

/-- ITS FALSE NEIGHBOUR: 'it returns false'. Refute it at one input. -/
def fnPointModWrong : ChangeSpec := { name := "fnPointMod", fn := fun _ => fun
  | [d1, d2] => { results := [.lit (.bool false)], args := [d1, d2] }
  | _ => none }
def FnPointModWrongFalsely : Prop := fnPointModRow.holds Try.pinned (OpenSpec.ofChange fnPointModWrong)

/-- 'laws.FnInsetBack': WHATEVER THE INPUT: true; the input reads as it did. -/
def fnInsetBackSpec : ChangeSpec := { name := "fnInsetBack", fn := fun _ => fun
  | [d1, d2] => { results := [.lit (.bool true)], args := [d1, d2] }
  | _ => none }
def fnInsetBackRow : OpenClaim := { program := "ytfhimelhfckjdaa", sum := "ab408fdca6c622b51b5ef88fbdf2f4846bd84c275b6053550fab868b629c1bf2", func := "loop.example/lib-g01190/laws.FnInsetBack", spec := "fnInsetBack", apart := false }
def FnInsetBackSaid : Prop := fnInsetBackRow.holds Try.pinned (OpenSpec.ofChange fnInsetBackSpec)

/-- ITS FALSE NEIGHBOUR: 'it returns false'. Refute it at one input. -/
def fnInsetBackWrong : ChangeSpec := { name := "fnInsetBack", fn := fun _ => fun
  | [d1, d2] => { results := [.lit (.bool false)], args := [d1, d2] }
  | _ => none }
def FnInsetBackWrongFalsely : Prop := fnInsetBackRow.holds Try.pinned (OpenSpec.ofChange fnInsetBackWrong)

/-- 'laws.FnInsetEmpty': WHATEVER THE INPUT: true; the input reads as it did. -/
def fnInsetEmptySpec : ChangeSpec := { name := "fnInsetEmpty", fn := fun _ => fun
  | [d1, d2] => { results := [.lit (.bool true)], args := [d1, d2] }
  | _ => none }
def fnInsetEmptyRow : OpenClaim := { program := "ytfhimelhfckjdaa", sum := "ab408fdca6c622b51b5ef88fbdf2f4846bd84c275b6053550fab868b629c1bf2", func := "loop.example/lib-g01190/laws.FnInsetEmpty", spec := "fnInsetEmpty", apart := false }
def FnInsetEmptySaid : Prop := fnInsetEmptyRow.holds Try.pinned (OpenSpec.ofChange fnInsetEmptySpec)

/-- ITS FALSE NEIGHBOUR: 'it returns false'. Refute it at one input. -/
def fnInsetEmptyWrong : ChangeSpec := { name := "fnInsetEmpty", fn := fun _ => fun
  | [d1, d2] => { results := [.lit (.bool false)], args := [d1, d2] }
  | _ => none }
def FnInsetEmptyWrongFalsely : Prop := fnInsetEmptyRow.holds Try.pinned (OpenSpec.ofChange fnInsetEmptyWrong)

/-- 'laws.FnModIn': WHATEVER THE INPUT: true; the input reads as it did. -/
def fnModInSpec : ChangeSpec := { name := "fnModIn", fn := fun _ => fun
  | [d1, d2] => { results := [.lit (.bool true)], args := [d1, d2] }
  | _ => none }
def fnModInRow : OpenClaim := { program := "ytfhimelhfckjdaa", sum := "ab408fdca6c622b51b5ef88fbdf2f4846bd84c275b6053550fab868b629c1bf2", func := "loop.example/lib-g01190/laws.FnModIn", spec := "fnModIn", apart := false }
def FnModInSaid : Prop := fnModInRow.holds Try.pinned (OpenSpec.ofChange fnModInSpec)

/-- ITS FALSE NEIGHBOUR: 'it returns false'. Refute it at one input. -/
def fnModInWrong : ChangeSpec := { name := "fnModIn", fn := fun _ => fun
  | [d1, d2] => { results := [.lit (.bool false)], args := [d1, d2] }
  | _ => none }
def FnModInWrongFalsely : Prop := fnModInRow.holds Try.pinned (OpenSpec.ofChange fnModInWrong)

/-- 'laws.FnInsetOrder': WHATEVER THE INPUT: true; the input reads as it did. -/
def fnInsetOrderSpec : ChangeSpec := { name := "fnInsetOrder", fn := fun _ => fun
  | [d1, d2] => { results := [.lit (.bool true)], args := [d1, d2] }
  | _ => none }
def fnInsetOrderRow : OpenClaim := { program := "ytfhimelhfckjdaa", sum := "ab408fdca6c622b51b5ef88fbdf2f4846bd84c275b6053550fab868b629c1bf2", func := "loop.example/lib-g01190/laws.FnInsetOrder", spec := "fnInsetOrder", apart := false }
def FnInsetOrderSaid : Prop := fnInsetOrderRow.holds Try.pinned (OpenSpec.ofChange fnInsetOrderSpec)

/-- ITS FALSE NEIGHBOUR: 'it returns false'. Refute it at one input. -/
def fnInsetOrderWrong : ChangeSpec := { name := "fnInsetOrder", fn := fun _ => fun
  | [d1, d2] => { results := [.lit (.bool false)], args := [d1, d2] }
  | _ => none }
def FnInsetOrderWrongFalsely : Prop := fnInsetOrderRow.holds Try.pinned (OpenSpec.ofChange fnInsetOrderWrong)

/-- 'laws.FnInsetSteps': WHATEVER THE INPUT: true; the input reads as it did. -/
def fnInsetStepsSpec : ChangeSpec := { name := "fnInsetSteps", fn := fun _ => fun
  | [d1, d2, d3] => { results := [.lit (.bool true)], args := [d1, d2, d3] }
  | _ => none }
def fnInsetStepsRow : OpenClaim := { program := "ytfhimelhfckjdaa", sum := "ab408fdca6c622b51b5ef88fbdf2f4846bd84c275b6053550fab868b629c1bf2", func := "loop.example/lib-g01190/laws.FnInsetSteps", spec := "fnInsetSteps", apart := false }
def FnInsetStepsSaid : Prop := fnInsetStepsRow.holds Try.pinned (OpenSpec.ofChange fnInsetStepsSpec)

/-- ITS FALSE NEIGHBOUR: 'it returns false'. Refute it at one input. -/
def fnInsetStepsWrong : ChangeSpec := { name := "fnInsetSteps", fn := fun _ => fun
  | [d1, d2, d3] => { results := [.lit (.bool false)], args := [d1, d2, d3] }
  | _ => none }
def FnInsetStepsWrongFalsely : Prop := fnInsetStepsRow.holds Try.pinned (OpenSpec.ofChange fnInsetStepsWrong)

/-- 'laws.FnInsetPoints': WHATEVER THE INPUT: true; the input reads as it did. -/
def fnInsetPointsSpec : ChangeSpec := { name := "fnInsetPoints", fn := fun _ => fun
  | [d1, d2, d3] => { results := [.lit (.bool true)], args := [d1, d2, d3] }
  | _ => none }
def fnInsetPointsRow : OpenClaim := { program := "ytfhimelhfckjdaa", sum := "ab408fdca6c622b51b5ef88fbdf2f4846bd84c275b6053550fab868b629c1bf2", func := "loop.example/lib-g01190/laws.FnInsetPoints", spec := "fnInsetPoints", apart := false }
def FnInsetPointsSaid : Prop := fnInsetPointsRow.holds Try.pinned (OpenSpec.ofChange fnInsetPointsSpec)

/-- ITS FALSE NEIGHBOUR: 'it returns false'. Refute it at one input. -/
def fnInsetPointsWrong : ChangeSpec := { name := "fnInsetPoints", fn := fun _ => fun
  | [d1, d2, d3] => { results := [.lit (.bool false)], args := [d1, d2, d3] }
  | _ => none }
def FnInsetPointsWrongFalsely : Prop := fnInsetPointsRow.holds Try.pinned (OpenSpec.ofChange fnInsetPointsWrong)

/-- 'laws.FnModTile': WHATEVER THE INPUT: true; the input reads as it did. -/
def fnModTileSpec : ChangeSpec := { name := "fnModTile", fn := fun _ => fun
  | [d1, d2, d3] => { results := [.lit (.bool true)], args := [d1, d2, d3] }
  | _ => none }
def fnModTileRow : OpenClaim := { program := "ytfhimelhfckjdaa", sum := "ab408fdca6c622b51b5ef88fbdf2f4846bd84c275b6053550fab868b629c1bf2", func := "loop.example/lib-g01190/laws.FnModTile", spec := "fnModTile", apart := false }
def FnModTileSaid : Prop := fnModTileRow.holds Try.pinned (OpenSpec.ofChange fnModTileSpec)

/-- ITS FALSE NEIGHBOUR: 'it returns false'. Refute it at one input. -/
def fnModTileWrong : ChangeSpec := { name := "fnModTile", fn := fun _ => fun
  | [d1, d2, d3] => { results := [.lit (.bool false)], args := [d1, d2, d3] }
  | _ => none }
def FnModTileWrongFalsely : Prop := fnModTileRow.holds Try.pinned (OpenSpec.ofChange fnModTileWrong)

/-- 'laws.FnInsetRoads': WHATEVER THE INPUT: true; the input reads as it did. -/
def fnInsetRoadsSpec : ChangeSpec := { name := "fnInsetRoads", fn := fun _ => fun
  | [d1, d2] => { results := [.lit (.bool true)], args := [d1, d2] }
  | _ => none }
def fnInsetRoadsRow : OpenClaim := { program := "ytfhimelhfckjdaa", sum := "ab408fdca6c622b51b5ef88fbdf2f4846bd84c275b6053550fab868b629c1bf2", func := "loop.example/lib-g01190/laws.FnInsetRoads", spec := "fnInsetRoads", apart := false }
def FnInsetRoadsSaid : Prop := fnInsetRoadsRow.holds Try.pinned (OpenSpec.ofChange fnInsetRoadsSpec)

/-- ITS FALSE NEIGHBOUR: 'it returns false'. Refute it at one input. -/
def fnInsetRoadsWrong : ChangeSpec := { name := "fnInsetRoads", fn := fun _ => fun
  | [d1, d2] => { results := [.lit (.bool false)], args := [d1, d2] }
  | _ => none }
def FnInsetRoadsWrongFalsely : Prop := fnInsetRoadsRow.holds Try.pinned (OpenSpec.ofChange fnInsetRoadsWrong)

/- THE SECOND FORM. 'bulk': how many values and letters a reading holds, each counted each time it is reached (what is shared counts as often as it is met; a slice's spare places count too). A statement '..UptoSaid' is the law's where the arguments, and the package variables that the reading takes, are together of bulk at most 1048576: NARROWER than '..Said'. Prove '..Said' where nothing that the law and all that it calls make is longer than what came in: it says more and counts as full. Else prove '..UptoSaid'. A law counts once. -/
mutual
def uptoBulk {H : Type} : DataW H → Nat
  | .lit (.string bytes) => bytes.length + 1
  | .lit _ => 1
  | .nil => 1
  | .ptr d => uptoBulk d + 1
  | .slice elems spare => uptoBulkAll elems + uptoBulkAll spare + 1
  | .agg parts => uptoBulkAll parts + 1
  | .iface _ d => uptoBulk d + 1
  | .map entries => uptoBulkEntries entries + 1
  | .held _ => 1
def uptoBulkAll {H : Type} : List (DataW H) → Nat
  | [] => 0
  | d :: r => uptoBulk d + uptoBulkAll r
def uptoBulkEntries {H : Type} : List (Lit × DataW H) → Nat
  | [] => 0
  | x :: r => uptoBulkEntry x + uptoBulkEntries r
def uptoBulkEntry {H : Type} : Lit × DataW H → Nat
  | (.string bytes, d) => bytes.length + uptoBulk d + 1
  | (_, d) => uptoBulk d + 1
 end
def uptoSmall : (H : Type) → List (DataW H) → Bool := fun _ ds => decide (uptoBulkAll ds ≤ 1048576)
def OpenSpec.upto (s : _root_.Go.ChangeSpec) : _root_.Go.OpenSpec := { _root_.Go.OpenSpec.ofChange s with cond := some uptoSmall }

/-- 'laws.FnInset', WHERE WHAT IT READS IS OF BULK AT MOST 1048576: true; the input reads as it did. -/
def fnInsetUptoRow : OpenClaim := { program := "ytfhimelhfckjdaa", sum := "ab408fdca6c622b51b5ef88fbdf2f4846bd84c275b6053550fab868b629c1bf2", func := "loop.example/lib-g01190/laws.FnInset", spec := "fnInset", apart := false, narrowed := true }
def FnInsetUptoSaid : Prop := fnInsetUptoRow.holds Try.pinned (OpenSpec.upto fnInsetSpec)

/-- 'laws.FnInsetCenter', WHERE WHAT IT READS IS OF BULK AT MOST 1048576: true; the input reads as it did. -/
def fnInsetCenterUptoRow : OpenClaim := { program := "ytfhimelhfckjdaa", sum := "ab408fdca6c622b51b5ef88fbdf2f4846bd84c275b6053550fab868b629c1bf2", func := "loop.example/lib-g01190/laws.FnInsetCenter", spec := "fnInsetCenter", apart := false, narrowed := true }
def FnInsetCenterUptoSaid : Prop := fnInsetCenterUptoRow.holds Try.pinned (OpenSpec.upto fnInsetCenterSpec)

/-- 'laws.FnModOnly', WHERE WHAT IT READS IS OF BULK AT MOST 1048576: true; the input reads as it did. -/
def fnModOnlyUptoRow : OpenClaim := { program := "ytfhimelhfckjdaa", sum := "ab408fdca6c622b51b5ef88fbdf2f4846bd84c275b6053550fab868b629c1bf2", func := "loop.example/lib-g01190/laws.FnModOnly", spec := "fnModOnly", apart := false, narrowed := true }
def FnModOnlyUptoSaid : Prop := fnModOnlyUptoRow.holds Try.pinned (OpenSpec.upto fnModOnlySpec)

/-- 'laws.FnPointMod', WHERE WHAT IT READS IS OF BULK AT MOST 1048576: true; the input reads as it did. -/
def fnPointModUptoRow : OpenClaim := { program := "ytfhimelhfckjdaa", sum := "ab408fdca6c622b51b5ef88fbdf2f4846bd84c275b6053550fab868b629c1bf2", func := "loop.example/lib-g01190/laws.FnPointMod", spec := "fnPointMod", apart := false, narrowed := true }
def FnPointModUptoSaid : Prop := fnPointModUptoRow.holds Try.pinned (OpenSpec.upto fnPointModSpec)

/-- 'laws.FnInsetBack', WHERE WHAT IT READS IS OF BULK AT MOST 1048576: true; the input reads as it did. -/
def fnInsetBackUptoRow : OpenClaim := { program := "ytfhimelhfckjdaa", sum := "ab408fdca6c622b51b5ef88fbdf2f4846bd84c275b6053550fab868b629c1bf2", func := "loop.example/lib-g01190/laws.FnInsetBack", spec := "fnInsetBack", apart := false, narrowed := true }
def FnInsetBackUptoSaid : Prop := fnInsetBackUptoRow.holds Try.pinned (OpenSpec.upto fnInsetBackSpec)

/-- 'laws.FnInsetEmpty', WHERE WHAT IT READS IS OF BULK AT MOST 1048576: true; the input reads as it did. -/
def fnInsetEmptyUptoRow : OpenClaim := { program := "ytfhimelhfckjdaa", sum := "ab408fdca6c622b51b5ef88fbdf2f4846bd84c275b6053550fab868b629c1bf2", func := "loop.example/lib-g01190/laws.FnInsetEmpty", spec := "fnInsetEmpty", apart := false, narrowed := true }
def FnInsetEmptyUptoSaid : Prop := fnInsetEmptyUptoRow.holds Try.pinned (OpenSpec.upto fnInsetEmptySpec)

/-- 'laws.FnModIn', WHERE WHAT IT READS IS OF BULK AT MOST 1048576: true; the input reads as it did. -/
def fnModInUptoRow : OpenClaim := { program := "ytfhimelhfckjdaa", sum := "ab408fdca6c622b51b5ef88fbdf2f4846bd84c275b6053550fab868b629c1bf2", func := "loop.example/lib-g01190/laws.FnModIn", spec := "fnModIn", apart := false, narrowed := true }
def FnModInUptoSaid : Prop := fnModInUptoRow.holds Try.pinned (OpenSpec.upto fnModInSpec)

/-- 'laws.FnInsetOrder', WHERE WHAT IT READS IS OF BULK AT MOST 1048576: true; the input reads as it did. -/
def fnInsetOrderUptoRow : OpenClaim := { program := "ytfhimelhfckjdaa", sum := "ab408fdca6c622b51b5ef88fbdf2f4846bd84c275b6053550fab868b629c1bf2", func := "loop.example/lib-g01190/laws.FnInsetOrder", spec := "fnInsetOrder", apart := false, narrowed := true }
def FnInsetOrderUptoSaid : Prop := fnInsetOrderUptoRow.holds Try.pinned (OpenSpec.upto fnInsetOrderSpec)

/-- 'laws.FnInsetSteps', WHERE WHAT IT READS IS OF BULK AT MOST 1048576: true; the input reads as it did. -/
def fnInsetStepsUptoRow : OpenClaim := { program := "ytfhimelhfckjdaa", sum := "ab408fdca6c622b51b5ef88fbdf2f4846bd84c275b6053550fab868b629c1bf2", func := "loop.example/lib-g01190/laws.FnInsetSteps", spec := "fnInsetSteps", apart := false, narrowed := true }
def FnInsetStepsUptoSaid : Prop := fnInsetStepsUptoRow.holds Try.pinned (OpenSpec.upto fnInsetStepsSpec)

/-- 'laws.FnInsetPoints', WHERE WHAT IT READS IS OF BULK AT MOST 1048576: true; the input reads as it did. -/
def fnInsetPointsUptoRow : OpenClaim := { program := "ytfhimelhfckjdaa", sum := "ab408fdca6c622b51b5ef88fbdf2f4846bd84c275b6053550fab868b629c1bf2", func := "loop.example/lib-g01190/laws.FnInsetPoints", spec := "fnInsetPoints", apart := false, narrowed := true }
def FnInsetPointsUptoSaid : Prop := fnInsetPointsUptoRow.holds Try.pinned (OpenSpec.upto fnInsetPointsSpec)

/-- 'laws.FnModTile', WHERE WHAT IT READS IS OF BULK AT MOST 1048576: true; the input reads as it did. -/
def fnModTileUptoRow : OpenClaim := { program := "ytfhimelhfckjdaa", sum := "ab408fdca6c622b51b5ef88fbdf2f4846bd84c275b6053550fab868b629c1bf2", func := "loop.example/lib-g01190/laws.FnModTile", spec := "fnModTile", apart := false, narrowed := true }
def FnModTileUptoSaid : Prop := fnModTileUptoRow.holds Try.pinned (OpenSpec.upto fnModTileSpec)

/-- 'laws.FnInsetRoads', WHERE WHAT IT READS IS OF BULK AT MOST 1048576: true; the input reads as it did. -/
def fnInsetRoadsUptoRow : OpenClaim := { program := "ytfhimelhfckjdaa", sum := "ab408fdca6c622b51b5ef88fbdf2f4846bd84c275b6053550fab868b629c1bf2", func := "loop.example/lib-g01190/laws.FnInsetRoads", spec := "fnInsetRoads", apart := false, narrowed := true }
def FnInsetRoadsUptoSaid : Prop := fnInsetRoadsUptoRow.holds Try.pinned (OpenSpec.upto fnInsetRoadsSpec)

end Rows
end Go.Proofs.Ytfhimelhfckjdaa
