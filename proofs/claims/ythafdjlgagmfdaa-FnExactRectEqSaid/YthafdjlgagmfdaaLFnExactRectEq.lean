/-
  Proved: the statement Rows.FnExactRectEqSaid: RectEq answers as the reference does.
  Conditions: none: for every input.
-/
import Derived.Test.YthafdjlgagmfdaaSpec
import Derived.Test.YthafdjlgagmfdaaSets
import Derived.Test.YthafdjlgagmfdaaArith
import Derived.Test.YthafdjlgagmfdaaRow
namespace Go.Proofs.Ythafdjlgagmfdaa.fnExactRectEq
open Go.ChangeShapes Go.WideShapes Go.ChangeAt Go.RowKit
set_option linter.unusedSimpArgs false
set_option linter.unusedVariables false
set_option maxHeartbeats 2000000
set_option maxRecDepth 100000

/-- A call that answers a Bool, of which it is known what it is. -/
theorem Calls.overB {P : Program} {f : FuncId} {args : Array Value} {w : World} {x b : Bool} {y : Over w} (hx : x = b) (h : Calls P f args y.wd (Gives (.bool x) y.wd)) :
    Calls P f args y.wd fun e w'' => e = .returned (.bool b) ∧ ∃ z : Over w, w'' = z.wd := by subst hx; exact Calls.over _ h

theorem plain {a b c d : Int} (e f g h : Int) (oa : Ok a) (ob : Ok b) (oc : Ok c) (od : Ok d) : sinB a b c d e f g h = rinB a b c d e f g h := by
  unfold sinB
  cases hE : emptyB a b c d with
  | true => simp [rinB, hE]
  | false =>
    rw [emptyB_not] at hE
    unfold Ok at *
    rw [wrap_in (x := c - 1) (by omega) (by omega), wrap_in (x := d - 1) (by omega) (by omega)]
    apply bool_eq
    simp only [Bool.false_or, Bool.and_eq_true, inB_iff, rinB_iff]
    omega
theorem both (a b c d e f g h : Int) : (rinB a b c d e f g h && rinB e f g h a b c d) = reqB a b c d e f g h := by
  apply bool_eq
  rw [Bool.and_eq_true, rinB_iff, rinB_iff, reqB_iff]
  omega

theorem walk (aR0 aR1 aR2 aR3 : Int) (aS0 aS1 aS2 aS3 : Int) (oaR0 : Ok aR0) (oaR1 : Ok aR1) (oaR2 : Ok aR2) (oaR3 : Ok aR3) (oaS0 : Ok aS0) (oaS1 : Ok aS1) (oaS2 : Ok aS2) (oaS3 : Ok aS3) (w : World) :
    Calls Try.prog 5 #[.agg #[.int .i64 aR0, .int .i64 aR1, .int .i64 aR2, .int .i64 aR3], .agg #[.int .i64 aS0, .int .i64 aS1, .int .i64 aS2, .int .i64 aS3]] w (Gives (.bool true) w) := by
  have e1 : (sinB aR0 aR1 aR2 aR3 aS0 aS1 aS2 aS3 && sinB aS0 aS1 aS2 aS3 aR0 aR1 aR2 aR3) = reqB aR0 aR1 aR2 aR3 aS0 aS1 aS2 aS3 := by
    rw [plain _ _ _ _ oaR0 oaR1 oaR2 oaR3, plain _ _ _ _ oaS0 oaS1 oaS2 oaS3, both]
  have hB := Known.start w
  go_enter Try.func5, Try.ntmps5
  go_wp2
  (first | with_reducible refine wp_region_known hB ?hm ?hB ?_ | with_reducible refine wp_region_known hB.alloc ?hm ?hB ?_ | with_reducible refine wp_region_known hB.alloc.alloc ?hm ?hB ?_ | with_reducible refine wp_region_known hB.alloc.alloc.alloc ?hm ?hB ?_ | with_reducible refine wp_region_known hB.alloc.alloc.alloc.alloc ?hm ?hB ?_ | with_reducible refine wp_region_known hB.alloc.alloc.alloc.alloc.alloc ?hm ?hB ?_ | with_reducible refine wp_region_known hB.alloc.alloc.alloc.alloc.alloc.alloc ?hm ?hB ?_); (case hm => kernel_rfl); (case hB => kernel_rfl); (try clear hR); intro hov; simp only [Rules, World.size_alloc, Nat.add_one_le_iff, List.setIfInBounds_toArray, List.set_cons_zero, List.set_cons_succ] at hov; (repeat (go_big_quiet_step (first | (go_at_call 18; exact Calls.overB (by assumption) (iRectEq _ _ _ _ _ _ _ _ _)) | (go_at_call 18; exact Calls.over _ (iRectEq _ _ _ _ _ _ _ _ _)) | (go_at_call 20; exact Calls.overB (by assumption) (sRectEq _ _ _ _ _ _ _ _ _)) | (go_at_call 20; exact Calls.over _ (sRectEq _ _ _ _ _ _ _ _ _)) | (go_at_call 21; exact Calls.over _ (toA4 _ _ _ _ _))))); refine wpQuiet_nil ?_; intro wx hB; clear hov; have hR := hB.rules; simp only [Rules, World.size_alloc, Nat.add_one_le_iff, List.setIfInBounds_toArray, List.set_cons_zero, List.set_cons_succ] at hR
  go_wp2
  (first | with_reducible refine wp_region_known hB ?hm ?hB ?_ | with_reducible refine wp_region_known hB.alloc ?hm ?hB ?_ | with_reducible refine wp_region_known hB.alloc.alloc ?hm ?hB ?_ | with_reducible refine wp_region_known hB.alloc.alloc.alloc ?hm ?hB ?_ | with_reducible refine wp_region_known hB.alloc.alloc.alloc.alloc ?hm ?hB ?_ | with_reducible refine wp_region_known hB.alloc.alloc.alloc.alloc.alloc ?hm ?hB ?_ | with_reducible refine wp_region_known hB.alloc.alloc.alloc.alloc.alloc.alloc ?hm ?hB ?_); (case hm => kernel_rfl); (case hB => kernel_rfl); (try clear hR); intro hov; simp only [Rules, World.size_alloc, Nat.add_one_le_iff, List.setIfInBounds_toArray, List.set_cons_zero, List.set_cons_succ] at hov; (repeat (go_big_quiet_step (first | (go_at_call 18; exact Calls.overB (by assumption) (iRectEq _ _ _ _ _ _ _ _ _)) | (go_at_call 18; exact Calls.over _ (iRectEq _ _ _ _ _ _ _ _ _)) | (go_at_call 20; exact Calls.overB (by assumption) (sRectEq _ _ _ _ _ _ _ _ _)) | (go_at_call 20; exact Calls.over _ (sRectEq _ _ _ _ _ _ _ _ _)) | (go_at_call 21; exact Calls.over _ (toA4 _ _ _ _ _))))); refine wpQuiet_nil ?_; intro wx hB; clear hov; have hR := hB.rules; simp only [Rules, World.size_alloc, Nat.add_one_le_iff, List.setIfInBounds_toArray, List.set_cons_zero, List.set_cons_succ] at hR
  go_wp2
  all_goals
    refine bodyPost_ret (results_tmp rfl _ _ _) rfl ?_
    refine ⟨ret_true ?_, ?_⟩
    · rfl
    · repeat (first | exact ext_refl _ | exact hB.below | apply ext_alloc | apply ext_drew | (refine ext_set ?_ ?_; · first | (dsimp only; omega) | (simp; omega) | (simp; done)))

theorem lifted (os : Os) (started : os.Started) (H : Type) (enc : TypeId × Value → H) :
    ReturnsInHanded {} Try.checked os 5 .any (Rows.fnExactRectEqSpec.pre6 enc Try.prog Try.f5 Rows.fnExactRectEqRow.domain false) (Rows.fnExactRectEqSpec.post enc Try.prog Try.f5 false true false false) := by
  refine returnsInHanded_of_change (C := Try.checked) own started (by kernel_rfl) Try.func5
    (ChangeSpec.witness6 (enc := enc) (C := Try.checked) false ⟨#[], #[.agg #[.int .i64 0, .int .i64 0, .int .i64 0, .int .i64 0], .agg #[.int .i64 0, .int .i64 0, .int .i64 0, .int .i64 0]], []⟩ 8 (by kernel_rfl) (by kernel_rfl) (by kernel_rfl) (by kernel_rfl)) ?_
  intro W base args ds gs before hval0 hW hcnd _
  have hval : ∀ (j : Nat) t v, Try.f5.params[j]? = some t → args[j]? = some v → Value.okWide Try.prog W .any base t v := hval0
  have hW' := hW
  obtain ⟨p, q, hA0, hV, rfl, hfz, hnd⟩ := hW
  have hA : DataW.TrodAll enc Try.prog W 0 (fun _ => true) true Try.f5.params.toList args.toList ds p := hA0
  rw [Try.params5] at hA hval
  obtain ⟨v0, vs0, d0, ds0, p0, q0, hargs, rfl, rfl, h0, r0⟩ := trodAll_cons hA
  obtain ⟨v1, vs1, d1, ds1, p1, q1, rfl, rfl, rfl, h1, r1⟩ := trodAll_cons r0
  obtain ⟨rfl, rfl, rfl⟩ := trodAll_nil r1
  obtain rfl : args = #[v0, v1] := by cases args; simp_all
  obtain ⟨rfl, rfl⟩ := trodVars_none hV
  obtain ⟨xaR0, xaR1, xaR2, xaR3, rfl, rfl, rfl, wxaR0, wxaR1, wxaR2, wxaR3⟩ := open_arr4 Try.underlying22 Try.underlying2 (by kernel_rfl) (by kernel_rfl) (hval 0 22 v0 rfl rfl) h0
  obtain ⟨xaS0, xaS1, xaS2, xaS3, rfl, rfl, rfl, wxaS0, wxaS1, wxaS2, wxaS3⟩ := open_arr4 Try.underlying22 Try.underlying2 (by kernel_rfl) (by kernel_rfl) (hval 1 22 v1 rfl rfl) h1
  clear hA0 hval0
  refine (walk xaR0 xaR1 xaR2 xaR3 xaS0 xaS1 xaS2 xaS3 (bounds_i64 wxaR0) (bounds_i64 wxaR1) (bounds_i64 wxaR2) (bounds_i64 wxaR3) (bounds_i64 wxaS0) (bounds_i64 wxaS1) (bounds_i64 wxaS2) (bounds_i64 wxaS3) W).mono fun e W' ⟨he, bel⟩ => ?_
  subst he
  exact ⟨_, rfl, _, _, _, [], _, [], hW', trodAll_mk1 (shut_bool Try.underlying4 _), (trodAll_cons_mk (shut_arr4 Try.underlying22 Try.underlying2 (by kernel_rfl) (by kernel_rfl) wxaR0 wxaR1 wxaR2 wxaR3) (trodAll_cons_mk (shut_arr4 Try.underlying22 Try.underlying2 (by kernel_rfl) (by kernel_rfl) wxaS0 wxaS1 wxaS2 wxaS3) trodAll_mk0)), rfl, bel.frame _, fun h => by cases h⟩

/-- THE STATEMENT. -/
theorem proved : Rows.FnExactRectEqSaid :=
  OpenClaim.holds_of_wide 5 Try.f5 rfl rfl rfl rfl rfl rfl rfl ⟨rfl, rfl, rfl, rfl, rfl⟩ rfl rfl rfl rfl rfl (by kernel_rfl) Try.func5 (by kernel_rfl)
    (of_decide_eq_true (by kernel_rfl)) (by unfold Func.isWrapper; first | (rw [if_pos (by decide +kernel)]; kernel_rfl) | (rw [if_neg (by decide +kernel)]; exact ⟨rfl, rfl⟩))
    (fun os started H enc _ => lifted os started H enc)
#print axioms proved
end Go.Proofs.Ythafdjlgagmfdaa.fnExactRectEq
