/-
  Proved: the statement Rows.FnExactRectOverlapsSaid: RectOverlaps answers as the reference does.
  Conditions: none: for every input.
-/
import Derived.Test.YthafdjlgagmfdaaSpec
import Derived.Test.YthafdjlgagmfdaaSets
import Derived.Test.YthafdjlgagmfdaaRow
namespace Go.Proofs.Ythafdjlgagmfdaa.fnExactRectOverlaps
open Go.ChangeShapes Go.WideShapes Go.ChangeAt Go.RowKit
set_option linter.unusedSimpArgs false
set_option linter.unusedVariables false
set_option maxHeartbeats 2000000
set_option maxRecDepth 100000

/-- A call that answers a Bool, of which it is known what it is. -/
theorem Calls.overB {P : Program} {f : FuncId} {args : Array Value} {w : World} {x b : Bool} {y : Over w} (hx : x = b) (h : Calls P f args y.wd (Gives (.bool x) y.wd)) :
    Calls P f args y.wd fun e w'' => e = .returned (.bool b) ∧ ∃ z : Over w, w'' = z.wd := by subst hx; exact Calls.over _ h

theorem plain (r0 r1 r2 r3 t0 t1 t2 t3 : Int) : (!emptyB (isect r0 r1 r2 r3 t0 t1 t2 t3).a (isect r0 r1 r2 r3 t0 t1 t2 t3).b (isect r0 r1 r2 r3 t0 t1 t2 t3).c (isect r0 r1 r2 r3 t0 t1 t2 t3).d) = overB r0 r1 r2 r3 t0 t1 t2 t3 := by
  apply bool_eq
  rw [Bool.not_eq_true', emptyB_not, overB_iff]
  rcases isect_cases r0 r1 r2 r3 t0 t1 t2 t3 with ⟨h1, e1⟩ | ⟨h1, e1⟩ <;> simp only [e1] <;> omega

theorem walk (aR0 aR1 aR2 aR3 : Int) (aS0 aS1 aS2 aS3 : Int) (oaR0 : Ok aR0) (oaR1 : Ok aR1) (oaR2 : Ok aR2) (oaR3 : Ok aR3) (oaS0 : Ok aS0) (oaS1 : Ok aS1) (oaS2 : Ok aS2) (oaS3 : Ok aS3) (w : World) :
    Calls Try.prog 6 #[.agg #[.int .i64 aR0, .int .i64 aR1, .int .i64 aR2, .int .i64 aR3], .agg #[.int .i64 aS0, .int .i64 aS1, .int .i64 aS2, .int .i64 aS3]] w (Gives (.bool true) w) := by
  have e1 := plain aR0 aR1 aR2 aR3 aS0 aS1 aS2 aS3
  have hB := Known.start w
  go_enter Try.func6, Try.ntmps6
  go_wp2
  (first | with_reducible refine wp_region_known hB ?hm ?hB ?_ | with_reducible refine wp_region_known hB.alloc ?hm ?hB ?_ | with_reducible refine wp_region_known hB.alloc.alloc ?hm ?hB ?_ | with_reducible refine wp_region_known hB.alloc.alloc.alloc ?hm ?hB ?_ | with_reducible refine wp_region_known hB.alloc.alloc.alloc.alloc ?hm ?hB ?_ | with_reducible refine wp_region_known hB.alloc.alloc.alloc.alloc.alloc ?hm ?hB ?_ | with_reducible refine wp_region_known hB.alloc.alloc.alloc.alloc.alloc.alloc ?hm ?hB ?_); (case hm => kernel_rfl); (case hB => kernel_rfl); (try clear hR); intro hov; simp only [Rules, World.size_alloc, Nat.add_one_le_iff, List.setIfInBounds_toArray, List.set_cons_zero, List.set_cons_succ] at hov; (repeat (go_big_quiet_step (first | (go_at_call 23; exact Calls.overB (by assumption) (iRectOverlaps _ _ _ _ _ _ _ _ _)) | (go_at_call 23; exact Calls.over _ (iRectOverlaps _ _ _ _ _ _ _ _ _)) | (go_at_call 22; exact Calls.overB (by assumption) (sRectOverlaps _ _ _ _ _ _ _ _ _)) | (go_at_call 22; exact Calls.over _ (sRectOverlaps _ _ _ _ _ _ _ _ _)) | (go_at_call 21; exact Calls.over _ (toA4 _ _ _ _ _))))); refine wpQuiet_nil ?_; intro wx hB; clear hov; have hR := hB.rules; simp only [Rules, World.size_alloc, Nat.add_one_le_iff, List.setIfInBounds_toArray, List.set_cons_zero, List.set_cons_succ] at hR
  go_wp2
  (first | with_reducible refine wp_region_known hB ?hm ?hB ?_ | with_reducible refine wp_region_known hB.alloc ?hm ?hB ?_ | with_reducible refine wp_region_known hB.alloc.alloc ?hm ?hB ?_ | with_reducible refine wp_region_known hB.alloc.alloc.alloc ?hm ?hB ?_ | with_reducible refine wp_region_known hB.alloc.alloc.alloc.alloc ?hm ?hB ?_ | with_reducible refine wp_region_known hB.alloc.alloc.alloc.alloc.alloc ?hm ?hB ?_ | with_reducible refine wp_region_known hB.alloc.alloc.alloc.alloc.alloc.alloc ?hm ?hB ?_); (case hm => kernel_rfl); (case hB => kernel_rfl); (try clear hR); intro hov; simp only [Rules, World.size_alloc, Nat.add_one_le_iff, List.setIfInBounds_toArray, List.set_cons_zero, List.set_cons_succ] at hov; (repeat (go_big_quiet_step (first | (go_at_call 23; exact Calls.overB (by assumption) (iRectOverlaps _ _ _ _ _ _ _ _ _)) | (go_at_call 23; exact Calls.over _ (iRectOverlaps _ _ _ _ _ _ _ _ _)) | (go_at_call 22; exact Calls.overB (by assumption) (sRectOverlaps _ _ _ _ _ _ _ _ _)) | (go_at_call 22; exact Calls.over _ (sRectOverlaps _ _ _ _ _ _ _ _ _)) | (go_at_call 21; exact Calls.over _ (toA4 _ _ _ _ _))))); refine wpQuiet_nil ?_; intro wx hB; clear hov; have hR := hB.rules; simp only [Rules, World.size_alloc, Nat.add_one_le_iff, List.setIfInBounds_toArray, List.set_cons_zero, List.set_cons_succ] at hR
  go_wp2
  all_goals
    refine bodyPost_ret (results_tmp rfl _ _ _) rfl ?_
    refine ⟨ret_true ?_, ?_⟩
    · rfl
    · repeat (first | exact ext_refl _ | exact hB.below | apply ext_alloc | apply ext_drew | (refine ext_set ?_ ?_; · first | (dsimp only; omega) | (simp; omega) | (simp; done)))

theorem lifted (os : Os) (started : os.Started) (H : Type) (enc : TypeId × Value → H) :
    ReturnsInHanded {} Try.checked os 6 .any (Rows.fnExactRectOverlapsSpec.pre6 enc Try.prog Try.f6 Rows.fnExactRectOverlapsRow.domain false) (Rows.fnExactRectOverlapsSpec.post enc Try.prog Try.f6 false true false false) := by
  refine returnsInHanded_of_change (C := Try.checked) own started (by kernel_rfl) Try.func6
    (ChangeSpec.witness6 (enc := enc) (C := Try.checked) false ⟨#[], #[.agg #[.int .i64 0, .int .i64 0, .int .i64 0, .int .i64 0], .agg #[.int .i64 0, .int .i64 0, .int .i64 0, .int .i64 0]], []⟩ 8 (by kernel_rfl) (by kernel_rfl) (by kernel_rfl) (by kernel_rfl)) ?_
  intro W base args ds gs before hval0 hW hcnd _
  have hval : ∀ (j : Nat) t v, Try.f6.params[j]? = some t → args[j]? = some v → Value.okWide Try.prog W .any base t v := hval0
  have hW' := hW
  obtain ⟨p, q, hA0, hV, rfl, hfz, hnd⟩ := hW
  have hA : DataW.TrodAll enc Try.prog W 0 (fun _ => true) true Try.f6.params.toList args.toList ds p := hA0
  rw [Try.params6] at hA hval
  obtain ⟨v0, vs0, d0, ds0, p0, q0, hargs, rfl, rfl, h0, r0⟩ := trodAll_cons hA
  obtain ⟨v1, vs1, d1, ds1, p1, q1, rfl, rfl, rfl, h1, r1⟩ := trodAll_cons r0
  obtain ⟨rfl, rfl, rfl⟩ := trodAll_nil r1
  obtain rfl : args = #[v0, v1] := by cases args; simp_all
  obtain ⟨rfl, rfl⟩ := trodVars_none hV
  obtain ⟨xaR0, xaR1, xaR2, xaR3, rfl, rfl, rfl, wxaR0, wxaR1, wxaR2, wxaR3⟩ := open_arr4 Try.underlying22 Try.underlying2 (by kernel_rfl) (by kernel_rfl) (hval 0 22 v0 rfl rfl) h0
  obtain ⟨xaS0, xaS1, xaS2, xaS3, rfl, rfl, rfl, wxaS0, wxaS1, wxaS2, wxaS3⟩ := open_arr4 Try.underlying22 Try.underlying2 (by kernel_rfl) (by kernel_rfl) (hval 1 22 v1 rfl rfl) h1
  clear hA0 hval0
  refine (walk xaR0 xaR1 xaR2 xaR3 xaS0 xaS1 xaS2 xaS3 (bounds_i64 wxaR0) (bounds_i64 wxaR1) (bounds_i64 wxaR2) (bounds_i64 wxaR3) (bounds_i64 wxaS0) (bounds_i64 wxaS1) (bounds_i64 wxaS2) (bounds_i64 wxaS3) W).mono fun e W' ⟨he, bel⟩ => ?_
  subst he
  exact ⟨_, rfl, _, _, _, [], _, [], hW', trodAll_mk1 (shut_bool Try.underlying4 _), (trodAll_cons_mk (shut_arr4 Try.underlying22 Try.underlying2 (by kernel_rfl) (by kernel_rfl) wxaR0 wxaR1 wxaR2 wxaR3) (trodAll_cons_mk (shut_arr4 Try.underlying22 Try.underlying2 (by kernel_rfl) (by kernel_rfl) wxaS0 wxaS1 wxaS2 wxaS3) trodAll_mk0)), rfl, bel.frame _, fun h => by cases h⟩

/-- THE STATEMENT. -/
theorem proved : Rows.FnExactRectOverlapsSaid :=
  OpenClaim.holds_of_wide 6 Try.f6 rfl rfl rfl rfl rfl rfl rfl ⟨rfl, rfl, rfl, rfl, rfl⟩ rfl rfl rfl rfl rfl (by kernel_rfl) Try.func6 (by kernel_rfl)
    (of_decide_eq_true (by kernel_rfl)) (by unfold Func.isWrapper; first | (rw [if_pos (by decide +kernel)]; kernel_rfl) | (rw [if_neg (by decide +kernel)]; exact ⟨rfl, rfl⟩))
    (fun os started H enc _ => lifted os started H enc)
#print axioms proved
end Go.Proofs.Ythafdjlgagmfdaa.fnExactRectOverlaps
