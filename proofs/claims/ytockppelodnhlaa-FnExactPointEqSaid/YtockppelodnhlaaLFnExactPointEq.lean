/-
  Proved: the statement Rows.FnExactPointEqSaid: PointEq answers as the reference does.
  Conditions: none: for every input.
-/
import Derived.Test.YtockppelodnhlaaSpec
import Derived.Test.YtockppelodnhlaaRow
namespace Go.Proofs.Ytockppelodnhlaa.fnExactPointEq
open Go.ChangeShapes Go.WideShapes Go.ChangeAt Go.RowKit
set_option linter.unusedSimpArgs false
set_option linter.unusedVariables false
set_option maxHeartbeats 2000000
set_option maxRecDepth 100000


theorem walk (aP0 aP1 : Int) (aQ0 aQ1 : Int) (oaP0 : Ok aP0) (oaP1 : Ok aP1) (oaQ0 : Ok aQ0) (oaQ1 : Ok aQ1) (w : World) :
    Calls Try.prog 4 #[.agg #[.int .i64 aP0, .int .i64 aP1], .agg #[.int .i64 aQ0, .int .i64 aQ1]] w (Gives (.bool true) w) := by
  have hB := Known.start w
  go_enter Try.func4, Try.ntmps4
  go_wp2
  (first | refine wp_region_known hB (by kernel_rfl) (by kernel_rfl) ?_ | refine wp_region_known hB.alloc (by kernel_rfl) (by kernel_rfl) ?_ | refine wp_region_known hB.alloc.alloc (by kernel_rfl) (by kernel_rfl) ?_ | refine wp_region_known hB.alloc.alloc.alloc (by kernel_rfl) (by kernel_rfl) ?_ | refine wp_region_known hB.alloc.alloc.alloc.alloc (by kernel_rfl) (by kernel_rfl) ?_ | refine wp_region_known hB.alloc.alloc.alloc.alloc.alloc (by kernel_rfl) (by kernel_rfl) ?_ | refine wp_region_known hB.alloc.alloc.alloc.alloc.alloc.alloc (by kernel_rfl) (by kernel_rfl) ?_); (try clear hR); intro hov; simp only [Rules, World.size_alloc, Nat.add_one_le_iff] at hov; (repeat (go_big_quiet_step (first | (go_at_call 20; exact Calls.over _ (iPointEq _ _ _ _ _)) | (go_at_call 18; exact Calls.over _ (sPointEq _ _ _ _ _)) | (go_at_call 19; exact Calls.over _ (toA2 _ _ _))))); refine wpQuiet_nil ?_; intro wx hB; clear hov; have hR := hB.rules; simp only [Rules, World.size_alloc, Nat.add_one_le_iff] at hR
  go_wp2
  (first | refine wp_region_known hB (by kernel_rfl) (by kernel_rfl) ?_ | refine wp_region_known hB.alloc (by kernel_rfl) (by kernel_rfl) ?_ | refine wp_region_known hB.alloc.alloc (by kernel_rfl) (by kernel_rfl) ?_ | refine wp_region_known hB.alloc.alloc.alloc (by kernel_rfl) (by kernel_rfl) ?_ | refine wp_region_known hB.alloc.alloc.alloc.alloc (by kernel_rfl) (by kernel_rfl) ?_ | refine wp_region_known hB.alloc.alloc.alloc.alloc.alloc (by kernel_rfl) (by kernel_rfl) ?_ | refine wp_region_known hB.alloc.alloc.alloc.alloc.alloc.alloc (by kernel_rfl) (by kernel_rfl) ?_); (try clear hR); intro hov; simp only [Rules, World.size_alloc, Nat.add_one_le_iff] at hov; (repeat (go_big_quiet_step (first | (go_at_call 20; exact Calls.over _ (iPointEq _ _ _ _ _)) | (go_at_call 18; exact Calls.over _ (sPointEq _ _ _ _ _)) | (go_at_call 19; exact Calls.over _ (toA2 _ _ _))))); refine wpQuiet_nil ?_; intro wx hB; clear hov; have hR := hB.rules; simp only [Rules, World.size_alloc, Nat.add_one_le_iff] at hR
  go_wp2
  all_goals
    refine bodyPost_ret (results_tmp rfl _ _ _) rfl ?_
    refine ⟨ret_true ?_, ?_⟩
    · rfl
    · repeat (first | exact ext_refl _ | exact hB.below | apply ext_alloc | apply ext_drew | (refine ext_set ?_ ?_; · first | (dsimp only; omega) | (simp; omega) | (simp; done)))

theorem lifted (os : Os) (started : os.Started) (H : Type) (enc : TypeId × Value → H) :
    ReturnsInHanded {} Try.checked os 4 .any (Rows.fnExactPointEqSpec.pre6 enc Try.prog Try.f4 Rows.fnExactPointEqRow.domain false) (Rows.fnExactPointEqSpec.post enc Try.prog Try.f4 false true false false) := by
  refine returnsInHanded_of_change (C := Try.checked) own started (by kernel_rfl) Try.func4
    (ChangeSpec.witness6 (enc := enc) (C := Try.checked) false ⟨#[], #[.agg #[.int .i64 0, .int .i64 0], .agg #[.int .i64 0, .int .i64 0]], []⟩ 8 (by kernel_rfl) (by kernel_rfl) (by kernel_rfl) (by kernel_rfl)) ?_
  intro W base args ds gs before hval0 hW hcnd _
  have hval : ∀ (j : Nat) t v, Try.f4.params[j]? = some t → args[j]? = some v → Value.okWide Try.prog W .any base t v := hval0
  have hW' := hW
  obtain ⟨p, q, hA0, hV, rfl, hfz, hnd⟩ := hW
  have hA : DataW.TrodAll enc Try.prog W 0 (fun _ => true) true Try.f4.params.toList args.toList ds p := hA0
  rw [Try.params4] at hA hval
  obtain ⟨v0, vs0, d0, ds0, p0, q0, hargs, rfl, rfl, h0, r0⟩ := trodAll_cons hA
  obtain ⟨v1, vs1, d1, ds1, p1, q1, rfl, rfl, rfl, h1, r1⟩ := trodAll_cons r0
  obtain ⟨rfl, rfl, rfl⟩ := trodAll_nil r1
  obtain rfl : args = #[v0, v1] := by cases args; simp_all
  obtain ⟨rfl, rfl⟩ := trodVars_none hV
  obtain ⟨xaP0, xaP1, rfl, rfl, rfl, wxaP0, wxaP1⟩ := open_arr2 Try.underlying22 Try.underlying2 (by kernel_rfl) (by kernel_rfl) (hval 0 22 v0 rfl rfl) h0
  obtain ⟨xaQ0, xaQ1, rfl, rfl, rfl, wxaQ0, wxaQ1⟩ := open_arr2 Try.underlying22 Try.underlying2 (by kernel_rfl) (by kernel_rfl) (hval 1 22 v1 rfl rfl) h1
  clear hA0 hval0
  refine (walk xaP0 xaP1 xaQ0 xaQ1 (bounds_i64 wxaP0) (bounds_i64 wxaP1) (bounds_i64 wxaQ0) (bounds_i64 wxaQ1) W).mono fun e W' ⟨he, bel⟩ => ?_
  subst he
  exact ⟨_, rfl, _, _, _, [], _, [], hW', trodAll_mk1 (shut_bool Try.underlying4 _), (trodAll_cons_mk (shut_arr2 Try.underlying22 Try.underlying2 (by kernel_rfl) (by kernel_rfl) wxaP0 wxaP1) (trodAll_cons_mk (shut_arr2 Try.underlying22 Try.underlying2 (by kernel_rfl) (by kernel_rfl) wxaQ0 wxaQ1) trodAll_mk0)), rfl, bel.frame _, fun h => by cases h⟩

/-- THE STATEMENT. -/
theorem proved : Rows.FnExactPointEqSaid :=
  OpenClaim.holds_of_wide 4 Try.f4 rfl rfl rfl rfl rfl rfl rfl ⟨rfl, rfl, rfl, rfl, rfl⟩ rfl rfl rfl rfl rfl (by kernel_rfl) Try.func4 (by kernel_rfl)
    (of_decide_eq_true (by kernel_rfl)) (by unfold Func.isWrapper; first | (rw [if_pos (by decide +kernel)]; kernel_rfl) | (rw [if_neg (by decide +kernel)]; exact ⟨rfl, rfl⟩))
    (fun os started H enc _ => lifted os started H enc)
#print axioms proved
end Go.Proofs.Ytockppelodnhlaa.fnExactPointEq
