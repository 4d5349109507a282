/-
  Proved: the statement Rows.FnDivStepsSaid: Coordinates that are not negative, divided by two positive numbers one after the other, are divided by their product.
  Conditions: none: for every input.
-/
import Derived.Test.YtockppelodnhlaaSpec
import Derived.Test.YtockppelodnhlaaArith
import Derived.Test.YtockppelodnhlaaRow
namespace Go.Proofs.Ytockppelodnhlaa.fnDivSteps
open Go.ChangeShapes Go.WideShapes Go.ChangeAt Go.RowKit
set_option linter.unusedSimpArgs false
set_option linter.unusedVariables false
set_option maxHeartbeats 2000000
set_option maxRecDepth 100000

theorem one {x k m : Int} (hx : Ok x) (hk : Ok k) (hm : Ok m) (h : timesOk k m = true) (x0 : 0 ≤ x) (k0 : 1 ≤ k) (m0 : 1 ≤ m) : wrap64 ((wrap64 (x.tdiv k)).tdiv m) = wrap64 (x.tdiv (timesV k m)) := by
  rw [timesV_eq hk hm h]
  have e : wrap64 (x.tdiv k) = x.tdiv k := wrap_ok (tdiv_ok hx (by omega) (by omega))
  rw [e, Int.tdiv_eq_ediv_of_nonneg x0, Int.tdiv_eq_ediv_of_nonneg (Int.ediv_nonneg x0 (by omega)), Int.tdiv_eq_ediv_of_nonneg x0, Int.ediv_ediv_of_nonneg (by omega)]
theorem last {x : Int} (hx : Ok x) : wrap64 (x.tdiv 1) = x := by rw [Int.tdiv_one]; exact wrap_ok hx
theorem nz {k m : Int} (hk : Ok k) (hm : Ok m) (h : timesOk k m = true) (k0 : 1 ≤ k) (m0 : 1 ≤ m) : (timesV k m == 0) = false := by
  rw [timesV_eq hk hm h]
  have : 0 < k * m := Int.mul_pos (by omega) (by omega)
  simp; omega

theorem walk (p0 p1 : Int) (k : Int) (m : Int) (op0 : Ok p0) (op1 : Ok p1) (ok : Ok k) (om : Ok m) (w : World) :
    Calls Try.prog 5 #[.agg #[.int .i64 p0, .int .i64 p1], .int .i64 k, .int .i64 m] w (Gives (.bool true) w) := by
  have heq := eql_a2
  have hB := Known.start w
  go_enter Try.func5, Try.ntmps5
  go_wp2_with (first | (go_at_call 21; refine (sTimes _ _ _).mono ?_; rintro e w1 ⟨rfl, hn⟩; (first | replace hB := (hB).keep hn | replace hB := (hB.alloc).keep hn | replace hB := (hB.alloc.alloc).keep hn | replace hB := (hB.alloc.alloc.alloc).keep hn | replace hB := (hB.alloc.alloc.alloc.alloc).keep hn | replace hB := (hB.alloc.alloc.alloc.alloc.alloc).keep hn | replace hB := (hB.alloc.alloc.alloc.alloc.alloc.alloc).keep hn); clear hn; (try clear hR); have hR := hB.rules; simp only [Rules, World.size_alloc, Nat.add_one_le_iff] at hR))
  any_goals
    refine bodyPost_ret (results_tmp rfl _ _ _) rfl ?_
    refine ⟨ret_true ?_, ?_⟩
    · rfl
    · repeat (first | exact ext_refl _ | exact hB.below | apply ext_alloc | apply ext_drew | (refine ext_set ?_ ?_; · first | (dsimp only; omega) | (simp; omega) | (simp; done)))
  have hT : timesOk k m = true := by assumption
  have k1 : 1 ≤ k := by omega
  have m1 : 1 ≤ m := by omega
  have x0 : 0 ≤ p0 := by omega
  have x1 : 0 ≤ p1 := by omega
  have hk : (k == 0) = false := by simp; omega
  have hm : (m == 0) = false := by simp; omega
  have ho : ((1 : Int) == 0) = false := rfl
  have hb := nz ok om hT k1 m1
  have e1 : eq2 (wrap64 ((wrap64 (p0.tdiv k)).tdiv m)) (wrap64 ((wrap64 (p1.tdiv k)).tdiv m)) (wrap64 (p0.tdiv (timesV k m))) (wrap64 (p1.tdiv (timesV k m))) = true := by
    simp [eq2, one op0 ok om hT x0 k1 m1, one op1 ok om hT x1 k1 m1]
  clear k1 m1 x0 x1
  (first | refine wp_region_known hB (by kernel_rfl) (by kernel_rfl) ?_ | refine wp_region_known hB.alloc (by kernel_rfl) (by kernel_rfl) ?_ | refine wp_region_known hB.alloc.alloc (by kernel_rfl) (by kernel_rfl) ?_ | refine wp_region_known hB.alloc.alloc.alloc (by kernel_rfl) (by kernel_rfl) ?_ | refine wp_region_known hB.alloc.alloc.alloc.alloc (by kernel_rfl) (by kernel_rfl) ?_ | refine wp_region_known hB.alloc.alloc.alloc.alloc.alloc (by kernel_rfl) (by kernel_rfl) ?_ | refine wp_region_known hB.alloc.alloc.alloc.alloc.alloc.alloc (by kernel_rfl) (by kernel_rfl) ?_); (try clear hR); intro hov; simp only [Rules, World.size_alloc, Nat.add_one_le_iff] at hov
  repeat (go_big_quiet_step (first | (go_at_call 22; exact Calls.over _ (iPointDiv _ _ _ _ hk)) | (go_at_call 22; exact Calls.over _ (iPointDiv _ _ _ _ hm)) | (go_at_call 22; exact Calls.over _ (iPointDiv _ _ _ _ hb)) | (go_at_call 22; exact Calls.over _ (iPointDiv _ _ _ _ ho))))
  refine wpQuiet_nil ?_; intro wx hB; clear hov; have hR := hB.rules; simp only [Rules, World.size_alloc, Nat.add_one_le_iff] at hR
  go_wp2
  all_goals
    refine bodyPost_ret (results_tmp rfl _ _ _) rfl ?_
    refine ⟨ret_true ?_, ?_⟩
    · simp [eq2, wrap_ok op0, wrap_ok op1]
    · repeat (first | exact ext_refl _ | exact hB.below | apply ext_alloc | apply ext_drew | (refine ext_set ?_ ?_; · first | (dsimp only; omega) | (simp; omega) | (simp; done)))

theorem lifted (os : Os) (started : os.Started) (H : Type) (enc : TypeId × Value → H) :
    ReturnsInHanded {} Try.checked os 5 .any (Rows.fnDivStepsSpec.pre6 enc Try.prog Try.f5 Rows.fnDivStepsRow.domain false) (Rows.fnDivStepsSpec.post enc Try.prog Try.f5 false true false false) := by
  refine returnsInHanded_of_change (C := Try.checked) own started (by kernel_rfl) Try.func5
    (ChangeSpec.witness6 (enc := enc) (C := Try.checked) false ⟨#[], #[.agg #[.int .i64 0, .int .i64 0], .int .i64 0, .int .i64 0], []⟩ 8 (by kernel_rfl) (by kernel_rfl) (by kernel_rfl) (by kernel_rfl)) ?_
  intro W base args ds gs before hval0 hW hcnd _
  have hval : ∀ (j : Nat) t v, Try.f5.params[j]? = some t → args[j]? = some v → Value.okWide Try.prog W .any base t v := hval0
  have hW' := hW
  obtain ⟨p, q, hA0, hV, rfl, hfz, hnd⟩ := hW
  have hA : DataW.TrodAll enc Try.prog W 0 (fun _ => true) true Try.f5.params.toList args.toList ds p := hA0
  rw [Try.params5] at hA hval
  obtain ⟨v0, vs0, d0, ds0, p0, q0, hargs, rfl, rfl, h0, r0⟩ := trodAll_cons hA
  obtain ⟨v1, vs1, d1, ds1, p1, q1, rfl, rfl, rfl, h1, r1⟩ := trodAll_cons r0
  obtain ⟨v2, vs2, d2, ds2, p2, q2, rfl, rfl, rfl, h2, r2⟩ := trodAll_cons r1
  obtain ⟨rfl, rfl, rfl⟩ := trodAll_nil r2
  obtain rfl : args = #[v0, v1, v2] := by cases args; simp_all
  obtain ⟨rfl, rfl⟩ := trodVars_none hV
  obtain ⟨xp0, xp1, rfl, rfl, rfl, wxp0, wxp1⟩ := open_arr2 Try.underlying22 Try.underlying2 (by kernel_rfl) (by kernel_rfl) (hval 0 22 v0 rfl rfl) h0
  obtain ⟨xk, rfl, rfl, rfl, wxk⟩ := open_int Try.underlying2 (hval 1 2 v1 rfl rfl) h1
  obtain ⟨xm, rfl, rfl, rfl, wxm⟩ := open_int Try.underlying2 (hval 2 2 v2 rfl rfl) h2
  clear hA0 hval0
  refine (walk xp0 xp1 xk xm (bounds_i64 wxp0) (bounds_i64 wxp1) (bounds_i64 wxk) (bounds_i64 wxm) W).mono fun e W' ⟨he, bel⟩ => ?_
  subst he
  exact ⟨_, rfl, _, _, _, [], _, [], hW', trodAll_mk1 (shut_bool Try.underlying4 _), (trodAll_cons_mk (shut_arr2 Try.underlying22 Try.underlying2 (by kernel_rfl) (by kernel_rfl) wxp0 wxp1) (trodAll_cons_mk (shut_int Try.underlying2 wxk) (trodAll_cons_mk (shut_int Try.underlying2 wxm) trodAll_mk0))), rfl, bel.frame _, fun h => by cases h⟩

/-- THE STATEMENT. -/
theorem proved : Rows.FnDivStepsSaid :=
  OpenClaim.holds_of_wide 5 Try.f5 rfl rfl rfl rfl rfl rfl rfl ⟨rfl, rfl, rfl, rfl, rfl⟩ rfl rfl rfl rfl rfl (by kernel_rfl) Try.func5 (by kernel_rfl)
    (of_decide_eq_true (by kernel_rfl)) (by unfold Func.isWrapper; first | (rw [if_pos (by decide +kernel)]; kernel_rfl) | (rw [if_neg (by decide +kernel)]; exact ⟨rfl, rfl⟩))
    (fun os started H enc _ => lifted os started H enc)
#print axioms proved
end Go.Proofs.Ytockppelodnhlaa.fnDivSteps
