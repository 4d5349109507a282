/-
  Proved: the statement Rows.FnMulThenDivSaid: A product that is divided by its factor is the point, if the products are numbers.
  Conditions: none: for every input.
-/
import Derived.Test.YtngfknnlojadeaaSpec
import Derived.Test.YtngfknnlojadeaaArith
import Derived.Test.YtngfknnlojadeaaRow
namespace Go.Proofs.Ytngfknnlojadeaa.fnMulThenDiv
open Go.ChangeShapes Go.WideShapes Go.ChangeAt Go.RowKit
set_option linter.unusedSimpArgs false
set_option linter.unusedVariables false
set_option maxHeartbeats 2000000
set_option maxRecDepth 100000

theorem one {x k : Int} (hx : Ok x) (hk : Ok k) (h : timesOk x k = true) (h0 : k ≠ 0) : wrap64 ((wrap64 (x * k)).tdiv k) = x := by
  rw [wrap_ok (ok_of_timesOk hx hk h), Int.mul_tdiv_cancel _ h0, wrap_ok hx]

theorem walk (p0 p1 : Int) (k : Int) (op0 : Ok p0) (op1 : Ok p1) (ok : Ok k) (w : World) :
    Calls Try.prog 10 #[.agg #[.int .i64 p0, .int .i64 p1], .int .i64 k] w (Gives (.bool true) w) := by
  have heq := eql_a2
  have hB := Known.start w
  go_enter Try.func10, Try.ntmps10
  go_wp2_with (first | (go_at_call 26; refine (sTimes _ _ _).mono ?_; rintro e w1 ⟨rfl, hn⟩; (first | replace hB := (hB).keep hn | replace hB := (hB.alloc).keep hn | replace hB := (hB.alloc.alloc).keep hn | replace hB := (hB.alloc.alloc.alloc).keep hn | replace hB := (hB.alloc.alloc.alloc.alloc).keep hn | replace hB := (hB.alloc.alloc.alloc.alloc.alloc).keep hn | replace hB := (hB.alloc.alloc.alloc.alloc.alloc.alloc).keep hn); clear hn; (try clear hR); have hR := hB.rules; simp only [Rules, World.size_alloc, Nat.add_one_le_iff] at hR))
  any_goals
    refine bodyPost_ret (results_tmp rfl _ _ _) rfl ?_
    refine ⟨ret_true ?_, ?_⟩
    · rfl
    · repeat (first | exact ext_refl _ | exact hB.below | apply ext_alloc | apply ext_drew | (refine ext_set ?_ ?_; · first | (dsimp only; omega) | (simp; omega) | (simp; done)))
  have h0 : timesOk p0 k = true := by assumption
  have h1 : timesOk p1 k = true := by simp_all
  have hz : ¬ k = 0 := by assumption
  have hk : (k == 0) = false := by simpa using hz
  have ho : ((1 : Int) == 0) = false := rfl
  have e1 : eq2 (wrap64 ((wrap64 (p0 * k)).tdiv k)) (wrap64 ((wrap64 (p1 * k)).tdiv k)) p0 p1 = true := by simp [eq2, one op0 ok h0 hz, one op1 ok h1 hz]
  (first | refine wp_region_known hB (by kernel_rfl) (by kernel_rfl) ?_ | refine wp_region_known hB.alloc (by kernel_rfl) (by kernel_rfl) ?_ | refine wp_region_known hB.alloc.alloc (by kernel_rfl) (by kernel_rfl) ?_ | refine wp_region_known hB.alloc.alloc.alloc (by kernel_rfl) (by kernel_rfl) ?_ | refine wp_region_known hB.alloc.alloc.alloc.alloc (by kernel_rfl) (by kernel_rfl) ?_ | refine wp_region_known hB.alloc.alloc.alloc.alloc.alloc (by kernel_rfl) (by kernel_rfl) ?_ | refine wp_region_known hB.alloc.alloc.alloc.alloc.alloc.alloc (by kernel_rfl) (by kernel_rfl) ?_); (try clear hR); intro hov; simp only [Rules, World.size_alloc, Nat.add_one_le_iff] at hov
  repeat (go_big_quiet_step (first | (go_at_call 28; exact Calls.over _ (iPointMul _ _ _ _)) | (go_at_call 27; exact Calls.over _ (iPointDiv _ _ _ _ hk)) | (go_at_call 27; exact Calls.over _ (iPointDiv _ _ _ _ ho))))
  refine wpQuiet_nil ?_; intro wx hB; clear hov; have hR := hB.rules; simp only [Rules, World.size_alloc, Nat.add_one_le_iff] at hR
  go_wp2
  all_goals
    refine bodyPost_ret (results_tmp rfl _ _ _) rfl ?_
    refine ⟨ret_true ?_, ?_⟩
    · simp [eq2, wrap_ok op0, wrap_ok op1]
    · repeat (first | exact ext_refl _ | exact hB.below | apply ext_alloc | apply ext_drew | (refine ext_set ?_ ?_; · first | (dsimp only; omega) | (simp; omega) | (simp; done)))

theorem lifted (os : Os) (started : os.Started) (H : Type) (enc : TypeId × Value → H) :
    ReturnsInHanded {} Try.checked os 10 .any (Rows.fnMulThenDivSpec.pre6 enc Try.prog Try.f10 Rows.fnMulThenDivRow.domain false) (Rows.fnMulThenDivSpec.post enc Try.prog Try.f10 false true false false) := by
  refine returnsInHanded_of_change (C := Try.checked) own started (by kernel_rfl) Try.func10
    (ChangeSpec.witness6 (enc := enc) (C := Try.checked) false ⟨#[], #[.agg #[.int .i64 0, .int .i64 0], .int .i64 0], []⟩ 8 (by kernel_rfl) (by kernel_rfl) (by kernel_rfl) (by kernel_rfl)) ?_
  intro W base args ds gs before hval0 hW hcnd _
  have hval : ∀ (j : Nat) t v, Try.f10.params[j]? = some t → args[j]? = some v → Value.okWide Try.prog W .any base t v := hval0
  have hW' := hW
  obtain ⟨p, q, hA0, hV, rfl, hfz, hnd⟩ := hW
  have hA : DataW.TrodAll enc Try.prog W 0 (fun _ => true) true Try.f10.params.toList args.toList ds p := hA0
  rw [Try.params10] at hA hval
  obtain ⟨v0, vs0, d0, ds0, p0, q0, hargs, rfl, rfl, h0, r0⟩ := trodAll_cons hA
  obtain ⟨v1, vs1, d1, ds1, p1, q1, rfl, rfl, rfl, h1, r1⟩ := trodAll_cons r0
  obtain ⟨rfl, rfl, rfl⟩ := trodAll_nil r1
  obtain rfl : args = #[v0, v1] := by cases args; simp_all
  obtain ⟨rfl, rfl⟩ := trodVars_none hV
  obtain ⟨xp0, xp1, rfl, rfl, rfl, wxp0, wxp1⟩ := open_arr2 Try.underlying25 Try.underlying2 (by kernel_rfl) (by kernel_rfl) (hval 0 25 v0 rfl rfl) h0
  obtain ⟨xk, rfl, rfl, rfl, wxk⟩ := open_int Try.underlying2 (hval 1 2 v1 rfl rfl) h1
  clear hA0 hval0
  refine (walk xp0 xp1 xk (bounds_i64 wxp0) (bounds_i64 wxp1) (bounds_i64 wxk) W).mono fun e W' ⟨he, bel⟩ => ?_
  subst he
  exact ⟨_, rfl, _, _, _, [], _, [], hW', trodAll_mk1 (shut_bool Try.underlying4 _), (trodAll_cons_mk (shut_arr2 Try.underlying25 Try.underlying2 (by kernel_rfl) (by kernel_rfl) wxp0 wxp1) (trodAll_cons_mk (shut_int Try.underlying2 wxk) trodAll_mk0)), rfl, bel.frame _, fun h => by cases h⟩

/-- THE STATEMENT. -/
theorem proved : Rows.FnMulThenDivSaid :=
  OpenClaim.holds_of_wide 10 Try.f10 rfl rfl rfl rfl rfl rfl rfl ⟨rfl, rfl, rfl, rfl, rfl⟩ rfl rfl rfl rfl rfl (by kernel_rfl) Try.func10 (by kernel_rfl)
    (of_decide_eq_true (by kernel_rfl)) (by unfold Func.isWrapper; first | (rw [if_pos (by decide +kernel)]; kernel_rfl) | (rw [if_neg (by decide +kernel)]; exact ⟨rfl, rfl⟩))
    (fun os started H enc _ => lifted os started H enc)
#print axioms proved
end Go.Proofs.Ytngfknnlojadeaa.fnMulThenDiv
