/-
  Proved: the statement Rows.FnAddThenSubSaid: Adding and taking away undo each other; sums of points depend neither on the order nor on how they are put together.
  Conditions: none: for every input.
-/
import Derived.Test.YtngfknnlojadeaaImpl
import Derived.Test.YtngfknnlojadeaaArith
import Derived.Test.YtngfknnlojadeaaRow
namespace Go.Proofs.Ytngfknnlojadeaa.fnAddThenSub
open Go.ChangeShapes Go.WideShapes Go.ChangeAt Go.RowKit
set_option linter.unusedSimpArgs false
set_option linter.unusedVariables false
set_option maxHeartbeats 2000000
set_option maxRecDepth 100000

theorem a1 {x : Int} (y : Int) (h : Ok x) : wrap64 (wrap64 (x + y) - y) = x := by unfold Ok at h; unfold wrap64; omega
theorem a2 {x : Int} (y : Int) (h : Ok x) : wrap64 (wrap64 (x - y) + y) = x := by unfold Ok at h; unfold wrap64; omega
theorem a3 (x y : Int) : wrap64 (y + x) = wrap64 (x + y) := by rw [Int.add_comm]
theorem a4 (x y z : Int) : wrap64 (wrap64 (x + y) + z) = wrap64 (x + wrap64 (y + z)) := by unfold wrap64; omega

theorem walk (p0 p1 : Int) (q0 q1 : Int) (t0 t1 : Int) (op0 : Ok p0) (op1 : Ok p1) (oq0 : Ok q0) (oq1 : Ok q1) (ot0 : Ok t0) (ot1 : Ok t1) (w : World) :
    Calls Try.prog 9 #[.agg #[.int .i64 p0, .int .i64 p1], .agg #[.int .i64 q0, .int .i64 q1], .agg #[.int .i64 t0, .int .i64 t1]] w (Gives (.bool true) w) := by
  have heq := eql_a2
  have hne := neq_a2
  have e1 : eq2 (wrap64 (wrap64 (p0 + q0) - q0)) (wrap64 (wrap64 (p1 + q1) - q1)) p0 p1 = true := by simp [eq2, a1 _ op0, a1 _ op1]
  have e2 : eq2 (wrap64 (wrap64 (p0 - q0) + q0)) (wrap64 (wrap64 (p1 - q1) + q1)) p0 p1 = true := by simp [eq2, a2 _ op0, a2 _ op1]
  have e3 : eq2 (wrap64 (q0 + p0)) (wrap64 (q1 + p1)) (wrap64 (p0 + q0)) (wrap64 (p1 + q1)) = true := by simp [eq2, a3 p0 q0, a3 p1 q1]
  have e4 : eq2 (wrap64 (wrap64 (p0 + q0) + t0)) (wrap64 (wrap64 (p1 + q1) + t1)) (wrap64 (p0 + wrap64 (q0 + t0))) (wrap64 (p1 + wrap64 (q1 + t1))) = true := by simp [eq2, a4]
  have hB := Known.start w
  go_enter Try.func9, Try.ntmps9
  go_wp2_with (first | (go_at_call 24; refine (iPointAdd _ _ _ _ _).mono ?_; rintro e w1 ⟨rfl, hn⟩; (first | replace hB := (hB).keep hn | replace hB := (hB.alloc).keep hn | replace hB := (hB.alloc.alloc).keep hn | replace hB := (hB.alloc.alloc.alloc).keep hn | replace hB := (hB.alloc.alloc.alloc.alloc).keep hn | replace hB := (hB.alloc.alloc.alloc.alloc.alloc).keep hn | replace hB := (hB.alloc.alloc.alloc.alloc.alloc.alloc).keep hn); clear hn; (try clear hR); have hR := hB.rules; simp only [Rules, World.size_alloc, Nat.add_one_le_iff] at hR))
  (first | refine wp_region_known hB (by kernel_rfl) (by kernel_rfl) ?_ | refine wp_region_known hB.alloc (by kernel_rfl) (by kernel_rfl) ?_ | refine wp_region_known hB.alloc.alloc (by kernel_rfl) (by kernel_rfl) ?_ | refine wp_region_known hB.alloc.alloc.alloc (by kernel_rfl) (by kernel_rfl) ?_ | refine wp_region_known hB.alloc.alloc.alloc.alloc (by kernel_rfl) (by kernel_rfl) ?_ | refine wp_region_known hB.alloc.alloc.alloc.alloc.alloc (by kernel_rfl) (by kernel_rfl) ?_ | refine wp_region_known hB.alloc.alloc.alloc.alloc.alloc.alloc (by kernel_rfl) (by kernel_rfl) ?_); (try clear hR); intro hov; simp only [Rules, World.size_alloc, Nat.add_one_le_iff] at hov; (repeat (go_big_quiet_step (first | (go_at_call 24; exact Calls.over _ (iPointAdd _ _ _ _ _)) | (go_at_call 25; exact Calls.over _ (iPointSub _ _ _ _ _))))); refine wpQuiet_nil ?_; intro wx hB; clear hov; have hR := hB.rules; simp only [Rules, World.size_alloc, Nat.add_one_le_iff] at hR
  go_wp2
  (first | refine wp_region_known hB (by kernel_rfl) (by kernel_rfl) ?_ | refine wp_region_known hB.alloc (by kernel_rfl) (by kernel_rfl) ?_ | refine wp_region_known hB.alloc.alloc (by kernel_rfl) (by kernel_rfl) ?_ | refine wp_region_known hB.alloc.alloc.alloc (by kernel_rfl) (by kernel_rfl) ?_ | refine wp_region_known hB.alloc.alloc.alloc.alloc (by kernel_rfl) (by kernel_rfl) ?_ | refine wp_region_known hB.alloc.alloc.alloc.alloc.alloc (by kernel_rfl) (by kernel_rfl) ?_ | refine wp_region_known hB.alloc.alloc.alloc.alloc.alloc.alloc (by kernel_rfl) (by kernel_rfl) ?_); (try clear hR); intro hov; simp only [Rules, World.size_alloc, Nat.add_one_le_iff] at hov; (repeat (go_big_quiet_step (first | (go_at_call 24; exact Calls.over _ (iPointAdd _ _ _ _ _)) | (go_at_call 25; exact Calls.over _ (iPointSub _ _ _ _ _))))); refine wpQuiet_nil ?_; intro wx hB; clear hov; have hR := hB.rules; simp only [Rules, World.size_alloc, Nat.add_one_le_iff] at hR
  go_wp2
  all_goals
    refine bodyPost_ret (results_tmp rfl _ _ _) rfl ?_
    refine ⟨ret_true ?_, ?_⟩
    · simp [eq2, wrap64]
    · repeat (first | exact ext_refl _ | exact hB.below | apply ext_alloc | apply ext_drew | (refine ext_set ?_ ?_; · first | (dsimp only; omega) | (simp; omega) | (simp; done)))

theorem lifted (os : Os) (started : os.Started) (H : Type) (enc : TypeId × Value → H) :
    ReturnsInHanded {} Try.checked os 9 .any (Rows.fnAddThenSubSpec.pre6 enc Try.prog Try.f9 Rows.fnAddThenSubRow.domain false) (Rows.fnAddThenSubSpec.post enc Try.prog Try.f9 false true false false) := by
  refine returnsInHanded_of_change (C := Try.checked) own started (by kernel_rfl) Try.func9
    (ChangeSpec.witness6 (enc := enc) (C := Try.checked) false ⟨#[], #[.agg #[.int .i64 0, .int .i64 0], .agg #[.int .i64 0, .int .i64 0], .agg #[.int .i64 0, .int .i64 0]], []⟩ 8 (by kernel_rfl) (by kernel_rfl) (by kernel_rfl) (by kernel_rfl)) ?_
  intro W base args ds gs before hval0 hW hcnd _
  have hval : ∀ (j : Nat) t v, Try.f9.params[j]? = some t → args[j]? = some v → Value.okWide Try.prog W .any base t v := hval0
  have hW' := hW
  obtain ⟨p, q, hA0, hV, rfl, hfz, hnd⟩ := hW
  have hA : DataW.TrodAll enc Try.prog W 0 (fun _ => true) true Try.f9.params.toList args.toList ds p := hA0
  rw [Try.params9] at hA hval
  obtain ⟨v0, vs0, d0, ds0, p0, q0, hargs, rfl, rfl, h0, r0⟩ := trodAll_cons hA
  obtain ⟨v1, vs1, d1, ds1, p1, q1, rfl, rfl, rfl, h1, r1⟩ := trodAll_cons r0
  obtain ⟨v2, vs2, d2, ds2, p2, q2, rfl, rfl, rfl, h2, r2⟩ := trodAll_cons r1
  obtain ⟨rfl, rfl, rfl⟩ := trodAll_nil r2
  obtain rfl : args = #[v0, v1, v2] := by cases args; simp_all
  obtain ⟨rfl, rfl⟩ := trodVars_none hV
  obtain ⟨xp0, xp1, rfl, rfl, rfl, wxp0, wxp1⟩ := open_arr2 Try.underlying25 Try.underlying2 (by kernel_rfl) (by kernel_rfl) (hval 0 25 v0 rfl rfl) h0
  obtain ⟨xq0, xq1, rfl, rfl, rfl, wxq0, wxq1⟩ := open_arr2 Try.underlying25 Try.underlying2 (by kernel_rfl) (by kernel_rfl) (hval 1 25 v1 rfl rfl) h1
  obtain ⟨xt0, xt1, rfl, rfl, rfl, wxt0, wxt1⟩ := open_arr2 Try.underlying25 Try.underlying2 (by kernel_rfl) (by kernel_rfl) (hval 2 25 v2 rfl rfl) h2
  clear hA0 hval0
  refine (walk xp0 xp1 xq0 xq1 xt0 xt1 (bounds_i64 wxp0) (bounds_i64 wxp1) (bounds_i64 wxq0) (bounds_i64 wxq1) (bounds_i64 wxt0) (bounds_i64 wxt1) W).mono fun e W' ⟨he, bel⟩ => ?_
  subst he
  exact ⟨_, rfl, _, _, _, [], _, [], hW', trodAll_mk1 (shut_bool Try.underlying4 _), (trodAll_cons_mk (shut_arr2 Try.underlying25 Try.underlying2 (by kernel_rfl) (by kernel_rfl) wxp0 wxp1) (trodAll_cons_mk (shut_arr2 Try.underlying25 Try.underlying2 (by kernel_rfl) (by kernel_rfl) wxq0 wxq1) (trodAll_cons_mk (shut_arr2 Try.underlying25 Try.underlying2 (by kernel_rfl) (by kernel_rfl) wxt0 wxt1) trodAll_mk0))), rfl, bel.frame _, fun h => by cases h⟩

/-- THE STATEMENT. -/
theorem proved : Rows.FnAddThenSubSaid :=
  OpenClaim.holds_of_wide 9 Try.f9 rfl rfl rfl rfl rfl rfl rfl ⟨rfl, rfl, rfl, rfl, rfl⟩ rfl rfl rfl rfl rfl (by kernel_rfl) Try.func9 (by kernel_rfl)
    (of_decide_eq_true (by kernel_rfl)) (by unfold Func.isWrapper; first | (rw [if_pos (by decide +kernel)]; kernel_rfl) | (rw [if_neg (by decide +kernel)]; exact ⟨rfl, rfl⟩))
    (fun os started H enc _ => lifted os started H enc)
#print axioms proved
end Go.Proofs.Ytngfknnlojadeaa.fnAddThenSub
