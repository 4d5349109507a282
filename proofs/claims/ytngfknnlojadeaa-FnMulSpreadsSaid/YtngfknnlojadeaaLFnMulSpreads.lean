/-
  Proved: the statement Rows.FnMulSpreadsSaid: A product of a sum is the sum of the products, for both factors, and products may be made one after the other.
  Conditions: none: for every input.
-/
import Derived.Test.YtngfknnlojadeaaImpl
import Derived.Test.YtngfknnlojadeaaArith
import Derived.Test.YtngfknnlojadeaaRow
namespace Go.Proofs.Ytngfknnlojadeaa.fnMulSpreads
open Go.ChangeShapes Go.WideShapes Go.ChangeAt Go.RowKit
set_option linter.unusedSimpArgs false
set_option linter.unusedVariables false
set_option maxHeartbeats 2000000
set_option maxRecDepth 100000

theorem shift (x t : Int) : wrap64 (x + 18446744073709551616 * t) = wrap64 x := by unfold wrap64; omega
theorem unwrap (x : Int) : ∃ t, wrap64 x = x + 18446744073709551616 * t := ⟨-((x + 9223372036854775808) / 18446744073709551616), by unfold wrap64; omega⟩
theorem mulL (x k : Int) : wrap64 (wrap64 x * k) = wrap64 (x * k) := by
  obtain ⟨t, ht⟩ := unwrap x
  rw [ht, Int.add_mul, Int.mul_assoc, shift]
theorem mulR (x k : Int) : wrap64 (x * wrap64 k) = wrap64 (x * k) := by rw [Int.mul_comm, mulL, Int.mul_comm]
theorem addW (x y : Int) : wrap64 (wrap64 x + wrap64 y) = wrap64 (x + y) := by unfold wrap64; omega
theorem b1 (x y k : Int) : wrap64 (wrap64 (x + y) * k) = wrap64 (wrap64 (x * k) + wrap64 (y * k)) := by rw [mulL, addW, Int.add_mul]
theorem b2 (x k m : Int) : wrap64 (x * wrap64 (k + m)) = wrap64 (wrap64 (x * k) + wrap64 (x * m)) := by rw [mulR, addW, Int.mul_add]
theorem b3 (x k m : Int) : wrap64 (wrap64 (x * k) * m) = wrap64 (x * wrap64 (k * m)) := by rw [mulL, mulR, Int.mul_assoc]
theorem b4 {x : Int} (h : Ok x) : wrap64 (x * 1) = x := by rw [Int.mul_one]; exact wrap_ok h

theorem walk (p0 p1 : Int) (q0 q1 : Int) (k : Int) (m : Int) (op0 : Ok p0) (op1 : Ok p1) (oq0 : Ok q0) (oq1 : Ok q1) (ok : Ok k) (om : Ok m) (w : World) :
    Calls Try.prog 11 #[.agg #[.int .i64 p0, .int .i64 p1], .agg #[.int .i64 q0, .int .i64 q1], .int .i64 k, .int .i64 m] w (Gives (.bool true) w) := by
  have heq := eql_a2
  have hne := neq_a2
  have e1 : eq2 (wrap64 (wrap64 (p0 + q0) * k)) (wrap64 (wrap64 (p1 + q1) * k)) (wrap64 (wrap64 (p0 * k) + wrap64 (q0 * k))) (wrap64 (wrap64 (p1 * k) + wrap64 (q1 * k))) = true := by simp [eq2, b1]
  have e2 : eq2 (wrap64 (p0 * wrap64 (k + m))) (wrap64 (p1 * wrap64 (k + m))) (wrap64 (wrap64 (p0 * k) + wrap64 (p0 * m))) (wrap64 (wrap64 (p1 * k) + wrap64 (p1 * m))) = true := by simp [eq2, b2]
  have e3 : eq2 (wrap64 (wrap64 (p0 * k) * m)) (wrap64 (wrap64 (p1 * k) * m)) (wrap64 (p0 * wrap64 (k * m))) (wrap64 (p1 * wrap64 (k * m))) = true := by simp [eq2, b3]
  have e4 : eq2 (wrap64 (p0 * 1)) (wrap64 (p1 * 1)) p0 p1 = true := by simp [eq2, b4 op0, b4 op1, wrap_ok op0, wrap_ok op1]
  have e5 : eq2 (wrap64 p0) (wrap64 p1) p0 p1 = true := by simp [eq2, wrap_ok op0, wrap_ok op1]
  have hB := Known.start w
  go_enter Try.func11, Try.ntmps11
  go_wp2_with (first | (go_at_call 24; refine (iPointAdd _ _ _ _ _).mono ?_; rintro e w1 ⟨rfl, hn⟩; (first | replace hB := (hB).keep hn | replace hB := (hB.alloc).keep hn | replace hB := (hB.alloc.alloc).keep hn | replace hB := (hB.alloc.alloc.alloc).keep hn | replace hB := (hB.alloc.alloc.alloc.alloc).keep hn | replace hB := (hB.alloc.alloc.alloc.alloc.alloc).keep hn | replace hB := (hB.alloc.alloc.alloc.alloc.alloc.alloc).keep hn); clear hn; (try clear hR); have hR := hB.rules; simp only [Rules, World.size_alloc, Nat.add_one_le_iff] at hR) | (go_at_call 28; refine (iPointMul _ _ _ _).mono ?_; rintro e w1 ⟨rfl, hn⟩; (first | replace hB := (hB).keep hn | replace hB := (hB.alloc).keep hn | replace hB := (hB.alloc.alloc).keep hn | replace hB := (hB.alloc.alloc.alloc).keep hn | replace hB := (hB.alloc.alloc.alloc.alloc).keep hn | replace hB := (hB.alloc.alloc.alloc.alloc.alloc).keep hn | replace hB := (hB.alloc.alloc.alloc.alloc.alloc.alloc).keep hn); clear hn; (try clear hR); have hR := hB.rules; simp only [Rules, World.size_alloc, Nat.add_one_le_iff] at hR))
  (first | refine wp_region_known hB (by kernel_rfl) (by kernel_rfl) ?_ | refine wp_region_known hB.alloc (by kernel_rfl) (by kernel_rfl) ?_ | refine wp_region_known hB.alloc.alloc (by kernel_rfl) (by kernel_rfl) ?_ | refine wp_region_known hB.alloc.alloc.alloc (by kernel_rfl) (by kernel_rfl) ?_ | refine wp_region_known hB.alloc.alloc.alloc.alloc (by kernel_rfl) (by kernel_rfl) ?_ | refine wp_region_known hB.alloc.alloc.alloc.alloc.alloc (by kernel_rfl) (by kernel_rfl) ?_ | refine wp_region_known hB.alloc.alloc.alloc.alloc.alloc.alloc (by kernel_rfl) (by kernel_rfl) ?_); (try clear hR); intro hov; simp only [Rules, World.size_alloc, Nat.add_one_le_iff] at hov; (repeat (go_big_quiet_step (first | (go_at_call 24; exact Calls.over _ (iPointAdd _ _ _ _ _)) | (go_at_call 25; exact Calls.over _ (iPointSub _ _ _ _ _)) | (go_at_call 28; exact Calls.over _ (iPointMul _ _ _ _))))); refine wpQuiet_nil ?_; intro wx hB; clear hov; have hR := hB.rules; simp only [Rules, World.size_alloc, Nat.add_one_le_iff] at hR
  go_wp2
  (first | refine wp_region_known hB (by kernel_rfl) (by kernel_rfl) ?_ | refine wp_region_known hB.alloc (by kernel_rfl) (by kernel_rfl) ?_ | refine wp_region_known hB.alloc.alloc (by kernel_rfl) (by kernel_rfl) ?_ | refine wp_region_known hB.alloc.alloc.alloc (by kernel_rfl) (by kernel_rfl) ?_ | refine wp_region_known hB.alloc.alloc.alloc.alloc (by kernel_rfl) (by kernel_rfl) ?_ | refine wp_region_known hB.alloc.alloc.alloc.alloc.alloc (by kernel_rfl) (by kernel_rfl) ?_ | refine wp_region_known hB.alloc.alloc.alloc.alloc.alloc.alloc (by kernel_rfl) (by kernel_rfl) ?_); (try clear hR); intro hov; simp only [Rules, World.size_alloc, Nat.add_one_le_iff] at hov; (repeat (go_big_quiet_step (first | (go_at_call 24; exact Calls.over _ (iPointAdd _ _ _ _ _)) | (go_at_call 25; exact Calls.over _ (iPointSub _ _ _ _ _)) | (go_at_call 28; exact Calls.over _ (iPointMul _ _ _ _))))); refine wpQuiet_nil ?_; intro wx hB; clear hov; have hR := hB.rules; simp only [Rules, World.size_alloc, Nat.add_one_le_iff] at hR
  go_wp2
  all_goals
    refine bodyPost_ret (results_tmp rfl _ _ _) rfl ?_
    refine ⟨ret_true ?_, ?_⟩
    · simp [eq2, Int.mul_neg_one, Int.mul_neg]
    · repeat (first | exact ext_refl _ | exact hB.below | apply ext_alloc | apply ext_drew | (refine ext_set ?_ ?_; · first | (dsimp only; omega) | (simp; omega) | (simp; done)))

theorem lifted (os : Os) (started : os.Started) (H : Type) (enc : TypeId × Value → H) :
    ReturnsInHanded {} Try.checked os 11 .any (Rows.fnMulSpreadsSpec.pre6 enc Try.prog Try.f11 Rows.fnMulSpreadsRow.domain false) (Rows.fnMulSpreadsSpec.post enc Try.prog Try.f11 false true false false) := by
  refine returnsInHanded_of_change (C := Try.checked) own started (by kernel_rfl) Try.func11
    (ChangeSpec.witness6 (enc := enc) (C := Try.checked) false ⟨#[], #[.agg #[.int .i64 0, .int .i64 0], .agg #[.int .i64 0, .int .i64 0], .int .i64 0, .int .i64 0], []⟩ 8 (by kernel_rfl) (by kernel_rfl) (by kernel_rfl) (by kernel_rfl)) ?_
  intro W base args ds gs before hval0 hW hcnd _
  have hval : ∀ (j : Nat) t v, Try.f11.params[j]? = some t → args[j]? = some v → Value.okWide Try.prog W .any base t v := hval0
  have hW' := hW
  obtain ⟨p, q, hA0, hV, rfl, hfz, hnd⟩ := hW
  have hA : DataW.TrodAll enc Try.prog W 0 (fun _ => true) true Try.f11.params.toList args.toList ds p := hA0
  rw [Try.params11] at hA hval
  obtain ⟨v0, vs0, d0, ds0, p0, q0, hargs, rfl, rfl, h0, r0⟩ := trodAll_cons hA
  obtain ⟨v1, vs1, d1, ds1, p1, q1, rfl, rfl, rfl, h1, r1⟩ := trodAll_cons r0
  obtain ⟨v2, vs2, d2, ds2, p2, q2, rfl, rfl, rfl, h2, r2⟩ := trodAll_cons r1
  obtain ⟨v3, vs3, d3, ds3, p3, q3, rfl, rfl, rfl, h3, r3⟩ := trodAll_cons r2
  obtain ⟨rfl, rfl, rfl⟩ := trodAll_nil r3
  obtain rfl : args = #[v0, v1, v2, v3] := by cases args; simp_all
  obtain ⟨rfl, rfl⟩ := trodVars_none hV
  obtain ⟨xp0, xp1, rfl, rfl, rfl, wxp0, wxp1⟩ := open_arr2 Try.underlying25 Try.underlying2 (by kernel_rfl) (by kernel_rfl) (hval 0 25 v0 rfl rfl) h0
  obtain ⟨xq0, xq1, rfl, rfl, rfl, wxq0, wxq1⟩ := open_arr2 Try.underlying25 Try.underlying2 (by kernel_rfl) (by kernel_rfl) (hval 1 25 v1 rfl rfl) h1
  obtain ⟨xk, rfl, rfl, rfl, wxk⟩ := open_int Try.underlying2 (hval 2 2 v2 rfl rfl) h2
  obtain ⟨xm, rfl, rfl, rfl, wxm⟩ := open_int Try.underlying2 (hval 3 2 v3 rfl rfl) h3
  clear hA0 hval0
  refine (walk xp0 xp1 xq0 xq1 xk xm (bounds_i64 wxp0) (bounds_i64 wxp1) (bounds_i64 wxq0) (bounds_i64 wxq1) (bounds_i64 wxk) (bounds_i64 wxm) W).mono fun e W' ⟨he, bel⟩ => ?_
  subst he
  exact ⟨_, rfl, _, _, _, [], _, [], hW', trodAll_mk1 (shut_bool Try.underlying4 _), (trodAll_cons_mk (shut_arr2 Try.underlying25 Try.underlying2 (by kernel_rfl) (by kernel_rfl) wxp0 wxp1) (trodAll_cons_mk (shut_arr2 Try.underlying25 Try.underlying2 (by kernel_rfl) (by kernel_rfl) wxq0 wxq1) (trodAll_cons_mk (shut_int Try.underlying2 wxk) (trodAll_cons_mk (shut_int Try.underlying2 wxm) trodAll_mk0)))), rfl, bel.frame _, fun h => by cases h⟩

/-- THE STATEMENT. -/
theorem proved : Rows.FnMulSpreadsSaid :=
  OpenClaim.holds_of_wide 11 Try.f11 rfl rfl rfl rfl rfl rfl rfl ⟨rfl, rfl, rfl, rfl, rfl⟩ rfl rfl rfl rfl rfl (by kernel_rfl) Try.func11 (by kernel_rfl)
    (of_decide_eq_true (by kernel_rfl)) (by unfold Func.isWrapper; first | (rw [if_pos (by decide +kernel)]; kernel_rfl) | (rw [if_neg (by decide +kernel)]; exact ⟨rfl, rfl⟩))
    (fun os started H enc _ => lifted os started H enc)
#print axioms proved
end Go.Proofs.Ytngfknnlojadeaa.fnMulSpreads
