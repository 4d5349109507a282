/-
  Proved: the statement Rows.FnIntersectMovedSaid: What is moved is intersected, and put together, as what is not moved is (no number is greater than 1000000000000 in size, and both overlap).
  Conditions: none: for every input.
-/
import Derived.Test.YtakfghkbdijbiaaSpec
import Derived.Test.YtakfghkbdijbiaaSmall
import Derived.Test.YtakfghkbdijbiaaRow
namespace Go.Proofs.Ytakfghkbdijbiaa.fnIntersectMoved
open Go.ChangeShapes Go.WideShapes Go.ChangeAt Go.RowKit
set_option linter.unusedSimpArgs false
set_option linter.unusedVariables false
set_option maxHeartbeats 2000000
set_option maxRecDepth 100000

/-- A call that answers a Bool, of which it is known what it is. -/
theorem Calls.overB {P : Program} {f : FuncId} {args : Array Value} {w : World} {x b : Bool} {y : Over w} (hx : x = b) (h : Calls P f args y.wd (Gives (.bool x) y.wd)) :
    Calls P f args y.wd fun e w'' => e = .returned (.bool b) ∧ ∃ z : Over w, w'' = z.wd := by subst hx; exact Calls.over _ h

theorem sum {x p : Int} (bx : In12 x) (bp : In12 p) : wrap64 (x + p) = x + p := by unfold In12 at *; exact wrap_in (by omega) (by omega)
theorem in_min {x y : Int} (bx : In12 x) (byy : In12 y) : In12 (min x y) := by unfold In12 at *; omega
theorem in_max {x y : Int} (bx : In12 x) (byy : In12 y) : In12 (max x y) := by unfold In12 at *; omega
theorem moved {r0 r1 r2 r3 t0 t1 t2 t3 p0 p1 : Int} (br0 : In12 r0) (br1 : In12 r1) (br2 : In12 r2) (br3 : In12 r3) (bt0 : In12 t0) (bt1 : In12 t1) (bt2 : In12 t2) (bt3 : In12 t3) (bp0 : In12 p0) (bp1 : In12 p1) (h : emptyB (isect r0 r1 r2 r3 t0 t1 t2 t3).a (isect r0 r1 r2 r3 t0 t1 t2 t3).b (isect r0 r1 r2 r3 t0 t1 t2 t3).c (isect r0 r1 r2 r3 t0 t1 t2 t3).d = false) :
    eq4 (isect (wrap64 (r0 + p0)) (wrap64 (r1 + p1)) (wrap64 (r2 + p0)) (wrap64 (r3 + p1)) (wrap64 (t0 + p0)) (wrap64 (t1 + p1)) (wrap64 (t2 + p0)) (wrap64 (t3 + p1))).a (isect (wrap64 (r0 + p0)) (wrap64 (r1 + p1)) (wrap64 (r2 + p0)) (wrap64 (r3 + p1)) (wrap64 (t0 + p0)) (wrap64 (t1 + p1)) (wrap64 (t2 + p0)) (wrap64 (t3 + p1))).b (isect (wrap64 (r0 + p0)) (wrap64 (r1 + p1)) (wrap64 (r2 + p0)) (wrap64 (r3 + p1)) (wrap64 (t0 + p0)) (wrap64 (t1 + p1)) (wrap64 (t2 + p0)) (wrap64 (t3 + p1))).c (isect (wrap64 (r0 + p0)) (wrap64 (r1 + p1)) (wrap64 (r2 + p0)) (wrap64 (r3 + p1)) (wrap64 (t0 + p0)) (wrap64 (t1 + p1)) (wrap64 (t2 + p0)) (wrap64 (t3 + p1))).d
      (wrap64 ((isect r0 r1 r2 r3 t0 t1 t2 t3).a + p0)) (wrap64 ((isect r0 r1 r2 r3 t0 t1 t2 t3).b + p1)) (wrap64 ((isect r0 r1 r2 r3 t0 t1 t2 t3).c + p0)) (wrap64 ((isect r0 r1 r2 r3 t0 t1 t2 t3).d + p1)) = true ∧
    eq4 (union (wrap64 (r0 + p0)) (wrap64 (r1 + p1)) (wrap64 (r2 + p0)) (wrap64 (r3 + p1)) (wrap64 (t0 + p0)) (wrap64 (t1 + p1)) (wrap64 (t2 + p0)) (wrap64 (t3 + p1))).a (union (wrap64 (r0 + p0)) (wrap64 (r1 + p1)) (wrap64 (r2 + p0)) (wrap64 (r3 + p1)) (wrap64 (t0 + p0)) (wrap64 (t1 + p1)) (wrap64 (t2 + p0)) (wrap64 (t3 + p1))).b (union (wrap64 (r0 + p0)) (wrap64 (r1 + p1)) (wrap64 (r2 + p0)) (wrap64 (r3 + p1)) (wrap64 (t0 + p0)) (wrap64 (t1 + p1)) (wrap64 (t2 + p0)) (wrap64 (t3 + p1))).c (union (wrap64 (r0 + p0)) (wrap64 (r1 + p1)) (wrap64 (r2 + p0)) (wrap64 (r3 + p1)) (wrap64 (t0 + p0)) (wrap64 (t1 + p1)) (wrap64 (t2 + p0)) (wrap64 (t3 + p1))).d
      (wrap64 ((union r0 r1 r2 r3 t0 t1 t2 t3).a + p0)) (wrap64 ((union r0 r1 r2 r3 t0 t1 t2 t3).b + p1)) (wrap64 ((union r0 r1 r2 r3 t0 t1 t2 t3).c + p0)) (wrap64 ((union r0 r1 r2 r3 t0 t1 t2 t3).d + p1)) = true ∧
    overB (wrap64 (r0 + p0)) (wrap64 (r1 + p1)) (wrap64 (r2 + p0)) (wrap64 (r3 + p1)) (wrap64 (t0 + p0)) (wrap64 (t1 + p1)) (wrap64 (t2 + p0)) (wrap64 (t3 + p1)) = true ∧
    rinB (wrap64 (r0 + p0)) (wrap64 (r1 + p1)) (wrap64 (r2 + p0)) (wrap64 (r3 + p1)) (wrap64 (t0 + p0)) (wrap64 (t1 + p1)) (wrap64 (t2 + p0)) (wrap64 (t3 + p1)) = rinB r0 r1 r2 r3 t0 t1 t2 t3 := by
  rw [sum br0 bp0, sum br1 bp1, sum br2 bp0, sum br3 bp1, sum bt0 bp0, sum bt1 bp1, sum bt2 bp0, sum bt3 bp1]
  rcases isect_cases r0 r1 r2 r3 t0 t1 t2 t3 with ⟨h1, e1⟩ | ⟨h1, e1⟩
  · rw [e1] at h; cases h
  rcases union_cases r0 r1 r2 r3 t0 t1 t2 t3 with ⟨h2, e2⟩ | ⟨h2, h3, e2⟩ | ⟨h2, h3, e2⟩
  · omega
  · omega
  rcases isect_cases (r0 + p0) (r1 + p1) (r2 + p0) (r3 + p1) (t0 + p0) (t1 + p1) (t2 + p0) (t3 + p1) with ⟨h4, e4⟩ | ⟨h4, e4⟩
  · omega
  rcases union_cases (r0 + p0) (r1 + p1) (r2 + p0) (r3 + p1) (t0 + p0) (t1 + p1) (t2 + p0) (t3 + p1) with ⟨h5, e5⟩ | ⟨h5, h6, e5⟩ | ⟨h5, h6, e5⟩
  · omega
  · omega
  rw [e1, e2, e4, e5]
  dsimp only
  rw [sum (in_max br0 bt0) bp0, sum (in_max br1 bt1) bp1, sum (in_min br2 bt2) bp0, sum (in_min br3 bt3) bp1, sum (in_min br0 bt0) bp0, sum (in_min br1 bt1) bp1, sum (in_max br2 bt2) bp0, sum (in_max br3 bt3) bp1]
  refine ⟨?_, ?_, ?_, bool_eq ?_⟩
  · rw [eq4_iff]; omega
  · rw [eq4_iff]; omega
  · rw [overB_iff]; omega
  · rw [rinB_iff, rinB_iff]; omega

theorem walk (r0 r1 r2 r3 : Int) (t0 t1 t2 t3 : Int) (p0 p1 : Int) (or0 : Ok r0) (or1 : Ok r1) (or2 : Ok r2) (or3 : Ok r3) (ot0 : Ok t0) (ot1 : Ok t1) (ot2 : Ok t2) (ot3 : Ok t3) (op0 : Ok p0) (op1 : Ok p1) (w : World) :
    Calls Try.prog 11 #[.agg #[.int .i64 r0, .int .i64 r1, .int .i64 r2, .int .i64 r3], .agg #[.int .i64 t0, .int .i64 t1, .int .i64 t2, .int .i64 t3], .agg #[.int .i64 p0, .int .i64 p1]] w (Gives (.bool true) w) := by
  have heq := eql_a4
  have hnq := neq_a4
  have hB := Known.start w
  go_enter Try.func11, Try.ntmps11
  go_wp2
  refine wp_loop_rounds 11 ?_
  rw [rounds_succ]
  go_wp2
  any_goals
    refine bodyPost_ret (results_tmp rfl _ _ _) rfl ?_
    refine ⟨ret_true ?_, ?_⟩
    · rfl
    · repeat (first | exact ext_refl _ | exact hB.below | apply ext_alloc | apply ext_drew | (refine ext_set ?_ ?_; · first | (dsimp only; omega) | (simp; omega) | (simp; done)))
  rename_i hx hy
  have b_r0 : In12 r0 := ⟨hy.2, hy.1⟩
  clear hx hy
  rw [rounds_succ]
  go_wp2
  any_goals
    refine bodyPost_ret (results_tmp rfl _ _ _) rfl ?_
    refine ⟨ret_true ?_, ?_⟩
    · rfl
    · repeat (first | exact ext_refl _ | exact hB.below | apply ext_alloc | apply ext_drew | (refine ext_set ?_ ?_; · first | (dsimp only; omega) | (simp; omega) | (simp; done)))
  rename_i hx hy
  have b_r1 : In12 r1 := ⟨hy.2, hy.1⟩
  clear hx hy
  rw [rounds_succ]
  go_wp2
  any_goals
    refine bodyPost_ret (results_tmp rfl _ _ _) rfl ?_
    refine ⟨ret_true ?_, ?_⟩
    · rfl
    · repeat (first | exact ext_refl _ | exact hB.below | apply ext_alloc | apply ext_drew | (refine ext_set ?_ ?_; · first | (dsimp only; omega) | (simp; omega) | (simp; done)))
  rename_i hx hy
  have b_r2 : In12 r2 := ⟨hy.2, hy.1⟩
  clear hx hy
  rw [rounds_succ]
  go_wp2
  any_goals
    refine bodyPost_ret (results_tmp rfl _ _ _) rfl ?_
    refine ⟨ret_true ?_, ?_⟩
    · rfl
    · repeat (first | exact ext_refl _ | exact hB.below | apply ext_alloc | apply ext_drew | (refine ext_set ?_ ?_; · first | (dsimp only; omega) | (simp; omega) | (simp; done)))
  rename_i hx hy
  have b_r3 : In12 r3 := ⟨hy.2, hy.1⟩
  clear hx hy
  rw [rounds_succ]
  go_wp2
  any_goals
    refine bodyPost_ret (results_tmp rfl _ _ _) rfl ?_
    refine ⟨ret_true ?_, ?_⟩
    · rfl
    · repeat (first | exact ext_refl _ | exact hB.below | apply ext_alloc | apply ext_drew | (refine ext_set ?_ ?_; · first | (dsimp only; omega) | (simp; omega) | (simp; done)))
  rename_i hx hy
  have b_t0 : In12 t0 := ⟨hy.2, hy.1⟩
  clear hx hy
  rw [rounds_succ]
  go_wp2
  any_goals
    refine bodyPost_ret (results_tmp rfl _ _ _) rfl ?_
    refine ⟨ret_true ?_, ?_⟩
    · rfl
    · repeat (first | exact ext_refl _ | exact hB.below | apply ext_alloc | apply ext_drew | (refine ext_set ?_ ?_; · first | (dsimp only; omega) | (simp; omega) | (simp; done)))
  rename_i hx hy
  have b_t1 : In12 t1 := ⟨hy.2, hy.1⟩
  clear hx hy
  rw [rounds_succ]
  go_wp2
  any_goals
    refine bodyPost_ret (results_tmp rfl _ _ _) rfl ?_
    refine ⟨ret_true ?_, ?_⟩
    · rfl
    · repeat (first | exact ext_refl _ | exact hB.below | apply ext_alloc | apply ext_drew | (refine ext_set ?_ ?_; · first | (dsimp only; omega) | (simp; omega) | (simp; done)))
  rename_i hx hy
  have b_t2 : In12 t2 := ⟨hy.2, hy.1⟩
  clear hx hy
  rw [rounds_succ]
  go_wp2
  any_goals
    refine bodyPost_ret (results_tmp rfl _ _ _) rfl ?_
    refine ⟨ret_true ?_, ?_⟩
    · rfl
    · repeat (first | exact ext_refl _ | exact hB.below | apply ext_alloc | apply ext_drew | (refine ext_set ?_ ?_; · first | (dsimp only; omega) | (simp; omega) | (simp; done)))
  rename_i hx hy
  have b_t3 : In12 t3 := ⟨hy.2, hy.1⟩
  clear hx hy
  rw [rounds_succ]
  go_wp2
  any_goals
    refine bodyPost_ret (results_tmp rfl _ _ _) rfl ?_
    refine ⟨ret_true ?_, ?_⟩
    · rfl
    · repeat (first | exact ext_refl _ | exact hB.below | apply ext_alloc | apply ext_drew | (refine ext_set ?_ ?_; · first | (dsimp only; omega) | (simp; omega) | (simp; done)))
  rename_i hx hy
  have b_p0 : In12 p0 := ⟨hy.2, hy.1⟩
  clear hx hy
  rw [rounds_succ]
  go_wp2
  any_goals
    refine bodyPost_ret (results_tmp rfl _ _ _) rfl ?_
    refine ⟨ret_true ?_, ?_⟩
    · rfl
    · repeat (first | exact ext_refl _ | exact hB.below | apply ext_alloc | apply ext_drew | (refine ext_set ?_ ?_; · first | (dsimp only; omega) | (simp; omega) | (simp; done)))
  rename_i hx hy
  have b_p1 : In12 p1 := ⟨hy.2, hy.1⟩
  clear hx hy
  rcases Bool.eq_false_or_eq_true (emptyB (isect r0 r1 r2 r3 t0 t1 t2 t3).a (isect r0 r1 r2 r3 t0 t1 t2 t3).b (isect r0 r1 r2 r3 t0 t1 t2 t3).c (isect r0 r1 r2 r3 t0 t1 t2 t3).d) with h1 | h1
  · rw [rounds_succ]
    go_wp2_with (first | (go_at_call 33; refine (sRectIntersect _ _ _ _ _ _ _ _ _).mono ?_; rintro e w1 ⟨rfl, hn⟩; (first | with_reducible replace hB := (hB).keep hn | with_reducible replace hB := (hB.alloc).keep hn | with_reducible replace hB := (hB.alloc.alloc).keep hn | with_reducible replace hB := (hB.alloc.alloc.alloc).keep hn | with_reducible replace hB := (hB.alloc.alloc.alloc.alloc).keep hn | with_reducible replace hB := (hB.alloc.alloc.alloc.alloc.alloc).keep hn | with_reducible replace hB := (hB.alloc.alloc.alloc.alloc.alloc.alloc).keep hn | with_reducible replace hB := (((hB.set1 hb1 hb2).set1 hb1 hb2)).keep hn | with_reducible replace hB := (((((hB.set1 hb1 hb2).set1 hb1 hb2).set1 hb1 hb2).set1 hb1 hb2)).keep hn); clear hn; (try clear hR); have hR := hB.rules; simp only [Rules, World.size_alloc, Nat.add_one_le_iff, List.setIfInBounds_toArray, List.set_cons_zero, List.set_cons_succ] at hR) | (go_at_call 27; refine (sNone _ _ _ _ _).mono ?_; rintro e w1 ⟨rfl, hn⟩; (first | with_reducible replace hB := (hB).keep hn | with_reducible replace hB := (hB.alloc).keep hn | with_reducible replace hB := (hB.alloc.alloc).keep hn | with_reducible replace hB := (hB.alloc.alloc.alloc).keep hn | with_reducible replace hB := (hB.alloc.alloc.alloc.alloc).keep hn | with_reducible replace hB := (hB.alloc.alloc.alloc.alloc.alloc).keep hn | with_reducible replace hB := (hB.alloc.alloc.alloc.alloc.alloc.alloc).keep hn | with_reducible replace hB := (((hB.set1 hb1 hb2).set1 hb1 hb2)).keep hn | with_reducible replace hB := (((((hB.set1 hb1 hb2).set1 hb1 hb2).set1 hb1 hb2).set1 hb1 hb2)).keep hn); clear hn; (try clear hR); have hR := hB.rules; simp only [Rules, World.size_alloc, Nat.add_one_le_iff, List.setIfInBounds_toArray, List.set_cons_zero, List.set_cons_succ] at hR))
    all_goals
      refine bodyPost_ret (results_tmp rfl _ _ _) rfl ?_
      refine ⟨ret_true ?_, ?_⟩
      · rfl
      · repeat (first | exact ext_refl _ | exact hB.below | apply ext_alloc | apply ext_drew | (refine ext_set ?_ ?_; · first | (dsimp only; omega) | (simp; omega) | (simp; done)))
  obtain ⟨e1, e2, e3, e4⟩ := moved b_r0 b_r1 b_r2 b_r3 b_t0 b_t1 b_t2 b_t3 b_p0 b_p1 h1
  cases h2 : rinB r0 r1 r2 r3 t0 t1 t2 t3
  all_goals
    rw [h2] at e4
    rw [rounds_succ]
    go_wp2_with (first | (go_at_call 33; refine (sRectIntersect _ _ _ _ _ _ _ _ _).mono ?_; rintro e w1 ⟨rfl, hn⟩; (first | with_reducible replace hB := (hB).keep hn | with_reducible replace hB := (hB.alloc).keep hn | with_reducible replace hB := (hB.alloc.alloc).keep hn | with_reducible replace hB := (hB.alloc.alloc.alloc).keep hn | with_reducible replace hB := (hB.alloc.alloc.alloc.alloc).keep hn | with_reducible replace hB := (hB.alloc.alloc.alloc.alloc.alloc).keep hn | with_reducible replace hB := (hB.alloc.alloc.alloc.alloc.alloc.alloc).keep hn | with_reducible replace hB := (((hB.set1 hb1 hb2).set1 hb1 hb2)).keep hn | with_reducible replace hB := (((((hB.set1 hb1 hb2).set1 hb1 hb2).set1 hb1 hb2).set1 hb1 hb2)).keep hn); clear hn; (try clear hR); have hR := hB.rules; simp only [Rules, World.size_alloc, Nat.add_one_le_iff, List.setIfInBounds_toArray, List.set_cons_zero, List.set_cons_succ] at hR) | (go_at_call 27; refine (sNone _ _ _ _ _).mono ?_; rintro e w1 ⟨rfl, hn⟩; (first | with_reducible replace hB := (hB).keep hn | with_reducible replace hB := (hB.alloc).keep hn | with_reducible replace hB := (hB.alloc.alloc).keep hn | with_reducible replace hB := (hB.alloc.alloc.alloc).keep hn | with_reducible replace hB := (hB.alloc.alloc.alloc.alloc).keep hn | with_reducible replace hB := (hB.alloc.alloc.alloc.alloc.alloc).keep hn | with_reducible replace hB := (hB.alloc.alloc.alloc.alloc.alloc.alloc).keep hn | with_reducible replace hB := (((hB.set1 hb1 hb2).set1 hb1 hb2)).keep hn | with_reducible replace hB := (((((hB.set1 hb1 hb2).set1 hb1 hb2).set1 hb1 hb2).set1 hb1 hb2)).keep hn); clear hn; (try clear hR); have hR := hB.rules; simp only [Rules, World.size_alloc, Nat.add_one_le_iff, List.setIfInBounds_toArray, List.set_cons_zero, List.set_cons_succ] at hR) | (go_at_call 13; refine (iRectAdd _ _ _ _ _ _ _).mono ?_; rintro e w1 ⟨rfl, hn⟩; (first | with_reducible replace hB := (hB).keep hn | with_reducible replace hB := (hB.alloc).keep hn | with_reducible replace hB := (hB.alloc.alloc).keep hn | with_reducible replace hB := (hB.alloc.alloc.alloc).keep hn | with_reducible replace hB := (hB.alloc.alloc.alloc.alloc).keep hn | with_reducible replace hB := (hB.alloc.alloc.alloc.alloc.alloc).keep hn | with_reducible replace hB := (hB.alloc.alloc.alloc.alloc.alloc.alloc).keep hn | with_reducible replace hB := (((hB.set1 hb1 hb2).set1 hb1 hb2)).keep hn | with_reducible replace hB := (((((hB.set1 hb1 hb2).set1 hb1 hb2).set1 hb1 hb2).set1 hb1 hb2)).keep hn); clear hn; (try clear hR); have hR := hB.rules; simp only [Rules, World.size_alloc, Nat.add_one_le_iff, List.setIfInBounds_toArray, List.set_cons_zero, List.set_cons_succ] at hR))
    (first | with_reducible refine wp_region_known hB ?hm ?hB ?_ | with_reducible refine wp_region_known hB.alloc ?hm ?hB ?_ | with_reducible refine wp_region_known hB.alloc.alloc ?hm ?hB ?_ | with_reducible refine wp_region_known hB.alloc.alloc.alloc ?hm ?hB ?_ | with_reducible refine wp_region_known hB.alloc.alloc.alloc.alloc ?hm ?hB ?_ | with_reducible refine wp_region_known hB.alloc.alloc.alloc.alloc.alloc ?hm ?hB ?_ | with_reducible refine wp_region_known hB.alloc.alloc.alloc.alloc.alloc.alloc ?hm ?hB ?_); (case hm => kernel_rfl); (case hB => kernel_rfl); (try clear hR); intro hov; simp only [Rules, World.size_alloc, Nat.add_one_le_iff, List.setIfInBounds_toArray, List.set_cons_zero, List.set_cons_succ] at hov; (repeat (go_big_quiet_step (first | (go_at_call 31; exact Calls.over _ (iRectIntersect _ _ _ _ _ _ _ _ _)) | (go_at_call 29; exact Calls.over _ (iRectUnion _ _ _ _ _ _ _ _ _)) | (go_at_call 13; exact Calls.over _ (iRectAdd _ _ _ _ _ _ _))))); refine wpQuiet_nil ?_; intro wx hB; clear hov; have hR := hB.rules; simp only [Rules, World.size_alloc, Nat.add_one_le_iff, List.setIfInBounds_toArray, List.set_cons_zero, List.set_cons_succ] at hR
    go_wp2
    (first | with_reducible refine wp_region_known hB ?hm ?hB ?_ | with_reducible refine wp_region_known hB.alloc ?hm ?hB ?_ | with_reducible refine wp_region_known hB.alloc.alloc ?hm ?hB ?_ | with_reducible refine wp_region_known hB.alloc.alloc.alloc ?hm ?hB ?_ | with_reducible refine wp_region_known hB.alloc.alloc.alloc.alloc ?hm ?hB ?_ | with_reducible refine wp_region_known hB.alloc.alloc.alloc.alloc.alloc ?hm ?hB ?_ | with_reducible refine wp_region_known hB.alloc.alloc.alloc.alloc.alloc.alloc ?hm ?hB ?_); (case hm => kernel_rfl); (case hB => kernel_rfl); (try clear hR); intro hov; simp only [Rules, World.size_alloc, Nat.add_one_le_iff, List.setIfInBounds_toArray, List.set_cons_zero, List.set_cons_succ] at hov; (repeat (go_big_quiet_step (first | (go_at_call 25; exact Calls.overB (by assumption) (iRectOverlaps _ _ _ _ _ _ _ _ _)) | (go_at_call 25; exact Calls.over _ (iRectOverlaps _ _ _ _ _ _ _ _ _)) | (go_at_call 24; exact Calls.overB (by assumption) (iRectIn _ _ _ _ _ _ _ _ _)) | (go_at_call 24; exact Calls.over _ (iRectIn _ _ _ _ _ _ _ _ _))))); refine wpQuiet_nil ?_; intro wx hB; clear hov; have hR := hB.rules; simp only [Rules, World.size_alloc, Nat.add_one_le_iff, List.setIfInBounds_toArray, List.set_cons_zero, List.set_cons_succ] at hR
    go_wp2
    all_goals
      refine bodyPost_ret (results_tmp rfl _ _ _) rfl ?_
      refine ⟨ret_true ?_, ?_⟩
      · first | rfl | (simp [*]; done)
      · repeat (first | exact ext_refl _ | exact hB.below | apply ext_alloc | apply ext_drew | (refine ext_set ?_ ?_; · first | (dsimp only; omega) | (simp; omega) | (simp; done)))

theorem lifted (os : Os) (started : os.Started) (H : Type) (enc : TypeId × Value → H) :
    ReturnsInHanded {} Try.checked os 11 .any (Rows.fnIntersectMovedSpec.pre6 enc Try.prog Try.f11 Rows.fnIntersectMovedRow.domain false) (Rows.fnIntersectMovedSpec.post enc Try.prog Try.f11 false true false false) := by
  refine returnsInHanded_of_change (C := Try.checked) own started (by kernel_rfl) Try.func11
    (ChangeSpec.witness6 (enc := enc) (C := Try.checked) false ⟨#[], #[.agg #[.int .i64 0, .int .i64 0, .int .i64 0, .int .i64 0], .agg #[.int .i64 0, .int .i64 0, .int .i64 0, .int .i64 0], .agg #[.int .i64 0, .int .i64 0]], []⟩ 8 (by kernel_rfl) (by kernel_rfl) (by kernel_rfl) (by kernel_rfl)) ?_
  intro W base args ds gs before hval0 hW hcnd _
  have hval : ∀ (j : Nat) t v, Try.f11.params[j]? = some t → args[j]? = some v → Value.okWide Try.prog W .any base t v := hval0
  have hW' := hW
  obtain ⟨p, q, hA0, hV, rfl, hfz, hnd⟩ := hW
  have hA : DataW.TrodAll enc Try.prog W 0 (fun _ => true) true Try.f11.params.toList args.toList ds p := hA0
  rw [Try.params11] at hA hval
  obtain ⟨v0, vs0, d0, ds0, p0, q0, hargs, rfl, rfl, h0, r0⟩ := trodAll_cons hA
  obtain ⟨v1, vs1, d1, ds1, p1, q1, rfl, rfl, rfl, h1, r1⟩ := trodAll_cons r0
  obtain ⟨v2, vs2, d2, ds2, p2, q2, rfl, rfl, rfl, h2, r2⟩ := trodAll_cons r1
  obtain ⟨rfl, rfl, rfl⟩ := trodAll_nil r2
  obtain rfl : args = #[v0, v1, v2] := by cases args; simp_all
  obtain ⟨rfl, rfl⟩ := trodVars_none hV
  obtain ⟨xr0, xr1, xr2, xr3, rfl, rfl, rfl, wxr0, wxr1, wxr2, wxr3⟩ := open_arr4 Try.underlying22 Try.underlying2 (by kernel_rfl) (by kernel_rfl) (hval 0 22 v0 rfl rfl) h0
  obtain ⟨xt0, xt1, xt2, xt3, rfl, rfl, rfl, wxt0, wxt1, wxt2, wxt3⟩ := open_arr4 Try.underlying22 Try.underlying2 (by kernel_rfl) (by kernel_rfl) (hval 1 22 v1 rfl rfl) h1
  obtain ⟨xp0, xp1, rfl, rfl, rfl, wxp0, wxp1⟩ := open_arr2 Try.underlying23 Try.underlying2 (by kernel_rfl) (by kernel_rfl) (hval 2 23 v2 rfl rfl) h2
  clear hA0 hval0
  refine (walk xr0 xr1 xr2 xr3 xt0 xt1 xt2 xt3 xp0 xp1 (bounds_i64 wxr0) (bounds_i64 wxr1) (bounds_i64 wxr2) (bounds_i64 wxr3) (bounds_i64 wxt0) (bounds_i64 wxt1) (bounds_i64 wxt2) (bounds_i64 wxt3) (bounds_i64 wxp0) (bounds_i64 wxp1) W).mono fun e W' ⟨he, bel⟩ => ?_
  subst he
  exact ⟨_, rfl, _, _, _, [], _, [], hW', trodAll_mk1 (shut_bool Try.underlying4 _), (trodAll_cons_mk (shut_arr4 Try.underlying22 Try.underlying2 (by kernel_rfl) (by kernel_rfl) wxr0 wxr1 wxr2 wxr3) (trodAll_cons_mk (shut_arr4 Try.underlying22 Try.underlying2 (by kernel_rfl) (by kernel_rfl) wxt0 wxt1 wxt2 wxt3) (trodAll_cons_mk (shut_arr2 Try.underlying23 Try.underlying2 (by kernel_rfl) (by kernel_rfl) wxp0 wxp1) trodAll_mk0))), rfl, bel.frame _, fun h => by cases h⟩

/-- THE STATEMENT. -/
theorem proved : Rows.FnIntersectMovedSaid :=
  OpenClaim.holds_of_wide 11 Try.f11 rfl rfl rfl rfl rfl rfl rfl ⟨rfl, rfl, rfl, rfl, rfl⟩ rfl rfl rfl rfl rfl (by kernel_rfl) Try.func11 (by kernel_rfl)
    (of_decide_eq_true (by kernel_rfl)) (by unfold Func.isWrapper; first | (rw [if_pos (by decide +kernel)]; kernel_rfl) | (rw [if_neg (by decide +kernel)]; exact ⟨rfl, rfl⟩))
    (fun os started H enc _ => lifted os started H enc)
#print axioms proved
end Go.Proofs.Ytakfghkbdijbiaa.fnIntersectMoved
