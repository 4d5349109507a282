/-
  Proved: the statement Rows.FnWellFormedSaid: Methods return well-formed rectangles for well-formed ones (no number is greater than 1000000000000 in size).
  Conditions: none: for every input.
-/
import Derived.Test.YtakfghkbdijbiaaSpec
import Derived.Test.YtakfghkbdijbiaaSmall
import Derived.Test.YtakfghkbdijbiaaRow
namespace Go.Proofs.Ytakfghkbdijbiaa.fnWellFormed
open Go.ChangeShapes Go.WideShapes Go.ChangeAt Go.RowKit
set_option linter.unusedSimpArgs false
set_option linter.unusedVariables false
set_option maxHeartbeats 2000000
set_option maxRecDepth 100000

/-- A call that answers a Bool, of which it is known what it is. -/
theorem Calls.overB {P : Program} {f : FuncId} {args : Array Value} {w : World} {x b : Bool} {y : Over w} (hx : x = b) (h : Calls P f args y.wd (Gives (.bool x) y.wd)) :
    Calls P f args y.wd fun e w'' => e = .returned (.bool b) ∧ ∃ z : Over w, w'' = z.wd := by subst hx; exact Calls.over _ h

theorem sums {x p : Int} (bx : In12 x) (bp : In12 p) : wrap64 (x + p) = x + p ∧ wrap64 (x - p) = x - p := by unfold In12 at *; exact ⟨wrap_in (by omega) (by omega), wrap_in (by omega) (by omega)⟩
theorem back {x p : Int} (ox : Ok x) : wrap64 (wrap64 (x + p) - p) = x := by unfold Ok at ox; unfold wrap64; omega
theorem wfA {a c p : Int} (ba : In12 a) (bc : In12 c) (bp : In12 p) (h : a ≤ c) : wrap64 (a + p) ≤ wrap64 (c + p) ∧ wrap64 (a - p) ≤ wrap64 (c - p) := by
  rw [(sums ba bp).1, (sums ba bp).2, (sums bc bp).1, (sums bc bp).2]; omega
theorem wfN {a c n : Int} (ba : In12 a) (bc : In12 c) (bn : In12 n) : insLo a c n ≤ insHi a c n ∨ c < a := by
  by_cases h : c - a < 2 * n
  · exact .inl (Int.le_of_eq (ins_mid ba.lim bc.lim bn.lim h))
  · by_cases h2 : c < a
    · exact .inr h2
    · obtain ⟨e1, e2⟩ := ins_in ba.lim bc.lim bn.lim (Int.not_lt.1 h)
      rw [e1, e2]
      exact .inl (by omega)
theorem wfI (r0 r1 r2 r3 t0 t1 t2 t3 : Int) : wfB (isect r0 r1 r2 r3 t0 t1 t2 t3).a (isect r0 r1 r2 r3 t0 t1 t2 t3).b (isect r0 r1 r2 r3 t0 t1 t2 t3).c (isect r0 r1 r2 r3 t0 t1 t2 t3).d = true := by
  rcases isect_cases r0 r1 r2 r3 t0 t1 t2 t3 with ⟨h1, e1⟩ | ⟨h1, e1⟩
  · rw [e1]; rfl
  · rw [e1, wfB_iff]; dsimp only; omega
theorem wfU {r0 r1 r2 r3 t0 t1 t2 t3 : Int} (h1 : r0 ≤ r2) (h2 : r1 ≤ r3) (h3 : t0 ≤ t2) (h4 : t1 ≤ t3) : wfB (union r0 r1 r2 r3 t0 t1 t2 t3).a (union r0 r1 r2 r3 t0 t1 t2 t3).b (union r0 r1 r2 r3 t0 t1 t2 t3).c (union r0 r1 r2 r3 t0 t1 t2 t3).d = true := by
  rcases union_cases r0 r1 r2 r3 t0 t1 t2 t3 with ⟨h1, e1⟩ | ⟨h1, h2, e1⟩ | ⟨h1, h2, e1⟩ <;> rw [e1, wfB_iff] <;> dsimp only <;> omega
theorem can {a b c d : Int} (h : wfB a b c d = true) : eq4 (canon a b c d).a (canon a b c d).b (canon a b c d).c (canon a b c d).d a b c d = true := by
  rw [wfB_iff] at h
  rw [eq4_iff]
  unfold canon
  dsimp only
  omega

theorem walk (r0 r1 r2 r3 : Int) (t0 t1 t2 t3 : Int) (p0 p1 : Int) (n : Int) (or0 : Ok r0) (or1 : Ok r1) (or2 : Ok r2) (or3 : Ok r3) (ot0 : Ok t0) (ot1 : Ok t1) (ot2 : Ok t2) (ot3 : Ok t3) (op0 : Ok p0) (op1 : Ok p1) (on : Ok n) (w : World) :
    Calls Try.prog 12 #[.agg #[.int .i64 r0, .int .i64 r1, .int .i64 r2, .int .i64 r3], .agg #[.int .i64 t0, .int .i64 t1, .int .i64 t2, .int .i64 t3], .agg #[.int .i64 p0, .int .i64 p1], .int .i64 n] w (Gives (.bool true) w) := by
  have heq := eql_a4
  have hB := Known.start w
  go_enter Try.func12, Try.ntmps12
  go_wp2
  refine wp_loop_rounds 12 ?_
  rw [rounds_succ]
  go_wp2
  any_goals
    refine bodyPost_ret (results_tmp rfl _ _ _) rfl ?_
    refine ⟨ret_true ?_, ?_⟩
    · rfl
    · repeat (first | exact ext_refl _ | exact hB.below | apply ext_alloc | apply ext_drew | (refine ext_set ?_ ?_; · first | (dsimp only; omega) | (simp; omega) | (simp; done)))
  rename_i hx hy
  have b_r0 : In12 r0 := ⟨hy.2, hy.1⟩
  clear hx hy
  rw [rounds_succ]
  go_wp2
  any_goals
    refine bodyPost_ret (results_tmp rfl _ _ _) rfl ?_
    refine ⟨ret_true ?_, ?_⟩
    · rfl
    · repeat (first | exact ext_refl _ | exact hB.below | apply ext_alloc | apply ext_drew | (refine ext_set ?_ ?_; · first | (dsimp only; omega) | (simp; omega) | (simp; done)))
  rename_i hx hy
  have b_r1 : In12 r1 := ⟨hy.2, hy.1⟩
  clear hx hy
  rw [rounds_succ]
  go_wp2
  any_goals
    refine bodyPost_ret (results_tmp rfl _ _ _) rfl ?_
    refine ⟨ret_true ?_, ?_⟩
    · rfl
    · repeat (first | exact ext_refl _ | exact hB.below | apply ext_alloc | apply ext_drew | (refine ext_set ?_ ?_; · first | (dsimp only; omega) | (simp; omega) | (simp; done)))
  rename_i hx hy
  have b_r2 : In12 r2 := ⟨hy.2, hy.1⟩
  clear hx hy
  rw [rounds_succ]
  go_wp2
  any_goals
    refine bodyPost_ret (results_tmp rfl _ _ _) rfl ?_
    refine ⟨ret_true ?_, ?_⟩
    · rfl
    · repeat (first | exact ext_refl _ | exact hB.below | apply ext_alloc | apply ext_drew | (refine ext_set ?_ ?_; · first | (dsimp only; omega) | (simp; omega) | (simp; done)))
  rename_i hx hy
  have b_r3 : In12 r3 := ⟨hy.2, hy.1⟩
  clear hx hy
  rw [rounds_succ]
  go_wp2
  any_goals
    refine bodyPost_ret (results_tmp rfl _ _ _) rfl ?_
    refine ⟨ret_true ?_, ?_⟩
    · rfl
    · repeat (first | exact ext_refl _ | exact hB.below | apply ext_alloc | apply ext_drew | (refine ext_set ?_ ?_; · first | (dsimp only; omega) | (simp; omega) | (simp; done)))
  rename_i hx hy
  have b_t0 : In12 t0 := ⟨hy.2, hy.1⟩
  clear hx hy
  rw [rounds_succ]
  go_wp2
  any_goals
    refine bodyPost_ret (results_tmp rfl _ _ _) rfl ?_
    refine ⟨ret_true ?_, ?_⟩
    · rfl
    · repeat (first | exact ext_refl _ | exact hB.below | apply ext_alloc | apply ext_drew | (refine ext_set ?_ ?_; · first | (dsimp only; omega) | (simp; omega) | (simp; done)))
  rename_i hx hy
  have b_t1 : In12 t1 := ⟨hy.2, hy.1⟩
  clear hx hy
  rw [rounds_succ]
  go_wp2
  any_goals
    refine bodyPost_ret (results_tmp rfl _ _ _) rfl ?_
    refine ⟨ret_true ?_, ?_⟩
    · rfl
    · repeat (first | exact ext_refl _ | exact hB.below | apply ext_alloc | apply ext_drew | (refine ext_set ?_ ?_; · first | (dsimp only; omega) | (simp; omega) | (simp; done)))
  rename_i hx hy
  have b_t2 : In12 t2 := ⟨hy.2, hy.1⟩
  clear hx hy
  rw [rounds_succ]
  go_wp2
  any_goals
    refine bodyPost_ret (results_tmp rfl _ _ _) rfl ?_
    refine ⟨ret_true ?_, ?_⟩
    · rfl
    · repeat (first | exact ext_refl _ | exact hB.below | apply ext_alloc | apply ext_drew | (refine ext_set ?_ ?_; · first | (dsimp only; omega) | (simp; omega) | (simp; done)))
  rename_i hx hy
  have b_t3 : In12 t3 := ⟨hy.2, hy.1⟩
  clear hx hy
  rw [rounds_succ]
  go_wp2
  any_goals
    refine bodyPost_ret (results_tmp rfl _ _ _) rfl ?_
    refine ⟨ret_true ?_, ?_⟩
    · rfl
    · repeat (first | exact ext_refl _ | exact hB.below | apply ext_alloc | apply ext_drew | (refine ext_set ?_ ?_; · first | (dsimp only; omega) | (simp; omega) | (simp; done)))
  rename_i hx hy
  have b_p0 : In12 p0 := ⟨hy.2, hy.1⟩
  clear hx hy
  rw [rounds_succ]
  go_wp2
  any_goals
    refine bodyPost_ret (results_tmp rfl _ _ _) rfl ?_
    refine ⟨ret_true ?_, ?_⟩
    · rfl
    · repeat (first | exact ext_refl _ | exact hB.below | apply ext_alloc | apply ext_drew | (refine ext_set ?_ ?_; · first | (dsimp only; omega) | (simp; omega) | (simp; done)))
  rename_i hx hy
  have b_p1 : In12 p1 := ⟨hy.2, hy.1⟩
  clear hx hy
  rw [rounds_succ]
  go_wp2
  any_goals
    refine bodyPost_ret (results_tmp rfl _ _ _) rfl ?_
    refine ⟨ret_true ?_, ?_⟩
    · rfl
    · repeat (first | exact ext_refl _ | exact hB.below | apply ext_alloc | apply ext_drew | (refine ext_set ?_ ?_; · first | (dsimp only; omega) | (simp; omega) | (simp; done)))
  rename_i hx hy
  have b_n : In12 n := ⟨hy.2, hy.1⟩
  clear hx hy
  cases h1 : wfB r0 r1 r2 r3
  · rw [rounds_succ]
    go_wp2_with (first | (go_at_call 34; refine (sWellFormed _ _ _ _ _).mono ?_; rintro e w1 ⟨rfl, hn⟩; (first | with_reducible replace hB := (hB).keep hn | with_reducible replace hB := (hB.alloc).keep hn | with_reducible replace hB := (hB.alloc.alloc).keep hn | with_reducible replace hB := (hB.alloc.alloc.alloc).keep hn | with_reducible replace hB := (hB.alloc.alloc.alloc.alloc).keep hn | with_reducible replace hB := (hB.alloc.alloc.alloc.alloc.alloc).keep hn | with_reducible replace hB := (hB.alloc.alloc.alloc.alloc.alloc.alloc).keep hn | with_reducible replace hB := (((hB.set1 hb1 hb2).set1 hb1 hb2)).keep hn | with_reducible replace hB := (((((hB.set1 hb1 hb2).set1 hb1 hb2).set1 hb1 hb2).set1 hb1 hb2)).keep hn); clear hn; (try clear hR); have hR := hB.rules; simp only [Rules, World.size_alloc, Nat.add_one_le_iff, List.setIfInBounds_toArray, List.set_cons_zero, List.set_cons_succ] at hR))
    all_goals
      refine bodyPost_ret (results_tmp rfl _ _ _) rfl ?_
      refine ⟨ret_true ?_, ?_⟩
      · rfl
      · repeat (first | exact ext_refl _ | exact hB.below | apply ext_alloc | apply ext_drew | (refine ext_set ?_ ?_; · first | (dsimp only; omega) | (simp; omega) | (simp; done)))
  cases h2 : wfB t0 t1 t2 t3
  · rw [rounds_succ]
    go_wp2_with (first | (go_at_call 34; refine (sWellFormed _ _ _ _ _).mono ?_; rintro e w1 ⟨rfl, hn⟩; (first | with_reducible replace hB := (hB).keep hn | with_reducible replace hB := (hB.alloc).keep hn | with_reducible replace hB := (hB.alloc.alloc).keep hn | with_reducible replace hB := (hB.alloc.alloc.alloc).keep hn | with_reducible replace hB := (hB.alloc.alloc.alloc.alloc).keep hn | with_reducible replace hB := (hB.alloc.alloc.alloc.alloc.alloc).keep hn | with_reducible replace hB := (hB.alloc.alloc.alloc.alloc.alloc.alloc).keep hn | with_reducible replace hB := (((hB.set1 hb1 hb2).set1 hb1 hb2)).keep hn | with_reducible replace hB := (((((hB.set1 hb1 hb2).set1 hb1 hb2).set1 hb1 hb2).set1 hb1 hb2)).keep hn); clear hn; (try clear hR); have hR := hB.rules; simp only [Rules, World.size_alloc, Nat.add_one_le_iff, List.setIfInBounds_toArray, List.set_cons_zero, List.set_cons_succ] at hR))
    all_goals
      refine bodyPost_ret (results_tmp rfl _ _ _) rfl ?_
      refine ⟨ret_true ?_, ?_⟩
      · rfl
      · repeat (first | exact ext_refl _ | exact hB.below | apply ext_alloc | apply ext_drew | (refine ext_set ?_ ?_; · first | (dsimp only; omega) | (simp; omega) | (simp; done)))
  obtain ⟨k1, k2⟩ := wfB_iff.1 h1
  obtain ⟨k3, k4⟩ := wfB_iff.1 h2
  have w1 : wfB (wrap64 (r0 + p0)) (wrap64 (r1 + p1)) (wrap64 (r2 + p0)) (wrap64 (r3 + p1)) = true := wfB_iff.2 ⟨(wfA b_r0 b_r2 b_p0 k1).1, (wfA b_r1 b_r3 b_p1 k2).1⟩
  have w2 : wfB (wrap64 (r0 - p0)) (wrap64 (r1 - p1)) (wrap64 (r2 - p0)) (wrap64 (r3 - p1)) = true := wfB_iff.2 ⟨(wfA b_r0 b_r2 b_p0 k1).2, (wfA b_r1 b_r3 b_p1 k2).2⟩
  have w3 : wfB (insLo r0 r2 n) (insLo r1 r3 n) (insHi r0 r2 n) (insHi r1 r3 n) = true := wfB_iff.2 ⟨(wfN b_r0 b_r2 b_n).resolve_right (by omega), (wfN b_r1 b_r3 b_n).resolve_right (by omega)⟩
  have w4 := wfI r0 r1 r2 r3 t0 t1 t2 t3
  have w5 := wfU k1 k2 k3 k4
  have c1 := can w1
  have c3 := can w3
  have c5 := can w5
  have e1 : eq4 (wrap64 (wrap64 (r0 + p0) - p0)) (wrap64 (wrap64 (r1 + p1) - p1)) (wrap64 (wrap64 (r2 + p0) - p0)) (wrap64 (wrap64 (r3 + p1) - p1)) r0 r1 r2 r3 = true := eq4_iff.2 ⟨back or0, back or1, back or2, back or3⟩
  clear k1 k2 k3 k4
  rw [rounds_succ]
  go_wp2_with (first | (go_at_call 34; refine (sWellFormed _ _ _ _ _).mono ?_; rintro e w1 ⟨rfl, hn⟩; (first | with_reducible replace hB := (hB).keep hn | with_reducible replace hB := (hB.alloc).keep hn | with_reducible replace hB := (hB.alloc.alloc).keep hn | with_reducible replace hB := (hB.alloc.alloc.alloc).keep hn | with_reducible replace hB := (hB.alloc.alloc.alloc.alloc).keep hn | with_reducible replace hB := (hB.alloc.alloc.alloc.alloc.alloc).keep hn | with_reducible replace hB := (hB.alloc.alloc.alloc.alloc.alloc.alloc).keep hn | with_reducible replace hB := (((hB.set1 hb1 hb2).set1 hb1 hb2)).keep hn | with_reducible replace hB := (((((hB.set1 hb1 hb2).set1 hb1 hb2).set1 hb1 hb2).set1 hb1 hb2)).keep hn); clear hn; (try clear hR); have hR := hB.rules; simp only [Rules, World.size_alloc, Nat.add_one_le_iff, List.setIfInBounds_toArray, List.set_cons_zero, List.set_cons_succ] at hR) | (go_at_call 13; refine (iRectAdd _ _ _ _ _ _ _).mono ?_; rintro e w1 ⟨rfl, hn⟩; (first | with_reducible replace hB := (hB).keep hn | with_reducible replace hB := (hB.alloc).keep hn | with_reducible replace hB := (hB.alloc.alloc).keep hn | with_reducible replace hB := (hB.alloc.alloc.alloc).keep hn | with_reducible replace hB := (hB.alloc.alloc.alloc.alloc).keep hn | with_reducible replace hB := (hB.alloc.alloc.alloc.alloc.alloc).keep hn | with_reducible replace hB := (hB.alloc.alloc.alloc.alloc.alloc.alloc).keep hn | with_reducible replace hB := (((hB.set1 hb1 hb2).set1 hb1 hb2)).keep hn | with_reducible replace hB := (((((hB.set1 hb1 hb2).set1 hb1 hb2).set1 hb1 hb2).set1 hb1 hb2)).keep hn); clear hn; (try clear hR); have hR := hB.rules; simp only [Rules, World.size_alloc, Nat.add_one_le_iff, List.setIfInBounds_toArray, List.set_cons_zero, List.set_cons_succ] at hR) | (go_at_call 14; refine (iRectSub _ _ _ _ _ _ _).mono ?_; rintro e w1 ⟨rfl, hn⟩; (first | with_reducible replace hB := (hB).keep hn | with_reducible replace hB := (hB.alloc).keep hn | with_reducible replace hB := (hB.alloc.alloc).keep hn | with_reducible replace hB := (hB.alloc.alloc.alloc).keep hn | with_reducible replace hB := (hB.alloc.alloc.alloc.alloc).keep hn | with_reducible replace hB := (hB.alloc.alloc.alloc.alloc.alloc).keep hn | with_reducible replace hB := (hB.alloc.alloc.alloc.alloc.alloc.alloc).keep hn | with_reducible replace hB := (((hB.set1 hb1 hb2).set1 hb1 hb2)).keep hn | with_reducible replace hB := (((((hB.set1 hb1 hb2).set1 hb1 hb2).set1 hb1 hb2).set1 hb1 hb2)).keep hn); clear hn; (try clear hR); have hR := hB.rules; simp only [Rules, World.size_alloc, Nat.add_one_le_iff, List.setIfInBounds_toArray, List.set_cons_zero, List.set_cons_succ] at hR) | (go_at_call 35; refine (iRectInset _ _ _ _ _ _).mono ?_; rintro e w1 ⟨rfl, hn⟩; (first | with_reducible replace hB := (hB).keep hn | with_reducible replace hB := (hB.alloc).keep hn | with_reducible replace hB := (hB.alloc.alloc).keep hn | with_reducible replace hB := (hB.alloc.alloc.alloc).keep hn | with_reducible replace hB := (hB.alloc.alloc.alloc.alloc).keep hn | with_reducible replace hB := (hB.alloc.alloc.alloc.alloc.alloc).keep hn | with_reducible replace hB := (hB.alloc.alloc.alloc.alloc.alloc.alloc).keep hn | with_reducible replace hB := (((hB.set1 hb1 hb2).set1 hb1 hb2)).keep hn | with_reducible replace hB := (((((hB.set1 hb1 hb2).set1 hb1 hb2).set1 hb1 hb2).set1 hb1 hb2)).keep hn); clear hn; (try clear hR); have hR := hB.rules; simp only [Rules, World.size_alloc, Nat.add_one_le_iff, List.setIfInBounds_toArray, List.set_cons_zero, List.set_cons_succ] at hR) | (go_at_call 31; refine (iRectIntersect _ _ _ _ _ _ _ _ _).mono ?_; rintro e w1 ⟨rfl, hn⟩; (first | with_reducible replace hB := (hB).keep hn | with_reducible replace hB := (hB.alloc).keep hn | with_reducible replace hB := (hB.alloc.alloc).keep hn | with_reducible replace hB := (hB.alloc.alloc.alloc).keep hn | with_reducible replace hB := (hB.alloc.alloc.alloc.alloc).keep hn | with_reducible replace hB := (hB.alloc.alloc.alloc.alloc.alloc).keep hn | with_reducible replace hB := (hB.alloc.alloc.alloc.alloc.alloc.alloc).keep hn | with_reducible replace hB := (((hB.set1 hb1 hb2).set1 hb1 hb2)).keep hn | with_reducible replace hB := (((((hB.set1 hb1 hb2).set1 hb1 hb2).set1 hb1 hb2).set1 hb1 hb2)).keep hn); clear hn; (try clear hR); have hR := hB.rules; simp only [Rules, World.size_alloc, Nat.add_one_le_iff, List.setIfInBounds_toArray, List.set_cons_zero, List.set_cons_succ] at hR) | (go_at_call 29; refine (iRectUnion _ _ _ _ _ _ _ _ _).mono ?_; rintro e w1 ⟨rfl, hn⟩; (first | with_reducible replace hB := (hB).keep hn | with_reducible replace hB := (hB.alloc).keep hn | with_reducible replace hB := (hB.alloc.alloc).keep hn | with_reducible replace hB := (hB.alloc.alloc.alloc).keep hn | with_reducible replace hB := (hB.alloc.alloc.alloc.alloc).keep hn | with_reducible replace hB := (hB.alloc.alloc.alloc.alloc.alloc).keep hn | with_reducible replace hB := (hB.alloc.alloc.alloc.alloc.alloc.alloc).keep hn | with_reducible replace hB := (((hB.set1 hb1 hb2).set1 hb1 hb2)).keep hn | with_reducible replace hB := (((((hB.set1 hb1 hb2).set1 hb1 hb2).set1 hb1 hb2).set1 hb1 hb2)).keep hn); clear hn; (try clear hR); have hR := hB.rules; simp only [Rules, World.size_alloc, Nat.add_one_le_iff, List.setIfInBounds_toArray, List.set_cons_zero, List.set_cons_succ] at hR))
  (first | with_reducible refine wp_region_known hB ?hm ?hB ?_ | with_reducible refine wp_region_known hB.alloc ?hm ?hB ?_ | with_reducible refine wp_region_known hB.alloc.alloc ?hm ?hB ?_ | with_reducible refine wp_region_known hB.alloc.alloc.alloc ?hm ?hB ?_ | with_reducible refine wp_region_known hB.alloc.alloc.alloc.alloc ?hm ?hB ?_ | with_reducible refine wp_region_known hB.alloc.alloc.alloc.alloc.alloc ?hm ?hB ?_ | with_reducible refine wp_region_known hB.alloc.alloc.alloc.alloc.alloc.alloc ?hm ?hB ?_); (case hm => kernel_rfl); (case hB => kernel_rfl); (try clear hR); intro hov; simp only [Rules, World.size_alloc, Nat.add_one_le_iff, List.setIfInBounds_toArray, List.set_cons_zero, List.set_cons_succ] at hov; (repeat (go_big_quiet_step (first | (go_at_call 36; exact Calls.over _ (iRectCanon _ _ _ _ _)) | (go_at_call 14; exact Calls.over _ (iRectSub _ _ _ _ _ _ _))))); refine wpQuiet_nil ?_; intro wx hB; clear hov; have hR := hB.rules; simp only [Rules, World.size_alloc, Nat.add_one_le_iff, List.setIfInBounds_toArray, List.set_cons_zero, List.set_cons_succ] at hR
  go_wp2
  all_goals
    refine bodyPost_ret (results_tmp rfl _ _ _) rfl ?_
    refine ⟨ret_true ?_, ?_⟩
    · first | rfl | exact e1
    · repeat (first | exact ext_refl _ | exact hB.below | apply ext_alloc | apply ext_drew | (refine ext_set ?_ ?_; · first | (dsimp only; omega) | (simp; omega) | (simp; done)))

theorem lifted (os : Os) (started : os.Started) (H : Type) (enc : TypeId × Value → H) :
    ReturnsInHanded {} Try.checked os 12 .any (Rows.fnWellFormedSpec.pre6 enc Try.prog Try.f12 Rows.fnWellFormedRow.domain false) (Rows.fnWellFormedSpec.post enc Try.prog Try.f12 false true false false) := by
  refine returnsInHanded_of_change (C := Try.checked) own started (by kernel_rfl) Try.func12
    (ChangeSpec.witness6 (enc := enc) (C := Try.checked) false ⟨#[], #[.agg #[.int .i64 0, .int .i64 0, .int .i64 0, .int .i64 0], .agg #[.int .i64 0, .int .i64 0, .int .i64 0, .int .i64 0], .agg #[.int .i64 0, .int .i64 0], .int .i64 0], []⟩ 8 (by kernel_rfl) (by kernel_rfl) (by kernel_rfl) (by kernel_rfl)) ?_
  intro W base args ds gs before hval0 hW hcnd _
  have hval : ∀ (j : Nat) t v, Try.f12.params[j]? = some t → args[j]? = some v → Value.okWide Try.prog W .any base t v := hval0
  have hW' := hW
  obtain ⟨p, q, hA0, hV, rfl, hfz, hnd⟩ := hW
  have hA : DataW.TrodAll enc Try.prog W 0 (fun _ => true) true Try.f12.params.toList args.toList ds p := hA0
  rw [Try.params12] at hA hval
  obtain ⟨v0, vs0, d0, ds0, p0, q0, hargs, rfl, rfl, h0, r0⟩ := trodAll_cons hA
  obtain ⟨v1, vs1, d1, ds1, p1, q1, rfl, rfl, rfl, h1, r1⟩ := trodAll_cons r0
  obtain ⟨v2, vs2, d2, ds2, p2, q2, rfl, rfl, rfl, h2, r2⟩ := trodAll_cons r1
  obtain ⟨v3, vs3, d3, ds3, p3, q3, rfl, rfl, rfl, h3, r3⟩ := trodAll_cons r2
  obtain ⟨rfl, rfl, rfl⟩ := trodAll_nil r3
  obtain rfl : args = #[v0, v1, v2, v3] := by cases args; simp_all
  obtain ⟨rfl, rfl⟩ := trodVars_none hV
  obtain ⟨xr0, xr1, xr2, xr3, rfl, rfl, rfl, wxr0, wxr1, wxr2, wxr3⟩ := open_arr4 Try.underlying22 Try.underlying2 (by kernel_rfl) (by kernel_rfl) (hval 0 22 v0 rfl rfl) h0
  obtain ⟨xt0, xt1, xt2, xt3, rfl, rfl, rfl, wxt0, wxt1, wxt2, wxt3⟩ := open_arr4 Try.underlying22 Try.underlying2 (by kernel_rfl) (by kernel_rfl) (hval 1 22 v1 rfl rfl) h1
  obtain ⟨xp0, xp1, rfl, rfl, rfl, wxp0, wxp1⟩ := open_arr2 Try.underlying23 Try.underlying2 (by kernel_rfl) (by kernel_rfl) (hval 2 23 v2 rfl rfl) h2
  obtain ⟨xn, rfl, rfl, rfl, wxn⟩ := open_int Try.underlying2 (hval 3 2 v3 rfl rfl) h3
  clear hA0 hval0
  refine (walk xr0 xr1 xr2 xr3 xt0 xt1 xt2 xt3 xp0 xp1 xn (bounds_i64 wxr0) (bounds_i64 wxr1) (bounds_i64 wxr2) (bounds_i64 wxr3) (bounds_i64 wxt0) (bounds_i64 wxt1) (bounds_i64 wxt2) (bounds_i64 wxt3) (bounds_i64 wxp0) (bounds_i64 wxp1) (bounds_i64 wxn) W).mono fun e W' ⟨he, bel⟩ => ?_
  subst he
  exact ⟨_, rfl, _, _, _, [], _, [], hW', trodAll_mk1 (shut_bool Try.underlying4 _), (trodAll_cons_mk (shut_arr4 Try.underlying22 Try.underlying2 (by kernel_rfl) (by kernel_rfl) wxr0 wxr1 wxr2 wxr3) (trodAll_cons_mk (shut_arr4 Try.underlying22 Try.underlying2 (by kernel_rfl) (by kernel_rfl) wxt0 wxt1 wxt2 wxt3) (trodAll_cons_mk (shut_arr2 Try.underlying23 Try.underlying2 (by kernel_rfl) (by kernel_rfl) wxp0 wxp1) (trodAll_cons_mk (shut_int Try.underlying2 wxn) trodAll_mk0)))), rfl, bel.frame _, fun h => by cases h⟩

/-- THE STATEMENT. -/
theorem proved : Rows.FnWellFormedSaid :=
  OpenClaim.holds_of_wide 12 Try.f12 rfl rfl rfl rfl rfl rfl rfl ⟨rfl, rfl, rfl, rfl, rfl⟩ rfl rfl rfl rfl rfl (by kernel_rfl) Try.func12 (by kernel_rfl)
    (of_decide_eq_true (by kernel_rfl)) (by unfold Func.isWrapper; first | (rw [if_pos (by decide +kernel)]; kernel_rfl) | (rw [if_neg (by decide +kernel)]; exact ⟨rfl, rfl⟩))
    (fun os started H enc _ => lifted os started H enc)
#print axioms proved
end Go.Proofs.Ytakfghkbdijbiaa.fnWellFormed
