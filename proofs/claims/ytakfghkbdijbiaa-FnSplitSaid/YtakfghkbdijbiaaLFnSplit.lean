/-
  Proved: the statement Rows.FnSplitSaid: A rectangle that is cut in two, by a line between its points, has each point in just one of the parts; these do not overlap, and are together the rectangle.
  Conditions: none: for every input.
-/
import Derived.Test.YtakfghkbdijbiaaSpec
import Derived.Test.YtakfghkbdijbiaaSets
import Derived.Test.YtakfghkbdijbiaaRow
namespace Go.Proofs.Ytakfghkbdijbiaa.fnSplit
open Go.ChangeShapes Go.WideShapes Go.ChangeAt Go.RowKit
set_option linter.unusedSimpArgs false
set_option linter.unusedVariables false
set_option maxHeartbeats 2000000
set_option maxRecDepth 100000

/-- A call that answers a Bool, of which it is known what it is. -/
theorem Calls.overB {P : Program} {f : FuncId} {args : Array Value} {w : World} {x b : Bool} {y : Over w} (hx : x = b) (h : Calls P f args y.wd (Gives (.bool x) y.wd)) :
    Calls P f args y.wd fun e w'' => e = .returned (.bool b) ∧ ∃ z : Over w, w'' = z.wd := by subst hx; exact Calls.over _ h

/-- What is asked of the parts. -/
def Parts (x y r0 r1 r2 r3 e f g h i j k l : Int) : Prop :=
  inB x y r0 r1 r2 r3 = (inB x y e f g h || inB x y i j k l) ∧ (inB x y e f g h && inB x y i j k l) = false ∧ overB e f g h i j k l = false ∧
  eq4 (isect e f g h i j k l).a (isect e f g h i j k l).b (isect e f g h i j k l).c (isect e f g h i j k l).d 0 0 0 0 = true ∧
  eq4 (union e f g h i j k l).a (union e f g h i j k l).b (union e f g h i j k l).c (union e f g h i j k l).d r0 r1 r2 r3 = true ∧
  eq4 (union i j k l e f g h).a (union i j k l e f g h).b (union i j k l e f g h).c (union i j k l e f g h).d r0 r1 r2 r3 = true ∧
  rinB e f g h r0 r1 r2 r3 = true ∧ rinB i j k l r0 r1 r2 r3 = true ∧ rinB r0 r1 r2 r3 e f g h = false
theorem over {x y r0 r1 r2 r3 c : Int} (h : emptyB r0 r1 r2 r3 = false) (h1 : ¬ c ≤ r1) (h2 : ¬ r3 ≤ c) : Parts x y r0 r1 r2 r3 r0 r1 r2 c r0 c r2 r3 := by
  rw [emptyB_not] at h
  unfold Parts
  refine ⟨bool_eq ?_, ?_, ?_, ?_, ?_, ?_, ?_, ?_, ?_⟩
  · rw [Bool.or_eq_true, inB_iff, inB_iff, inB_iff]; omega
  · rw [← Bool.not_eq_true, Bool.and_eq_true, inB_iff, inB_iff]; omega
  · rw [← Bool.not_eq_true, overB_iff]; omega
  · rcases isect_cases r0 r1 r2 c r0 c r2 r3 with ⟨g1, g⟩ | ⟨g1, g⟩
    · rw [g]; rfl
    · omega
  · rcases union_cases r0 r1 r2 c r0 c r2 r3 with ⟨g1, g⟩ | ⟨g1, g2, g⟩ | ⟨g1, g2, g⟩ <;> rw [g, eq4_iff] <;> dsimp only <;> omega
  · rcases union_cases r0 c r2 r3 r0 r1 r2 c with ⟨g1, g⟩ | ⟨g1, g2, g⟩ | ⟨g1, g2, g⟩ <;> rw [g, eq4_iff] <;> dsimp only <;> omega
  · rw [rinB_iff]; omega
  · rw [rinB_iff]; omega
  · rw [← Bool.not_eq_true, rinB_iff]; omega
theorem beside {x y r0 r1 r2 r3 c : Int} (h : emptyB r0 r1 r2 r3 = false) (h1 : ¬ c ≤ r0) (h2 : ¬ r2 ≤ c) : Parts x y r0 r1 r2 r3 r0 r1 c r3 c r1 r2 r3 := by
  rw [emptyB_not] at h
  unfold Parts
  refine ⟨bool_eq ?_, ?_, ?_, ?_, ?_, ?_, ?_, ?_, ?_⟩
  · rw [Bool.or_eq_true, inB_iff, inB_iff, inB_iff]; omega
  · rw [← Bool.not_eq_true, Bool.and_eq_true, inB_iff, inB_iff]; omega
  · rw [← Bool.not_eq_true, overB_iff]; omega
  · rcases isect_cases r0 r1 c r3 c r1 r2 r3 with ⟨g1, g⟩ | ⟨g1, g⟩
    · rw [g]; rfl
    · omega
  · rcases union_cases r0 r1 c r3 c r1 r2 r3 with ⟨g1, g⟩ | ⟨g1, g2, g⟩ | ⟨g1, g2, g⟩ <;> rw [g, eq4_iff] <;> dsimp only <;> omega
  · rcases union_cases c r1 r2 r3 r0 r1 c r3 with ⟨g1, g⟩ | ⟨g1, g2, g⟩ | ⟨g1, g2, g⟩ <;> rw [g, eq4_iff] <;> dsimp only <;> omega
  · rw [rinB_iff]; omega
  · rw [rinB_iff]; omega
  · rw [← Bool.not_eq_true, rinB_iff]; omega

theorem walk (a0 a1 : Int) (r0 r1 r2 r3 : Int) (c : Int) (down : Bool) (oa0 : Ok a0) (oa1 : Ok a1) (or0 : Ok r0) (or1 : Ok r1) (or2 : Ok r2) (or3 : Ok r3) (oc : Ok c) (w : World) :
    Calls Try.prog 10 #[.agg #[.int .i64 a0, .int .i64 a1], .agg #[.int .i64 r0, .int .i64 r1, .int .i64 r2, .int .i64 r3], .int .i64 c, .bool down] w (Gives (.bool true) w) := by
  have heq := eql_a4
  cases down
  · skip
    by_cases h1 : c ≤ r0
    · skip
      have hB := Known.start w
      go_enter Try.func10, Try.ntmps10
      go_wp2_with (first | (go_at_call 27; refine (sNone _ _ _ _ _).mono ?_; rintro e w1 ⟨rfl, hn⟩; (first | with_reducible replace hB := (hB).keep hn | with_reducible replace hB := (hB.alloc).keep hn | with_reducible replace hB := (hB.alloc.alloc).keep hn | with_reducible replace hB := (hB.alloc.alloc.alloc).keep hn | with_reducible replace hB := (hB.alloc.alloc.alloc.alloc).keep hn | with_reducible replace hB := (hB.alloc.alloc.alloc.alloc.alloc).keep hn | with_reducible replace hB := (hB.alloc.alloc.alloc.alloc.alloc.alloc).keep hn | with_reducible replace hB := (((hB.set1 hb1 hb2).set1 hb1 hb2)).keep hn | with_reducible replace hB := (((((hB.set1 hb1 hb2).set1 hb1 hb2).set1 hb1 hb2).set1 hb1 hb2)).keep hn); clear hn; (try clear hR); have hR := hB.rules; simp only [Rules, World.size_alloc, Nat.add_one_le_iff, List.setIfInBounds_toArray, List.set_cons_zero, List.set_cons_succ] at hR))
      all_goals
        refine bodyPost_ret (results_tmp rfl _ _ _) rfl ?_
        refine ⟨ret_true ?_, ?_⟩
        · rfl
        · repeat (first | exact ext_refl _ | exact hB.below | apply ext_alloc | apply ext_drew | (refine ext_set ?_ ?_; · first | (dsimp only; omega) | (simp; omega) | (simp; done)))
    by_cases h2 : r2 ≤ c
    · skip
      have hB := Known.start w
      go_enter Try.func10, Try.ntmps10
      go_wp2_with (first | (go_at_call 27; refine (sNone _ _ _ _ _).mono ?_; rintro e w1 ⟨rfl, hn⟩; (first | with_reducible replace hB := (hB).keep hn | with_reducible replace hB := (hB.alloc).keep hn | with_reducible replace hB := (hB.alloc.alloc).keep hn | with_reducible replace hB := (hB.alloc.alloc.alloc).keep hn | with_reducible replace hB := (hB.alloc.alloc.alloc.alloc).keep hn | with_reducible replace hB := (hB.alloc.alloc.alloc.alloc.alloc).keep hn | with_reducible replace hB := (hB.alloc.alloc.alloc.alloc.alloc.alloc).keep hn | with_reducible replace hB := (((hB.set1 hb1 hb2).set1 hb1 hb2)).keep hn | with_reducible replace hB := (((((hB.set1 hb1 hb2).set1 hb1 hb2).set1 hb1 hb2).set1 hb1 hb2)).keep hn); clear hn; (try clear hR); have hR := hB.rules; simp only [Rules, World.size_alloc, Nat.add_one_le_iff, List.setIfInBounds_toArray, List.set_cons_zero, List.set_cons_succ] at hR))
      all_goals
        refine bodyPost_ret (results_tmp rfl _ _ _) rfl ?_
        refine ⟨ret_true ?_, ?_⟩
        · rfl
        · repeat (first | exact ext_refl _ | exact hB.below | apply ext_alloc | apply ext_drew | (refine ext_set ?_ ?_; · first | (dsimp only; omega) | (simp; omega) | (simp; done)))
    rcases Bool.eq_false_or_eq_true (emptyB r0 r1 r2 r3) with h3 | h3
    · skip
      have hB := Known.start w
      go_enter Try.func10, Try.ntmps10
      go_wp2_with (first | (go_at_call 27; refine (sNone _ _ _ _ _).mono ?_; rintro e w1 ⟨rfl, hn⟩; (first | with_reducible replace hB := (hB).keep hn | with_reducible replace hB := (hB.alloc).keep hn | with_reducible replace hB := (hB.alloc.alloc).keep hn | with_reducible replace hB := (hB.alloc.alloc.alloc).keep hn | with_reducible replace hB := (hB.alloc.alloc.alloc.alloc).keep hn | with_reducible replace hB := (hB.alloc.alloc.alloc.alloc.alloc).keep hn | with_reducible replace hB := (hB.alloc.alloc.alloc.alloc.alloc.alloc).keep hn | with_reducible replace hB := (((hB.set1 hb1 hb2).set1 hb1 hb2)).keep hn | with_reducible replace hB := (((((hB.set1 hb1 hb2).set1 hb1 hb2).set1 hb1 hb2).set1 hb1 hb2)).keep hn); clear hn; (try clear hR); have hR := hB.rules; simp only [Rules, World.size_alloc, Nat.add_one_le_iff, List.setIfInBounds_toArray, List.set_cons_zero, List.set_cons_succ] at hR))
      all_goals
        refine bodyPost_ret (results_tmp rfl _ _ _) rfl ?_
        refine ⟨ret_true ?_, ?_⟩
        · rfl
        · repeat (first | exact ext_refl _ | exact hB.below | apply ext_alloc | apply ext_drew | (refine ext_set ?_ ?_; · first | (dsimp only; omega) | (simp; omega) | (simp; done)))
    obtain ⟨f0, f1, g1, g2, g3, g4, g5, g6, g7⟩ := beside (x := a0) (y := a1) h3 h1 h2
    cases i1 : inB a0 a1 r0 r1 c r3 <;> cases i2 : inB a0 a1 c r1 r2 r3
    all_goals
      rw [i1, i2] at f0 f1
      simp only [Bool.or_false, Bool.or_true, Bool.or_self, Bool.and_self, Bool.true_eq_false, Bool.and_true, Bool.and_false] at f0 f1
    all_goals
      (try clear f1)
      have hB := Known.start w
      go_enter Try.func10, Try.ntmps10
      go_wp2_with (first | (go_at_call 27; refine (sNone _ _ _ _ _).mono ?_; rintro e w1 ⟨rfl, hn⟩; (first | with_reducible replace hB := (hB).keep hn | with_reducible replace hB := (hB.alloc).keep hn | with_reducible replace hB := (hB.alloc.alloc).keep hn | with_reducible replace hB := (hB.alloc.alloc.alloc).keep hn | with_reducible replace hB := (hB.alloc.alloc.alloc.alloc).keep hn | with_reducible replace hB := (hB.alloc.alloc.alloc.alloc.alloc).keep hn | with_reducible replace hB := (hB.alloc.alloc.alloc.alloc.alloc.alloc).keep hn | with_reducible replace hB := (((hB.set1 hb1 hb2).set1 hb1 hb2)).keep hn | with_reducible replace hB := (((((hB.set1 hb1 hb2).set1 hb1 hb2).set1 hb1 hb2).set1 hb1 hb2)).keep hn); clear hn; (try clear hR); have hR := hB.rules; simp only [Rules, World.size_alloc, Nat.add_one_le_iff, List.setIfInBounds_toArray, List.set_cons_zero, List.set_cons_succ] at hR) | (go_at_call 23; refine (iPointIn _ _ _ _ _ _ _).mono ?_; rintro e w1 ⟨rfl, hn⟩; (first | with_reducible replace hB := (hB).keep hn | with_reducible replace hB := (hB.alloc).keep hn | with_reducible replace hB := (hB.alloc.alloc).keep hn | with_reducible replace hB := (hB.alloc.alloc.alloc).keep hn | with_reducible replace hB := (hB.alloc.alloc.alloc.alloc).keep hn | with_reducible replace hB := (hB.alloc.alloc.alloc.alloc.alloc).keep hn | with_reducible replace hB := (hB.alloc.alloc.alloc.alloc.alloc.alloc).keep hn | with_reducible replace hB := (((hB.set1 hb1 hb2).set1 hb1 hb2)).keep hn | with_reducible replace hB := (((((hB.set1 hb1 hb2).set1 hb1 hb2).set1 hb1 hb2).set1 hb1 hb2)).keep hn); clear hn; (try clear hR); have hR := hB.rules; simp only [Rules, World.size_alloc, Nat.add_one_le_iff, List.setIfInBounds_toArray, List.set_cons_zero, List.set_cons_succ] at hR))
      (first | with_reducible refine wp_region_known hB ?hm ?hB ?_ | with_reducible refine wp_region_known hB.alloc ?hm ?hB ?_ | with_reducible refine wp_region_known hB.alloc.alloc ?hm ?hB ?_ | with_reducible refine wp_region_known hB.alloc.alloc.alloc ?hm ?hB ?_ | with_reducible refine wp_region_known hB.alloc.alloc.alloc.alloc ?hm ?hB ?_ | with_reducible refine wp_region_known hB.alloc.alloc.alloc.alloc.alloc ?hm ?hB ?_ | with_reducible refine wp_region_known hB.alloc.alloc.alloc.alloc.alloc.alloc ?hm ?hB ?_); (case hm => kernel_rfl); (case hB => kernel_rfl); (try clear hR); intro hov; simp only [Rules, World.size_alloc, Nat.add_one_le_iff, List.setIfInBounds_toArray, List.set_cons_zero, List.set_cons_succ] at hov; (repeat (go_big_quiet_step (first | (go_at_call 25; exact Calls.overB (by assumption) (iRectOverlaps _ _ _ _ _ _ _ _ _)) | (go_at_call 25; exact Calls.over _ (iRectOverlaps _ _ _ _ _ _ _ _ _)) | (go_at_call 31; exact Calls.over _ (iRectIntersect _ _ _ _ _ _ _ _ _)) | (go_at_call 29; exact Calls.over _ (iRectUnion _ _ _ _ _ _ _ _ _)) | (go_at_call 24; exact Calls.overB (by assumption) (iRectIn _ _ _ _ _ _ _ _ _)) | (go_at_call 24; exact Calls.over _ (iRectIn _ _ _ _ _ _ _ _ _))))); refine wpQuiet_nil ?_; intro wx hB; clear hov; have hR := hB.rules; simp only [Rules, World.size_alloc, Nat.add_one_le_iff, List.setIfInBounds_toArray, List.set_cons_zero, List.set_cons_succ] at hR
      go_wp2
      all_goals
        refine bodyPost_ret (results_tmp rfl _ _ _) rfl ?_
        refine ⟨ret_true ?_, ?_⟩
        · first | rfl | (simp [*]; done)
        · repeat (first | exact ext_refl _ | exact hB.below | apply ext_alloc | apply ext_drew | (refine ext_set ?_ ?_; · first | (dsimp only; omega) | (simp; omega) | (simp; done)))
  by_cases h1 : c ≤ r1
  · skip
    have hB := Known.start w
    go_enter Try.func10, Try.ntmps10
    go_wp2_with (first | (go_at_call 27; refine (sNone _ _ _ _ _).mono ?_; rintro e w1 ⟨rfl, hn⟩; (first | with_reducible replace hB := (hB).keep hn | with_reducible replace hB := (hB.alloc).keep hn | with_reducible replace hB := (hB.alloc.alloc).keep hn | with_reducible replace hB := (hB.alloc.alloc.alloc).keep hn | with_reducible replace hB := (hB.alloc.alloc.alloc.alloc).keep hn | with_reducible replace hB := (hB.alloc.alloc.alloc.alloc.alloc).keep hn | with_reducible replace hB := (hB.alloc.alloc.alloc.alloc.alloc.alloc).keep hn | with_reducible replace hB := (((hB.set1 hb1 hb2).set1 hb1 hb2)).keep hn | with_reducible replace hB := (((((hB.set1 hb1 hb2).set1 hb1 hb2).set1 hb1 hb2).set1 hb1 hb2)).keep hn); clear hn; (try clear hR); have hR := hB.rules; simp only [Rules, World.size_alloc, Nat.add_one_le_iff, List.setIfInBounds_toArray, List.set_cons_zero, List.set_cons_succ] at hR))
    all_goals
      refine bodyPost_ret (results_tmp rfl _ _ _) rfl ?_
      refine ⟨ret_true ?_, ?_⟩
      · rfl
      · repeat (first | exact ext_refl _ | exact hB.below | apply ext_alloc | apply ext_drew | (refine ext_set ?_ ?_; · first | (dsimp only; omega) | (simp; omega) | (simp; done)))
  by_cases h2 : r3 ≤ c
  · skip
    have hB := Known.start w
    go_enter Try.func10, Try.ntmps10
    go_wp2_with (first | (go_at_call 27; refine (sNone _ _ _ _ _).mono ?_; rintro e w1 ⟨rfl, hn⟩; (first | with_reducible replace hB := (hB).keep hn | with_reducible replace hB := (hB.alloc).keep hn | with_reducible replace hB := (hB.alloc.alloc).keep hn | with_reducible replace hB := (hB.alloc.alloc.alloc).keep hn | with_reducible replace hB := (hB.alloc.alloc.alloc.alloc).keep hn | with_reducible replace hB := (hB.alloc.alloc.alloc.alloc.alloc).keep hn | with_reducible replace hB := (hB.alloc.alloc.alloc.alloc.alloc.alloc).keep hn | with_reducible replace hB := (((hB.set1 hb1 hb2).set1 hb1 hb2)).keep hn | with_reducible replace hB := (((((hB.set1 hb1 hb2).set1 hb1 hb2).set1 hb1 hb2).set1 hb1 hb2)).keep hn); clear hn; (try clear hR); have hR := hB.rules; simp only [Rules, World.size_alloc, Nat.add_one_le_iff, List.setIfInBounds_toArray, List.set_cons_zero, List.set_cons_succ] at hR))
    all_goals
      refine bodyPost_ret (results_tmp rfl _ _ _) rfl ?_
      refine ⟨ret_true ?_, ?_⟩
      · rfl
      · repeat (first | exact ext_refl _ | exact hB.below | apply ext_alloc | apply ext_drew | (refine ext_set ?_ ?_; · first | (dsimp only; omega) | (simp; omega) | (simp; done)))
  rcases Bool.eq_false_or_eq_true (emptyB r0 r1 r2 r3) with h3 | h3
  · skip
    have hB := Known.start w
    go_enter Try.func10, Try.ntmps10
    go_wp2_with (first | (go_at_call 27; refine (sNone _ _ _ _ _).mono ?_; rintro e w1 ⟨rfl, hn⟩; (first | with_reducible replace hB := (hB).keep hn | with_reducible replace hB := (hB.alloc).keep hn | with_reducible replace hB := (hB.alloc.alloc).keep hn | with_reducible replace hB := (hB.alloc.alloc.alloc).keep hn | with_reducible replace hB := (hB.alloc.alloc.alloc.alloc).keep hn | with_reducible replace hB := (hB.alloc.alloc.alloc.alloc.alloc).keep hn | with_reducible replace hB := (hB.alloc.alloc.alloc.alloc.alloc.alloc).keep hn | with_reducible replace hB := (((hB.set1 hb1 hb2).set1 hb1 hb2)).keep hn | with_reducible replace hB := (((((hB.set1 hb1 hb2).set1 hb1 hb2).set1 hb1 hb2).set1 hb1 hb2)).keep hn); clear hn; (try clear hR); have hR := hB.rules; simp only [Rules, World.size_alloc, Nat.add_one_le_iff, List.setIfInBounds_toArray, List.set_cons_zero, List.set_cons_succ] at hR))
    all_goals
      refine bodyPost_ret (results_tmp rfl _ _ _) rfl ?_
      refine ⟨ret_true ?_, ?_⟩
      · rfl
      · repeat (first | exact ext_refl _ | exact hB.below | apply ext_alloc | apply ext_drew | (refine ext_set ?_ ?_; · first | (dsimp only; omega) | (simp; omega) | (simp; done)))
  obtain ⟨f0, f1, g1, g2, g3, g4, g5, g6, g7⟩ := over (x := a0) (y := a1) h3 h1 h2
  cases i1 : inB a0 a1 r0 r1 r2 c <;> cases i2 : inB a0 a1 r0 c r2 r3
  all_goals
    rw [i1, i2] at f0 f1
    simp only [Bool.or_false, Bool.or_true, Bool.or_self, Bool.and_self, Bool.true_eq_false, Bool.and_true, Bool.and_false] at f0 f1
  all_goals
    (try clear f1)
    have hB := Known.start w
    go_enter Try.func10, Try.ntmps10
    go_wp2_with (first | (go_at_call 27; refine (sNone _ _ _ _ _).mono ?_; rintro e w1 ⟨rfl, hn⟩; (first | with_reducible replace hB := (hB).keep hn | with_reducible replace hB := (hB.alloc).keep hn | with_reducible replace hB := (hB.alloc.alloc).keep hn | with_reducible replace hB := (hB.alloc.alloc.alloc).keep hn | with_reducible replace hB := (hB.alloc.alloc.alloc.alloc).keep hn | with_reducible replace hB := (hB.alloc.alloc.alloc.alloc.alloc).keep hn | with_reducible replace hB := (hB.alloc.alloc.alloc.alloc.alloc.alloc).keep hn | with_reducible replace hB := (((hB.set1 hb1 hb2).set1 hb1 hb2)).keep hn | with_reducible replace hB := (((((hB.set1 hb1 hb2).set1 hb1 hb2).set1 hb1 hb2).set1 hb1 hb2)).keep hn); clear hn; (try clear hR); have hR := hB.rules; simp only [Rules, World.size_alloc, Nat.add_one_le_iff, List.setIfInBounds_toArray, List.set_cons_zero, List.set_cons_succ] at hR) | (go_at_call 23; refine (iPointIn _ _ _ _ _ _ _).mono ?_; rintro e w1 ⟨rfl, hn⟩; (first | with_reducible replace hB := (hB).keep hn | with_reducible replace hB := (hB.alloc).keep hn | with_reducible replace hB := (hB.alloc.alloc).keep hn | with_reducible replace hB := (hB.alloc.alloc.alloc).keep hn | with_reducible replace hB := (hB.alloc.alloc.alloc.alloc).keep hn | with_reducible replace hB := (hB.alloc.alloc.alloc.alloc.alloc).keep hn | with_reducible replace hB := (hB.alloc.alloc.alloc.alloc.alloc.alloc).keep hn | with_reducible replace hB := (((hB.set1 hb1 hb2).set1 hb1 hb2)).keep hn | with_reducible replace hB := (((((hB.set1 hb1 hb2).set1 hb1 hb2).set1 hb1 hb2).set1 hb1 hb2)).keep hn); clear hn; (try clear hR); have hR := hB.rules; simp only [Rules, World.size_alloc, Nat.add_one_le_iff, List.setIfInBounds_toArray, List.set_cons_zero, List.set_cons_succ] at hR))
    (first | with_reducible refine wp_region_known hB ?hm ?hB ?_ | with_reducible refine wp_region_known hB.alloc ?hm ?hB ?_ | with_reducible refine wp_region_known hB.alloc.alloc ?hm ?hB ?_ | with_reducible refine wp_region_known hB.alloc.alloc.alloc ?hm ?hB ?_ | with_reducible refine wp_region_known hB.alloc.alloc.alloc.alloc ?hm ?hB ?_ | with_reducible refine wp_region_known hB.alloc.alloc.alloc.alloc.alloc ?hm ?hB ?_ | with_reducible refine wp_region_known hB.alloc.alloc.alloc.alloc.alloc.alloc ?hm ?hB ?_); (case hm => kernel_rfl); (case hB => kernel_rfl); (try clear hR); intro hov; simp only [Rules, World.size_alloc, Nat.add_one_le_iff, List.setIfInBounds_toArray, List.set_cons_zero, List.set_cons_succ] at hov; (repeat (go_big_quiet_step (first | (go_at_call 25; exact Calls.overB (by assumption) (iRectOverlaps _ _ _ _ _ _ _ _ _)) | (go_at_call 25; exact Calls.over _ (iRectOverlaps _ _ _ _ _ _ _ _ _)) | (go_at_call 31; exact Calls.over _ (iRectIntersect _ _ _ _ _ _ _ _ _)) | (go_at_call 29; exact Calls.over _ (iRectUnion _ _ _ _ _ _ _ _ _)) | (go_at_call 24; exact Calls.overB (by assumption) (iRectIn _ _ _ _ _ _ _ _ _)) | (go_at_call 24; exact Calls.over _ (iRectIn _ _ _ _ _ _ _ _ _))))); refine wpQuiet_nil ?_; intro wx hB; clear hov; have hR := hB.rules; simp only [Rules, World.size_alloc, Nat.add_one_le_iff, List.setIfInBounds_toArray, List.set_cons_zero, List.set_cons_succ] at hR
    go_wp2
    all_goals
      refine bodyPost_ret (results_tmp rfl _ _ _) rfl ?_
      refine ⟨ret_true ?_, ?_⟩
      · first | rfl | (simp [*]; done)
      · repeat (first | exact ext_refl _ | exact hB.below | apply ext_alloc | apply ext_drew | (refine ext_set ?_ ?_; · first | (dsimp only; omega) | (simp; omega) | (simp; done)))

theorem lifted (os : Os) (started : os.Started) (H : Type) (enc : TypeId × Value → H) :
    ReturnsInHanded {} Try.checked os 10 .any (Rows.fnSplitSpec.pre6 enc Try.prog Try.f10 Rows.fnSplitRow.domain false) (Rows.fnSplitSpec.post enc Try.prog Try.f10 false true false false) := by
  refine returnsInHanded_of_change (C := Try.checked) own started (by kernel_rfl) Try.func10
    (ChangeSpec.witness6 (enc := enc) (C := Try.checked) false ⟨#[], #[.agg #[.int .i64 0, .int .i64 0], .agg #[.int .i64 0, .int .i64 0, .int .i64 0, .int .i64 0], .int .i64 0, .bool false], []⟩ 8 (by kernel_rfl) (by kernel_rfl) (by kernel_rfl) (by kernel_rfl)) ?_
  intro W base args ds gs before hval0 hW hcnd _
  have hval : ∀ (j : Nat) t v, Try.f10.params[j]? = some t → args[j]? = some v → Value.okWide Try.prog W .any base t v := hval0
  have hW' := hW
  obtain ⟨p, q, hA0, hV, rfl, hfz, hnd⟩ := hW
  have hA : DataW.TrodAll enc Try.prog W 0 (fun _ => true) true Try.f10.params.toList args.toList ds p := hA0
  rw [Try.params10] at hA hval
  obtain ⟨v0, vs0, d0, ds0, p0, q0, hargs, rfl, rfl, h0, r0⟩ := trodAll_cons hA
  obtain ⟨v1, vs1, d1, ds1, p1, q1, rfl, rfl, rfl, h1, r1⟩ := trodAll_cons r0
  obtain ⟨v2, vs2, d2, ds2, p2, q2, rfl, rfl, rfl, h2, r2⟩ := trodAll_cons r1
  obtain ⟨v3, vs3, d3, ds3, p3, q3, rfl, rfl, rfl, h3, r3⟩ := trodAll_cons r2
  obtain ⟨rfl, rfl, rfl⟩ := trodAll_nil r3
  obtain rfl : args = #[v0, v1, v2, v3] := by cases args; simp_all
  obtain ⟨rfl, rfl⟩ := trodVars_none hV
  obtain ⟨xa0, xa1, rfl, rfl, rfl, wxa0, wxa1⟩ := open_arr2 Try.underlying23 Try.underlying2 (by kernel_rfl) (by kernel_rfl) (hval 0 23 v0 rfl rfl) h0
  obtain ⟨xr0, xr1, xr2, xr3, rfl, rfl, rfl, wxr0, wxr1, wxr2, wxr3⟩ := open_arr4 Try.underlying22 Try.underlying2 (by kernel_rfl) (by kernel_rfl) (hval 1 22 v1 rfl rfl) h1
  obtain ⟨xc, rfl, rfl, rfl, wxc⟩ := open_int Try.underlying2 (hval 2 2 v2 rfl rfl) h2
  obtain ⟨xdown, rfl, rfl, rfl⟩ := open_bool Try.underlying4 (hval 3 4 v3 rfl rfl) h3
  clear hA0 hval0
  refine (walk xa0 xa1 xr0 xr1 xr2 xr3 xc xdown (bounds_i64 wxa0) (bounds_i64 wxa1) (bounds_i64 wxr0) (bounds_i64 wxr1) (bounds_i64 wxr2) (bounds_i64 wxr3) (bounds_i64 wxc) W).mono fun e W' ⟨he, bel⟩ => ?_
  subst he
  exact ⟨_, rfl, _, _, _, [], _, [], hW', trodAll_mk1 (shut_bool Try.underlying4 _), (trodAll_cons_mk (shut_arr2 Try.underlying23 Try.underlying2 (by kernel_rfl) (by kernel_rfl) wxa0 wxa1) (trodAll_cons_mk (shut_arr4 Try.underlying22 Try.underlying2 (by kernel_rfl) (by kernel_rfl) wxr0 wxr1 wxr2 wxr3) (trodAll_cons_mk (shut_int Try.underlying2 wxc) (trodAll_cons_mk (shut_bool Try.underlying4 _) trodAll_mk0)))), rfl, bel.frame _, fun h => by cases h⟩

/-- THE STATEMENT. -/
theorem proved : Rows.FnSplitSaid :=
  OpenClaim.holds_of_wide 10 Try.f10 rfl rfl rfl rfl rfl rfl rfl ⟨rfl, rfl, rfl, rfl, rfl⟩ rfl rfl rfl rfl rfl (by kernel_rfl) Try.func10 (by kernel_rfl)
    (of_decide_eq_true (by kernel_rfl)) (by unfold Func.isWrapper; first | (rw [if_pos (by decide +kernel)]; kernel_rfl) | (rw [if_neg (by decide +kernel)]; exact ⟨rfl, rfl⟩))
    (fun os started H enc _ => lifted os started H enc)
#print axioms proved
end Go.Proofs.Ytakfghkbdijbiaa.fnSplit
