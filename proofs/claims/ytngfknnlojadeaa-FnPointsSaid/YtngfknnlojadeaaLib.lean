/-
  The contracts of the library's functions that this seat reaches (image.Pt, image.Rect, the methods of Point and Rectangle) and of the thin package's four converters: what each hands back, and that it changes nothing that was there.
  Conditions: only those that a theorem writes out (a divisor that is not 0).
-/
import Derived.Test.YtngfknnlojadeaaPlain
namespace Go.Proofs.Ytngfknnlojadeaa
open Go.RowKit
set_option linter.unusedSimpArgs false
set_option linter.unusedVariables false
set_option maxHeartbeats 2000000

theorem point_any (a b : Int) (w : World) : Calls Try.prog 35 #[.agg #[.int .i64 a, .int .i64 b]] w (Gives (.agg #[.int .i64 a, .int .i64 b]) w) := by
  have hB := Known.start w
  go_enter Try.func35, Try.ntmps35
  go_wp2
  all_goals
    refine bodyPost_ret (v := .agg #[.int .i64 a, .int .i64 b]) ?_ rfl ⟨rfl, ?_⟩
    · simp [results, Try.results35, go_sem]
    · repeat (first | exact ext_refl _ | exact hB.below | apply ext_alloc | apply ext_drew | (refine ext_set ?_ ?_; · first | (dsimp only; omega) | (simp; omega) | (simp; done)))

theorem pair_any (a b : Int) (w : World) : Calls Try.prog 43 #[.agg #[.int .i64 a, .int .i64 b]] w (Gives (.agg #[.int .i64 a, .int .i64 b]) w) := by
  have hB := Known.start w
  go_enter Try.func43, Try.ntmps43
  go_wp2
  all_goals
    refine bodyPost_ret (v := .agg #[.int .i64 a, .int .i64 b]) ?_ rfl ⟨rfl, ?_⟩
    · simp [results, Try.results43, go_sem]
    · repeat (first | exact ext_refl _ | exact hB.below | apply ext_alloc | apply ext_drew | (refine ext_set ?_ ?_; · first | (dsimp only; omega) | (simp; omega) | (simp; done)))

theorem rectangle_any (a b c d : Int) (w : World) : Calls Try.prog 37 #[.agg #[.int .i64 a, .int .i64 b, .int .i64 c, .int .i64 d]] w (Gives (.agg #[.int .i64 a, .int .i64 b, .int .i64 c, .int .i64 d]) w) := by
  have hB := Known.start w
  go_enter Try.func37, Try.ntmps37
  go_wp2
  (first | with_reducible refine wp_region_known_tail hB 13 ?hm ?hB ?_ | with_reducible refine wp_region_known_tail hB.alloc 13 ?hm ?hB ?_ | with_reducible refine wp_region_known_tail hB.alloc.alloc 13 ?hm ?hB ?_ | with_reducible refine wp_region_known_tail hB.alloc.alloc.alloc 13 ?hm ?hB ?_ | with_reducible refine wp_region_known_tail hB.alloc.alloc.alloc.alloc 13 ?hm ?hB ?_ | with_reducible refine wp_region_known_tail hB.alloc.alloc.alloc.alloc.alloc 13 ?hm ?hB ?_ | with_reducible refine wp_region_known_tail hB.alloc.alloc.alloc.alloc.alloc.alloc 13 ?hm ?hB ?_); (case hm => kernel_rfl); (case hB => kernel_rfl); (try clear hR); intro hov; simp only [Rules, World.size_alloc, Nat.add_one_le_iff, List.setIfInBounds_toArray, List.set_cons_zero, List.set_cons_succ] at hov; simp only [List.take_succ_cons, List.take_zero, List.drop_succ_cons, List.drop_zero]
  repeat (go_big_quiet_step ((go_at_call 35; exact Calls.over _ (point_any _ _ _))))
  refine wpQuiet_nil ?_; intro wx hB; clear hov; have hR := hB.rules; simp only [Rules, World.size_alloc, Nat.add_one_le_iff, List.setIfInBounds_toArray, List.set_cons_zero, List.set_cons_succ] at hR
  go_wp2
  refine bodyPost_ret (v := .agg #[.int .i64 a, .int .i64 b, .int .i64 c, .int .i64 d]) ?_ rfl ⟨rfl, ?_⟩
  · simp [results, Try.results37, go_sem, hR]
  · repeat (first | exact ext_refl _ | exact hB.below | apply ext_alloc | apply ext_drew | (refine ext_set ?_ ?_; · first | (dsimp only; omega) | (simp; omega) | (simp; done)))

theorem four_any (a b c d : Int) (w : World) : Calls Try.prog 39 #[.agg #[.int .i64 a, .int .i64 b, .int .i64 c, .int .i64 d]] w (Gives (.agg #[.int .i64 a, .int .i64 b, .int .i64 c, .int .i64 d]) w) := by
  have hB := Known.start w
  go_enter Try.func39, Try.ntmps39
  go_wp2
  all_goals
    refine bodyPost_ret (v := .agg #[.int .i64 a, .int .i64 b, .int .i64 c, .int .i64 d]) ?_ rfl ⟨rfl, ?_⟩
    · simp [results, Try.results39, go_sem]
    · repeat (first | exact ext_refl _ | exact hB.below | apply ext_alloc | apply ext_drew | (refine ext_set ?_ ?_; · first | (dsimp only; omega) | (simp; omega) | (simp; done)))

theorem padd_any (a b c d : Int) (w : World) : Calls Try.prog 44 #[.agg #[.int .i64 a, .int .i64 b], .agg #[.int .i64 c, .int .i64 d]] w (Gives (.agg #[.int .i64 (wrap64 (a + c)), .int .i64 (wrap64 (b + d))]) w) := by
  have hB := Known.start w
  go_enter Try.func44, Try.ntmps44
  go_wp2
  all_goals
    refine bodyPost_ret (v := .agg #[.int .i64 (wrap64 (a + c)), .int .i64 (wrap64 (b + d))]) ?_ rfl ⟨rfl, ?_⟩
    · simp [results, Try.results44, go_sem]
    · repeat (first | exact ext_refl _ | exact hB.below | apply ext_alloc | apply ext_drew | (refine ext_set ?_ ?_; · first | (dsimp only; omega) | (simp; omega) | (simp; done)))

theorem psub_any (a b c d : Int) (w : World) : Calls Try.prog 45 #[.agg #[.int .i64 a, .int .i64 b], .agg #[.int .i64 c, .int .i64 d]] w (Gives (.agg #[.int .i64 (wrap64 (a - c)), .int .i64 (wrap64 (b - d))]) w) := by
  have hB := Known.start w
  go_enter Try.func45, Try.ntmps45
  go_wp2
  all_goals
    refine bodyPost_ret (v := .agg #[.int .i64 (wrap64 (a - c)), .int .i64 (wrap64 (b - d))]) ?_ rfl ⟨rfl, ?_⟩
    · simp [results, Try.results45, go_sem]
    · repeat (first | exact ext_refl _ | exact hB.below | apply ext_alloc | apply ext_drew | (refine ext_set ?_ ?_; · first | (dsimp only; omega) | (simp; omega) | (simp; done)))

theorem pmul_any (a b k : Int) (w : World) : Calls Try.prog 47 #[.agg #[.int .i64 a, .int .i64 b], .int .i64 k] w (Gives (.agg #[.int .i64 (wrap64 (a * k)), .int .i64 (wrap64 (b * k))]) w) := by
  have hB := Known.start w
  go_enter Try.func47, Try.ntmps47
  go_wp2
  all_goals
    refine bodyPost_ret (v := .agg #[.int .i64 (wrap64 (a * k)), .int .i64 (wrap64 (b * k))]) ?_ rfl ⟨rfl, ?_⟩
    · simp [results, Try.results47, go_sem]
    · repeat (first | exact ext_refl _ | exact hB.below | apply ext_alloc | apply ext_drew | (refine ext_set ?_ ?_; · first | (dsimp only; omega) | (simp; omega) | (simp; done)))

theorem pdiv_any (a b k : Int) (w : World) (hk : (k == 0) = false) : Calls Try.prog 46 #[.agg #[.int .i64 a, .int .i64 b], .int .i64 k] w (Gives (.agg #[.int .i64 (wrap64 (a.tdiv k)), .int .i64 (wrap64 (b.tdiv k))]) w) := by
  have hk' : ¬ k = 0 := by simpa using hk
  have hB := Known.start w
  go_enter Try.func46, Try.ntmps46
  go_wp2
  (first | with_reducible refine wp_region_known_tail hB 9 ?hm ?hB ?_ | with_reducible refine wp_region_known_tail hB.alloc 9 ?hm ?hB ?_ | with_reducible refine wp_region_known_tail hB.alloc.alloc 9 ?hm ?hB ?_ | with_reducible refine wp_region_known_tail hB.alloc.alloc.alloc 9 ?hm ?hB ?_ | with_reducible refine wp_region_known_tail hB.alloc.alloc.alloc.alloc 9 ?hm ?hB ?_ | with_reducible refine wp_region_known_tail hB.alloc.alloc.alloc.alloc.alloc 9 ?hm ?hB ?_ | with_reducible refine wp_region_known_tail hB.alloc.alloc.alloc.alloc.alloc.alloc 9 ?hm ?hB ?_); (case hm => kernel_rfl); (case hB => kernel_rfl); (try clear hR); intro hov; simp only [Rules, World.size_alloc, Nat.add_one_le_iff, List.setIfInBounds_toArray, List.set_cons_zero, List.set_cons_succ] at hov; simp only [List.take_succ_cons, List.take_zero, List.drop_succ_cons, List.drop_zero]
  repeat (go_big_quiet_step (fail))
  refine wpQuiet_nil ?_; intro wx hB; clear hov; have hR := hB.rules; simp only [Rules, World.size_alloc, Nat.add_one_le_iff, List.setIfInBounds_toArray, List.set_cons_zero, List.set_cons_succ] at hR
  go_wp2
  refine bodyPost_ret (v := .agg #[.int .i64 (wrap64 (a.tdiv k)), .int .i64 (wrap64 (b.tdiv k))]) ?_ rfl ⟨rfl, ?_⟩
  · simp [results, Try.results46, go_sem, hR]
  · repeat (first | exact ext_refl _ | exact hB.below | apply ext_alloc | apply ext_drew | (refine ext_set ?_ ?_; · first | (dsimp only; omega) | (simp; omega) | (simp; done)))

theorem pin_any (x y a b c d : Int) (w : World) : Calls Try.prog 36 #[.agg #[.int .i64 x, .int .i64 y], .agg #[.int .i64 a, .int .i64 b, .int .i64 c, .int .i64 d]] w (Gives (.bool (inB x y a b c d)) w) := by
  have hB := Known.start w
  go_enter Try.func36, Try.ntmps36
  go_wp2
  all_goals
    refine bodyPost_ret (v := .bool (inB x y a b c d)) ?_ rfl ⟨rfl, ?_⟩
    · first | (simp [results, Try.results36, go_sem]; done) | (simp [results, Try.results36, go_sem]; simp [inB, *]; done) | (simp [results, Try.results36, go_sem, inB, *]; done) | (simp [results, Try.results36, go_sem, inB, *]; omega)
    · repeat (first | exact ext_refl _ | exact hB.below | apply ext_alloc | apply ext_drew | (refine ext_set ?_ ?_; · first | (dsimp only; omega) | (simp; omega) | (simp; done)))

theorem dx_any (a b c d : Int) (w : World) : Calls Try.prog 48 #[.agg #[.int .i64 a, .int .i64 b, .int .i64 c, .int .i64 d]] w (Gives (.int .i64 (wrap64 (c - a))) w) := by
  have hB := Known.start w
  go_enter Try.func48, Try.ntmps48
  go_wp2
  all_goals
    refine bodyPost_ret (v := .int .i64 (wrap64 (c - a))) ?_ rfl ⟨rfl, ?_⟩
    · simp [results, Try.results48, go_sem]
    · repeat (first | exact ext_refl _ | exact hB.below | apply ext_alloc | apply ext_drew | (refine ext_set ?_ ?_; · first | (dsimp only; omega) | (simp; omega) | (simp; done)))

theorem dy_any (a b c d : Int) (w : World) : Calls Try.prog 49 #[.agg #[.int .i64 a, .int .i64 b, .int .i64 c, .int .i64 d]] w (Gives (.int .i64 (wrap64 (d - b))) w) := by
  have hB := Known.start w
  go_enter Try.func49, Try.ntmps49
  go_wp2
  all_goals
    refine bodyPost_ret (v := .int .i64 (wrap64 (d - b))) ?_ rfl ⟨rfl, ?_⟩
    · simp [results, Try.results49, go_sem]
    · repeat (first | exact ext_refl _ | exact hB.below | apply ext_alloc | apply ext_drew | (refine ext_set ?_ ?_; · first | (dsimp only; omega) | (simp; omega) | (simp; done)))

theorem size_any (a b c d : Int) (w : World) : Calls Try.prog 50 #[.agg #[.int .i64 a, .int .i64 b, .int .i64 c, .int .i64 d]] w (Gives (.agg #[.int .i64 (wrap64 (c - a)), .int .i64 (wrap64 (d - b))]) w) := by
  have hB := Known.start w
  go_enter Try.func50, Try.ntmps50
  go_wp2
  all_goals
    refine bodyPost_ret (v := .agg #[.int .i64 (wrap64 (c - a)), .int .i64 (wrap64 (d - b))]) ?_ rfl ⟨rfl, ?_⟩
    · simp [results, Try.results50, go_sem]
    · repeat (first | exact ext_refl _ | exact hB.below | apply ext_alloc | apply ext_drew | (refine ext_set ?_ ?_; · first | (dsimp only; omega) | (simp; omega) | (simp; done)))

theorem radd_any (a b c d x y : Int) (w : World) : Calls Try.prog 40 #[.agg #[.int .i64 a, .int .i64 b, .int .i64 c, .int .i64 d], .agg #[.int .i64 x, .int .i64 y]] w (Gives (.agg #[.int .i64 (wrap64 (a + x)), .int .i64 (wrap64 (b + y)), .int .i64 (wrap64 (c + x)), .int .i64 (wrap64 (d + y))]) w) := by
  have hB := Known.start w
  go_enter Try.func40, Try.ntmps40
  go_wp2
  all_goals
    refine bodyPost_ret (v := .agg #[.int .i64 (wrap64 (a + x)), .int .i64 (wrap64 (b + y)), .int .i64 (wrap64 (c + x)), .int .i64 (wrap64 (d + y))]) ?_ rfl ⟨rfl, ?_⟩
    · simp [results, Try.results40, go_sem]
    · repeat (first | exact ext_refl _ | exact hB.below | apply ext_alloc | apply ext_drew | (refine ext_set ?_ ?_; · first | (dsimp only; omega) | (simp; omega) | (simp; done)))

theorem rsub_any (a b c d x y : Int) (w : World) : Calls Try.prog 42 #[.agg #[.int .i64 a, .int .i64 b, .int .i64 c, .int .i64 d], .agg #[.int .i64 x, .int .i64 y]] w (Gives (.agg #[.int .i64 (wrap64 (a - x)), .int .i64 (wrap64 (b - y)), .int .i64 (wrap64 (c - x)), .int .i64 (wrap64 (d - y))]) w) := by
  have hB := Known.start w
  go_enter Try.func42, Try.ntmps42
  go_wp2
  all_goals
    refine bodyPost_ret (v := .agg #[.int .i64 (wrap64 (a - x)), .int .i64 (wrap64 (b - y)), .int .i64 (wrap64 (c - x)), .int .i64 (wrap64 (d - y))]) ?_ rfl ⟨rfl, ?_⟩
    · simp [results, Try.results42, go_sem]
    · repeat (first | exact ext_refl _ | exact hB.below | apply ext_alloc | apply ext_drew | (refine ext_set ?_ ?_; · first | (dsimp only; omega) | (simp; omega) | (simp; done)))

end Go.Proofs.Ytngfknnlojadeaa
