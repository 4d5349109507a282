/-
  The contracts of the reference's functions and of the laws' own helpers that this seat reaches: what each hands back, and that it changes nothing that was there.
  Conditions: only those that a theorem writes out (a divisor that is not 0).
-/
import Derived.Test.YthafdjlgagmfdaaImpl
import Derived.Test.YthafdjlgagmfdaaAlloc
import Derived.Handy
namespace Go.Proofs.Ythafdjlgagmfdaa
open Go.RowKit
set_option linter.unusedSimpArgs false
set_option linter.unusedVariables false
set_option maxHeartbeats 2000000

theorem sLess (a b : Int) (w : World) : Calls Try.prog 46 #[.int .i64 a, .int .i64 b] w (Gives (.tuple #[.int .i64 (lessV a b), .bool (lessOk a b)]) w) := by
  have hB := Known.start w
  go_enter Try.func46, Try.ntmps46
  go_wp2
  all_goals
    refine bodyPost_ret (v := .tuple #[.int .i64 (lessV a b), .bool (lessOk a b)]) ?_ rfl ⟨rfl, ?_⟩
    · first | (simp [results, Try.results46, go_sem, lessV, lessOk, *]; done) | (simp [results, Try.results46, go_sem, lessV, lessOk, *]; omega)
    · repeat (first | exact ext_refl _ | exact hB.below | apply ext_alloc | apply ext_drew | (refine ext_set ?_ ?_; · first | (dsimp only; omega) | (simp; omega) | (simp; done)))

theorem sNone (a b c d : Int) (w : World) : Calls Try.prog 19 #[.agg #[.int .i64 a, .int .i64 b, .int .i64 c, .int .i64 d]] w (Gives (.bool (emptyB a b c d)) w) := by
  have hB := Known.start w
  go_enter Try.func19, Try.ntmps19
  go_wp2
  all_goals
    refine bodyPost_ret (v := .bool (emptyB a b c d)) ?_ rfl ⟨rfl, ?_⟩
    · first | (simp [results, Try.results19, go_sem, emptyB, *]; done) | (simp [results, Try.results19, go_sem, emptyB, *]; omega)
    · repeat (first | exact ext_refl _ | exact hB.below | apply ext_alloc | apply ext_drew | (refine ext_set ?_ ?_; · first | (dsimp only; omega) | (simp; omega) | (simp; done)))

theorem sWellFormed (a b c d : Int) (w : World) : Calls Try.prog 30 #[.agg #[.int .i64 a, .int .i64 b, .int .i64 c, .int .i64 d]] w (Gives (.bool (wfB a b c d)) w) := by
  have hB := Known.start w
  go_enter Try.func30, Try.ntmps30
  go_wp2
  all_goals
    refine bodyPost_ret (v := .bool (wfB a b c d)) ?_ rfl ⟨rfl, ?_⟩
    · first | (simp [results, Try.results30, go_sem, wfB, *]; done) | (simp [results, Try.results30, go_sem, wfB, *]; omega)
    · repeat (first | exact ext_refl _ | exact hB.below | apply ext_alloc | apply ext_drew | (refine ext_set ?_ ?_; · first | (dsimp only; omega) | (simp; omega) | (simp; done)))

theorem sHas (a b c d x y : Int) (w : World) : Calls Try.prog 34 #[.agg #[.int .i64 a, .int .i64 b, .int .i64 c, .int .i64 d], .agg #[.int .i64 x, .int .i64 y]] w (Gives (.bool (inB x y a b c d)) w) := by
  have hB := Known.start w
  go_enter Try.func34, Try.ntmps34
  go_wp2
  all_goals
    refine bodyPost_ret (v := .bool (inB x y a b c d)) ?_ rfl ⟨rfl, ?_⟩
    · first | (simp [results, Try.results34, go_sem, inB, *]; done) | (simp [results, Try.results34, go_sem, inB, *]; omega)
    · repeat (first | exact ext_refl _ | exact hB.below | apply ext_alloc | apply ext_drew | (refine ext_set ?_ ?_; · first | (dsimp only; omega) | (simp; omega) | (simp; done)))

theorem sLesser (a b : Int) (w : World) : Calls Try.prog 41 #[.int .i64 a, .int .i64 b] w (Gives (.int .i64 (min a b)) w) := by
  have hB := Known.start w
  go_enter Try.func41, Try.ntmps41
  go_wp2
  all_goals
    refine bodyPost_ret (v := .int .i64 (min a b)) ?_ rfl ⟨rfl, ?_⟩
    · first | (simp [results, Try.results41, go_sem, Int.min_def, *]; done) | (simp [results, Try.results41, go_sem, Int.min_def, *]; omega)
    · repeat (first | exact ext_refl _ | exact hB.below | apply ext_alloc | apply ext_drew | (refine ext_set ?_ ?_; · first | (dsimp only; omega) | (simp; omega) | (simp; done)))

theorem sGreater (a b : Int) (w : World) : Calls Try.prog 42 #[.int .i64 a, .int .i64 b] w (Gives (.int .i64 (max a b)) w) := by
  have hB := Known.start w
  go_enter Try.func42, Try.ntmps42
  go_wp2
  all_goals
    refine bodyPost_ret (v := .int .i64 (max a b)) ?_ rfl ⟨rfl, ?_⟩
    · first | (simp [results, Try.results42, go_sem, Int.max_def, *]; done) | (simp [results, Try.results42, go_sem, Int.max_def, *]; omega)
    · repeat (first | exact ext_refl _ | exact hB.below | apply ext_alloc | apply ext_drew | (refine ext_set ?_ ?_; · first | (dsimp only; omega) | (simp; omega) | (simp; done)))

theorem sWide (a b c d : Int) (w : World) : Calls Try.prog 29 #[.agg #[.int .i64 a, .int .i64 b, .int .i64 c, .int .i64 d]] w (Gives (.tuple #[.agg #[.int .i64 (lessV c a), .int .i64 (lessV d b)], .bool (lessOk c a && lessOk d b)]) w) := by
  have hB := Known.start w
  go_enter Try.func29, Try.ntmps29
  go_wp2_with (first | (go_at_call 46; refine (sLess _ _ _).mono ?_; rintro e w1 ⟨rfl, hn⟩; (first | with_reducible replace hB := (hB).keep hn | with_reducible replace hB := (hB.alloc).keep hn | with_reducible replace hB := (hB.alloc.alloc).keep hn | with_reducible replace hB := (hB.alloc.alloc.alloc).keep hn | with_reducible replace hB := (hB.alloc.alloc.alloc.alloc).keep hn | with_reducible replace hB := (hB.alloc.alloc.alloc.alloc.alloc).keep hn | with_reducible replace hB := (hB.alloc.alloc.alloc.alloc.alloc.alloc).keep hn | with_reducible replace hB := (((hB.set1 hb1 hb2).set1 hb1 hb2)).keep hn | with_reducible replace hB := (((((hB.set1 hb1 hb2).set1 hb1 hb2).set1 hb1 hb2).set1 hb1 hb2)).keep hn); clear hn; (try clear hR); have hR := hB.rules; simp only [Rules, World.size_alloc, Nat.add_one_le_iff, List.setIfInBounds_toArray, List.set_cons_zero, List.set_cons_succ] at hR))
  all_goals
    refine bodyPost_ret (v := .tuple #[.agg #[.int .i64 (lessV c a), .int .i64 (lessV d b)], .bool (lessOk c a && lessOk d b)]) ?_ rfl ⟨rfl, ?_⟩
    · first | (simp [results, Try.results29, go_sem, hR, *]; done) | (simp [results, Try.results29, go_sem, hR, *]; omega)
    · repeat (first | exact ext_refl _ | exact hB.below | apply ext_alloc | apply ext_drew | (refine ext_set ?_ ?_; · first | (dsimp only; omega) | (simp; omega) | (simp; done)))

theorem sRectIn (a b c d e f g h : Int) (w : World) : Calls Try.prog 26 #[.agg #[.int .i64 a, .int .i64 b, .int .i64 c, .int .i64 d], .agg #[.int .i64 e, .int .i64 f, .int .i64 g, .int .i64 h]] w (Gives (.bool (sinB a b c d e f g h)) w) := by
  have hB := Known.start w
  go_enter Try.func26, Try.ntmps26
  go_wp2_with (first | (go_at_call 19; refine (sNone _ _ _ _ _).mono ?_; rintro e w1 ⟨rfl, hn⟩; (first | with_reducible replace hB := (hB).keep hn | with_reducible replace hB := (hB.alloc).keep hn | with_reducible replace hB := (hB.alloc.alloc).keep hn | with_reducible replace hB := (hB.alloc.alloc.alloc).keep hn | with_reducible replace hB := (hB.alloc.alloc.alloc.alloc).keep hn | with_reducible replace hB := (hB.alloc.alloc.alloc.alloc.alloc).keep hn | with_reducible replace hB := (hB.alloc.alloc.alloc.alloc.alloc.alloc).keep hn | with_reducible replace hB := (((hB.set1 hb1 hb2).set1 hb1 hb2)).keep hn | with_reducible replace hB := (((((hB.set1 hb1 hb2).set1 hb1 hb2).set1 hb1 hb2).set1 hb1 hb2)).keep hn); clear hn; (try clear hR); have hR := hB.rules; simp only [Rules, World.size_alloc, Nat.add_one_le_iff, List.setIfInBounds_toArray, List.set_cons_zero, List.set_cons_succ] at hR) | (go_at_call 34; refine (sHas _ _ _ _ _ _ _).mono ?_; rintro e w1 ⟨rfl, hn⟩; (first | with_reducible replace hB := (hB).keep hn | with_reducible replace hB := (hB.alloc).keep hn | with_reducible replace hB := (hB.alloc.alloc).keep hn | with_reducible replace hB := (hB.alloc.alloc.alloc).keep hn | with_reducible replace hB := (hB.alloc.alloc.alloc.alloc).keep hn | with_reducible replace hB := (hB.alloc.alloc.alloc.alloc.alloc).keep hn | with_reducible replace hB := (hB.alloc.alloc.alloc.alloc.alloc.alloc).keep hn | with_reducible replace hB := (((hB.set1 hb1 hb2).set1 hb1 hb2)).keep hn | with_reducible replace hB := (((((hB.set1 hb1 hb2).set1 hb1 hb2).set1 hb1 hb2).set1 hb1 hb2)).keep hn); clear hn; (try clear hR); have hR := hB.rules; simp only [Rules, World.size_alloc, Nat.add_one_le_iff, List.setIfInBounds_toArray, List.set_cons_zero, List.set_cons_succ] at hR))
  all_goals
    refine bodyPost_ret (v := .bool (sinB a b c d e f g h)) ?_ rfl ⟨rfl, ?_⟩
    · first | (simp [results, Try.results26, go_sem, hR, sinB, *]; done) | (simp [results, Try.results26, go_sem, hR, sinB, *]; omega)
    · repeat (first | exact ext_refl _ | exact hB.below | apply ext_alloc | apply ext_drew | (refine ext_set ?_ ?_; · first | (dsimp only; omega) | (simp; omega) | (simp; done)))

theorem toA4 (a b c d : Int) (w : World) : Calls Try.prog 21 #[.agg #[.int .i64 a, .int .i64 b, .int .i64 c, .int .i64 d]] w (Gives (.agg #[.int .i64 a, .int .i64 b, .int .i64 c, .int .i64 d]) w) := by
  have hB := Known.start w
  go_enter Try.func21, Try.ntmps21
  go_wp2
  go_rounds 5
  refine bodyPost_ret (v := .agg #[.int .i64 a, .int .i64 b, .int .i64 c, .int .i64 d]) ?_ rfl ⟨rfl, ?_⟩
  · simp [results, Try.results21, go_sem]
  · repeat (first | exact ext_refl _ | exact hB.below | apply ext_alloc | apply ext_drew | (refine ext_set ?_ ?_; · first | (dsimp only; omega) | (simp; omega) | (simp; done)))

theorem eqA4 (a b c d e f g h : Int) (w : World) : Calls Try.prog 17 #[.agg #[.int .i64 a, .int .i64 b, .int .i64 c, .int .i64 d], .agg #[.int .i64 e, .int .i64 f, .int .i64 g, .int .i64 h]] w (Gives (.bool (eq4 a b c d e f g h)) w) := by
  have hB := Known.start w
  go_enter Try.func17, Try.ntmps17
  go_wp2
  refine wp_loop_rounds 5 ?_
  repeat any_goals (rw [rounds_succ]; go_wp2; (try ((first | with_reducible refine wp_region_known hB ?hm ?hB ?_ | with_reducible refine wp_region_known hB.alloc ?hm ?hB ?_ | with_reducible refine wp_region_known hB.alloc.alloc ?hm ?hB ?_ | with_reducible refine wp_region_known hB.alloc.alloc.alloc ?hm ?hB ?_ | with_reducible refine wp_region_known hB.alloc.alloc.alloc.alloc ?hm ?hB ?_ | with_reducible refine wp_region_known hB.alloc.alloc.alloc.alloc.alloc ?hm ?hB ?_ | with_reducible refine wp_region_known hB.alloc.alloc.alloc.alloc.alloc.alloc ?hm ?hB ?_); (case hm => kernel_rfl); (case hB => kernel_rfl); (try clear hR); intro hov; simp only [Rules, World.size_alloc, Nat.add_one_le_iff, List.setIfInBounds_toArray, List.set_cons_zero, List.set_cons_succ] at hov; (repeat (go_big_quiet_step (fail))); refine wpQuiet_nil ?_; intro wx hB; clear hov; have hR := hB.rules; simp only [Rules, World.size_alloc, Nat.add_one_le_iff, List.setIfInBounds_toArray, List.set_cons_zero, List.set_cons_succ] at hR; go_wp2)))
  all_goals
    refine bodyPost_ret (v := .bool (eq4 a b c d e f g h)) ?_ rfl ⟨rfl, ?_⟩
    · first | (simp [results, Try.results17, go_sem, eq4, *]; done) | (simp_all [results, Try.results17, go_sem, eq4]; done)
    · repeat (first | exact ext_refl _ | exact hB.below | apply ext_alloc | apply ext_drew | (refine ext_set ?_ ?_; · first | (dsimp only; omega) | (simp; omega) | (simp; done)))

theorem sRectCanon (a b c d : Int) (w : World) : Calls Try.prog 24 #[.agg #[.int .i64 a, .int .i64 b, .int .i64 c, .int .i64 d]] w (Gives (.agg #[.int .i64 ((canon a b c d).a), .int .i64 ((canon a b c d).b), .int .i64 ((canon a b c d).c), .int .i64 ((canon a b c d).d)]) w) := by
  have hB := Known.start w
  go_enter Try.func24, Try.ntmps24
  go_wp2
  (first | with_reducible refine wp_region_known_tail hB 21 ?hm ?hB ?_ | with_reducible refine wp_region_known_tail hB.alloc 21 ?hm ?hB ?_ | with_reducible refine wp_region_known_tail hB.alloc.alloc 21 ?hm ?hB ?_ | with_reducible refine wp_region_known_tail hB.alloc.alloc.alloc 21 ?hm ?hB ?_ | with_reducible refine wp_region_known_tail hB.alloc.alloc.alloc.alloc 21 ?hm ?hB ?_ | with_reducible refine wp_region_known_tail hB.alloc.alloc.alloc.alloc.alloc 21 ?hm ?hB ?_ | with_reducible refine wp_region_known_tail hB.alloc.alloc.alloc.alloc.alloc.alloc 21 ?hm ?hB ?_); (case hm => kernel_rfl); (case hB => kernel_rfl); (try clear hR); intro hov; simp only [Rules, World.size_alloc, Nat.add_one_le_iff, List.setIfInBounds_toArray, List.set_cons_zero, List.set_cons_succ] at hov; simp only [List.take_succ_cons, List.take_zero, List.drop_succ_cons, List.drop_zero]
  repeat (go_big_quiet_step (first | (go_at_call 42; exact Calls.over _ (sGreater _ _ _)) | (go_at_call 41; exact Calls.over _ (sLesser _ _ _))))
  refine wpQuiet_nil ?_; intro wx hB; clear hov; have hR := hB.rules; simp only [Rules, World.size_alloc, Nat.add_one_le_iff, List.setIfInBounds_toArray, List.set_cons_zero, List.set_cons_succ] at hR
  go_wp2
  refine bodyPost_ret (v := .agg #[.int .i64 ((canon a b c d).a), .int .i64 ((canon a b c d).b), .int .i64 ((canon a b c d).c), .int .i64 ((canon a b c d).d)]) ?_ rfl ⟨rfl, ?_⟩
  · (simp [results, Try.results24, go_sem, hR, canon]; done)
  · repeat (first | exact ext_refl _ | exact hB.below | apply ext_alloc | apply ext_drew | (refine ext_set ?_ ?_; · first | (dsimp only; omega) | (simp; omega) | (simp; done)))

theorem sNewRect (a b c d : Int) (w : World) : Calls Try.prog 15 #[.int .i64 a, .int .i64 b, .int .i64 c, .int .i64 d] w (Gives (.agg #[.int .i64 ((canon a b c d).a), .int .i64 ((canon a b c d).b), .int .i64 ((canon a b c d).c), .int .i64 ((canon a b c d).d)]) w) := by
  have hB := Known.start w
  go_enter Try.func15, Try.ntmps15
  go_wp2_with (first | (go_at_call 24; refine (sRectCanon _ _ _ _ _).mono ?_; rintro e w1 ⟨rfl, hn⟩; (first | with_reducible replace hB := (hB).keep hn | with_reducible replace hB := (hB.alloc).keep hn | with_reducible replace hB := (hB.alloc.alloc).keep hn | with_reducible replace hB := (hB.alloc.alloc.alloc).keep hn | with_reducible replace hB := (hB.alloc.alloc.alloc.alloc).keep hn | with_reducible replace hB := (hB.alloc.alloc.alloc.alloc.alloc).keep hn | with_reducible replace hB := (hB.alloc.alloc.alloc.alloc.alloc.alloc).keep hn | with_reducible replace hB := (((hB.set1 hb1 hb2).set1 hb1 hb2)).keep hn | with_reducible replace hB := (((((hB.set1 hb1 hb2).set1 hb1 hb2).set1 hb1 hb2).set1 hb1 hb2)).keep hn); clear hn; (try clear hR); have hR := hB.rules; simp only [Rules, World.size_alloc, Nat.add_one_le_iff, List.setIfInBounds_toArray, List.set_cons_zero, List.set_cons_succ] at hR))
  all_goals
    refine bodyPost_ret (v := .agg #[.int .i64 ((canon a b c d).a), .int .i64 ((canon a b c d).b), .int .i64 ((canon a b c d).c), .int .i64 ((canon a b c d).d)]) ?_ rfl ⟨rfl, ?_⟩
    · first | (simp [results, Try.results15, go_sem, hR, *]; done) | (simp [results, Try.results15, go_sem, hR, *]; omega)
    · repeat (first | exact ext_refl _ | exact hB.below | apply ext_alloc | apply ext_drew | (refine ext_set ?_ ?_; · first | (dsimp only; omega) | (simp; omega) | (simp; done)))

theorem sRectIntersect (a b c d e f g h : Int) (w : World) : Calls Try.prog 39 #[.agg #[.int .i64 a, .int .i64 b, .int .i64 c, .int .i64 d], .agg #[.int .i64 e, .int .i64 f, .int .i64 g, .int .i64 h]] w (Gives (.agg #[.int .i64 ((isect a b c d e f g h).a), .int .i64 ((isect a b c d e f g h).b), .int .i64 ((isect a b c d e f g h).c), .int .i64 ((isect a b c d e f g h).d)]) w) := by
  cases hE : emptyB (max a e) (max b f) (min c g) (min d h)
  all_goals
    have hB := Known.start w
    go_enter Try.func39, Try.ntmps39
    go_wp2
    (first | with_reducible refine wp_region_known_alloc hB 21 5 22 #[.int .i64 0, .int .i64 0, .int .i64 0, .int .i64 0] (g := 0) Try.func0 ?hr ?hi ?hm ?hB ?hz ?_ | with_reducible refine wp_region_known_alloc hB.alloc 21 5 22 #[.int .i64 0, .int .i64 0, .int .i64 0, .int .i64 0] (g := 0) Try.func0 ?hr ?hi ?hm ?hB ?hz ?_ | with_reducible refine wp_region_known_alloc hB.alloc.alloc 21 5 22 #[.int .i64 0, .int .i64 0, .int .i64 0, .int .i64 0] (g := 0) Try.func0 ?hr ?hi ?hm ?hB ?hz ?_ | with_reducible refine wp_region_known_alloc hB.alloc.alloc.alloc 21 5 22 #[.int .i64 0, .int .i64 0, .int .i64 0, .int .i64 0] (g := 0) Try.func0 ?hr ?hi ?hm ?hB ?hz ?_ | with_reducible refine wp_region_known_alloc hB.alloc.alloc.alloc.alloc 21 5 22 #[.int .i64 0, .int .i64 0, .int .i64 0, .int .i64 0] (g := 0) Try.func0 ?hr ?hi ?hm ?hB ?hz ?_ | with_reducible refine wp_region_known_alloc hB.alloc.alloc.alloc.alloc.alloc 21 5 22 #[.int .i64 0, .int .i64 0, .int .i64 0, .int .i64 0] (g := 0) Try.func0 ?hr ?hi ?hm ?hB ?hz ?_ | with_reducible refine wp_region_known_alloc hB.alloc.alloc.alloc.alloc.alloc.alloc 21 5 22 #[.int .i64 0, .int .i64 0, .int .i64 0, .int .i64 0] (g := 0) Try.func0 ?hr ?hi ?hm ?hB ?hz ?_); (case hr => kernel_rfl); (case hi => kernel_rfl); (case hm => kernel_rfl); (case hB => kernel_rfl); (case hz => (intro o ho; simp only [List.getElem?_cons_succ, List.getElem?_cons_zero, Option.some.injEq] at ho; subst ho; intro ρ wz; go_simp)); (try clear hR); (try clear hb3 hb4); (try clear hb1 hb2); intro W hW hov; simp only [Rules, World.size_alloc, Nat.add_one_le_iff, List.setIfInBounds_toArray, List.set_cons_zero, List.set_cons_succ] at hov; simp only [List.take_succ_cons, List.take_zero, List.drop_succ_cons, List.drop_zero]; (repeat (go_big_quiet_step (first | (go_at_call 42; exact Calls.over _ (sGreater _ _ _)) | (go_at_call 41; exact Calls.over _ (sLesser _ _ _))))); refine wpQuiet_nil ?_; intro bn wx hb1 hb2 hB; clear hov hW; have hb3 := hb2; simp only [List.mem_cons, List.not_mem_nil, or_false, forall_eq_or_imp, forall_eq, World.size_alloc, ne_eq] at hb3; have hb4 := hb3; simp only [@eq_comm Nat _ bn] at hb4; have hR := hB.rules; simp only [Rules, World.size_alloc, Nat.add_one_le_iff, List.setIfInBounds_toArray, List.set_cons_zero, List.set_cons_succ] at hR; simp only [Act.put, List.setIfInBounds_toArray, List.set_cons_zero, List.set_cons_succ]
    go_wp2_with (first | (go_at_call 19; refine (sNone _ _ _ _ _).mono ?_; rintro e w1 ⟨rfl, hn⟩; (first | with_reducible replace hB := (hB).keep hn | with_reducible replace hB := (hB.alloc).keep hn | with_reducible replace hB := (hB.alloc.alloc).keep hn | with_reducible replace hB := (hB.alloc.alloc.alloc).keep hn | with_reducible replace hB := (hB.alloc.alloc.alloc.alloc).keep hn | with_reducible replace hB := (hB.alloc.alloc.alloc.alloc.alloc).keep hn | with_reducible replace hB := (hB.alloc.alloc.alloc.alloc.alloc.alloc).keep hn | with_reducible replace hB := (((hB.set1 hb1 hb2).set1 hb1 hb2)).keep hn | with_reducible replace hB := (((((hB.set1 hb1 hb2).set1 hb1 hb2).set1 hb1 hb2).set1 hb1 hb2)).keep hn); clear hn; (try clear hR); have hR := hB.rules; simp only [Rules, World.size_alloc, Nat.add_one_le_iff, List.setIfInBounds_toArray, List.set_cons_zero, List.set_cons_succ] at hR))
    refine bodyPost_ret (v := .agg #[.int .i64 ((isect a b c d e f g h).a), .int .i64 ((isect a b c d e f g h).b), .int .i64 ((isect a b c d e f g h).c), .int .i64 ((isect a b c d e f g h).d)]) ?_ rfl ⟨rfl, ?_⟩
    · (simp [results, Try.results39, go_sem, hR, isect, hE]; done)
    · repeat (first | exact ext_refl _ | exact hB.below | apply ext_alloc | apply ext_drew | (refine ext_set ?_ ?_; · first | (dsimp only; omega) | (simp; omega) | (simp; done)))

theorem sRectOverlaps (a b c d e f g h : Int) (w : World) : Calls Try.prog 22 #[.agg #[.int .i64 a, .int .i64 b, .int .i64 c, .int .i64 d], .agg #[.int .i64 e, .int .i64 f, .int .i64 g, .int .i64 h]] w (Gives (.bool (!emptyB (isect a b c d e f g h).a (isect a b c d e f g h).b (isect a b c d e f g h).c (isect a b c d e f g h).d)) w) := by
  have hB := Known.start w
  go_enter Try.func22, Try.ntmps22
  go_wp2_with (first | (go_at_call 39; refine (sRectIntersect _ _ _ _ _ _ _ _ _).mono ?_; rintro e w1 ⟨rfl, hn⟩; (first | with_reducible replace hB := (hB).keep hn | with_reducible replace hB := (hB.alloc).keep hn | with_reducible replace hB := (hB.alloc.alloc).keep hn | with_reducible replace hB := (hB.alloc.alloc.alloc).keep hn | with_reducible replace hB := (hB.alloc.alloc.alloc.alloc).keep hn | with_reducible replace hB := (hB.alloc.alloc.alloc.alloc.alloc).keep hn | with_reducible replace hB := (hB.alloc.alloc.alloc.alloc.alloc.alloc).keep hn | with_reducible replace hB := (((hB.set1 hb1 hb2).set1 hb1 hb2)).keep hn | with_reducible replace hB := (((((hB.set1 hb1 hb2).set1 hb1 hb2).set1 hb1 hb2).set1 hb1 hb2)).keep hn); clear hn; (try clear hR); have hR := hB.rules; simp only [Rules, World.size_alloc, Nat.add_one_le_iff, List.setIfInBounds_toArray, List.set_cons_zero, List.set_cons_succ] at hR) | (go_at_call 19; refine (sNone _ _ _ _ _).mono ?_; rintro e w1 ⟨rfl, hn⟩; (first | with_reducible replace hB := (hB).keep hn | with_reducible replace hB := (hB.alloc).keep hn | with_reducible replace hB := (hB.alloc.alloc).keep hn | with_reducible replace hB := (hB.alloc.alloc.alloc).keep hn | with_reducible replace hB := (hB.alloc.alloc.alloc.alloc).keep hn | with_reducible replace hB := (hB.alloc.alloc.alloc.alloc.alloc).keep hn | with_reducible replace hB := (hB.alloc.alloc.alloc.alloc.alloc.alloc).keep hn | with_reducible replace hB := (((hB.set1 hb1 hb2).set1 hb1 hb2)).keep hn | with_reducible replace hB := (((((hB.set1 hb1 hb2).set1 hb1 hb2).set1 hb1 hb2).set1 hb1 hb2)).keep hn); clear hn; (try clear hR); have hR := hB.rules; simp only [Rules, World.size_alloc, Nat.add_one_le_iff, List.setIfInBounds_toArray, List.set_cons_zero, List.set_cons_succ] at hR))
  all_goals
    refine bodyPost_ret (v := .bool (!emptyB (isect a b c d e f g h).a (isect a b c d e f g h).b (isect a b c d e f g h).c (isect a b c d e f g h).d)) ?_ rfl ⟨rfl, ?_⟩
    · first | (simp [results, Try.results22, go_sem, hR, *]; done) | (simp [results, Try.results22, go_sem, hR, *]; omega)
    · repeat (first | exact ext_refl _ | exact hB.below | apply ext_alloc | apply ext_drew | (refine ext_set ?_ ?_; · first | (dsimp only; omega) | (simp; omega) | (simp; done)))

theorem sRectEq (a b c d e f g h : Int) (w : World) : Calls Try.prog 20 #[.agg #[.int .i64 a, .int .i64 b, .int .i64 c, .int .i64 d], .agg #[.int .i64 e, .int .i64 f, .int .i64 g, .int .i64 h]] w (Gives (.bool (sinB a b c d e f g h && sinB e f g h a b c d)) w) := by
  have hB := Known.start w
  go_enter Try.func20, Try.ntmps20
  go_wp2_with (first | (go_at_call 26; refine (sRectIn _ _ _ _ _ _ _ _ _).mono ?_; rintro e w1 ⟨rfl, hn⟩; (first | with_reducible replace hB := (hB).keep hn | with_reducible replace hB := (hB.alloc).keep hn | with_reducible replace hB := (hB.alloc.alloc).keep hn | with_reducible replace hB := (hB.alloc.alloc.alloc).keep hn | with_reducible replace hB := (hB.alloc.alloc.alloc.alloc).keep hn | with_reducible replace hB := (hB.alloc.alloc.alloc.alloc.alloc).keep hn | with_reducible replace hB := (hB.alloc.alloc.alloc.alloc.alloc.alloc).keep hn | with_reducible replace hB := (((hB.set1 hb1 hb2).set1 hb1 hb2)).keep hn | with_reducible replace hB := (((((hB.set1 hb1 hb2).set1 hb1 hb2).set1 hb1 hb2).set1 hb1 hb2)).keep hn); clear hn; (try clear hR); have hR := hB.rules; simp only [Rules, World.size_alloc, Nat.add_one_le_iff, List.setIfInBounds_toArray, List.set_cons_zero, List.set_cons_succ] at hR))
  all_goals
    refine bodyPost_ret (v := .bool (sinB a b c d e f g h && sinB e f g h a b c d)) ?_ rfl ⟨rfl, ?_⟩
    · first | (simp [results, Try.results20, go_sem, hR, *]; done) | (simp [results, Try.results20, go_sem, hR, *]; omega)
    · repeat (first | exact ext_refl _ | exact hB.below | apply ext_alloc | apply ext_drew | (refine ext_set ?_ ?_; · first | (dsimp only; omega) | (simp; omega) | (simp; done)))

end Go.Proofs.Ythafdjlgagmfdaa
