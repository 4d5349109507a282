/-
  The contracts of the reference's functions and of the laws' own helpers that this seat reaches: what each hands back, and that it changes nothing that was there.
  Conditions: only those that a theorem writes out (a divisor that is not 0).
-/
import Derived.Test.YtakfghkbdijbiaaImpl
import Derived.Test.YtakfghkbdijbiaaAlloc
import Derived.Handy
namespace Go.Proofs.Ytakfghkbdijbiaa
open Go.RowKit
set_option linter.unusedSimpArgs false
set_option linter.unusedVariables false
set_option maxHeartbeats 2000000

theorem sNone (a b c d : Int) (w : World) : Calls Try.prog 27 #[.agg #[.int .i64 a, .int .i64 b, .int .i64 c, .int .i64 d]] w (Gives (.bool (emptyB a b c d)) w) := by
  have hB := Known.start w
  go_enter Try.func27, Try.ntmps27
  go_wp2
  all_goals
    refine bodyPost_ret (v := .bool (emptyB a b c d)) ?_ rfl ⟨rfl, ?_⟩
    · first | (simp [results, Try.results27, go_sem, emptyB, *]; done) | (simp [results, Try.results27, go_sem, emptyB, *]; omega)
    · repeat (first | exact ext_refl _ | exact hB.below | apply ext_alloc | apply ext_drew | (refine ext_set ?_ ?_; · first | (dsimp only; omega) | (simp; omega) | (simp; done)))

theorem sWellFormed (a b c d : Int) (w : World) : Calls Try.prog 34 #[.agg #[.int .i64 a, .int .i64 b, .int .i64 c, .int .i64 d]] w (Gives (.bool (wfB a b c d)) w) := by
  have hB := Known.start w
  go_enter Try.func34, Try.ntmps34
  go_wp2
  all_goals
    refine bodyPost_ret (v := .bool (wfB a b c d)) ?_ rfl ⟨rfl, ?_⟩
    · first | (simp [results, Try.results34, go_sem, wfB, *]; done) | (simp [results, Try.results34, go_sem, wfB, *]; omega)
    · repeat (first | exact ext_refl _ | exact hB.below | apply ext_alloc | apply ext_drew | (refine ext_set ?_ ?_; · first | (dsimp only; omega) | (simp; omega) | (simp; done)))

theorem sHas (a b c d x y : Int) (w : World) : Calls Try.prog 59 #[.agg #[.int .i64 a, .int .i64 b, .int .i64 c, .int .i64 d], .agg #[.int .i64 x, .int .i64 y]] w (Gives (.bool (inB x y a b c d)) w) := by
  have hB := Known.start w
  go_enter Try.func59, Try.ntmps59
  go_wp2
  all_goals
    refine bodyPost_ret (v := .bool (inB x y a b c d)) ?_ rfl ⟨rfl, ?_⟩
    · first | (simp [results, Try.results59, go_sem, inB, *]; done) | (simp [results, Try.results59, go_sem, inB, *]; omega)
    · repeat (first | exact ext_refl _ | exact hB.below | apply ext_alloc | apply ext_drew | (refine ext_set ?_ ?_; · first | (dsimp only; omega) | (simp; omega) | (simp; done)))

theorem sLesser (a b : Int) (w : World) : Calls Try.prog 61 #[.int .i64 a, .int .i64 b] w (Gives (.int .i64 (min a b)) w) := by
  have hB := Known.start w
  go_enter Try.func61, Try.ntmps61
  go_wp2
  all_goals
    refine bodyPost_ret (v := .int .i64 (min a b)) ?_ rfl ⟨rfl, ?_⟩
    · first | (simp [results, Try.results61, go_sem, Int.min_def, *]; done) | (simp [results, Try.results61, go_sem, Int.min_def, *]; omega)
    · repeat (first | exact ext_refl _ | exact hB.below | apply ext_alloc | apply ext_drew | (refine ext_set ?_ ?_; · first | (dsimp only; omega) | (simp; omega) | (simp; done)))

theorem sGreater (a b : Int) (w : World) : Calls Try.prog 60 #[.int .i64 a, .int .i64 b] w (Gives (.int .i64 (max a b)) w) := by
  have hB := Known.start w
  go_enter Try.func60, Try.ntmps60
  go_wp2
  all_goals
    refine bodyPost_ret (v := .int .i64 (max a b)) ?_ rfl ⟨rfl, ?_⟩
    · first | (simp [results, Try.results60, go_sem, Int.max_def, *]; done) | (simp [results, Try.results60, go_sem, Int.max_def, *]; omega)
    · repeat (first | exact ext_refl _ | exact hB.below | apply ext_alloc | apply ext_drew | (refine ext_set ?_ ?_; · first | (dsimp only; omega) | (simp; omega) | (simp; done)))

theorem sRectIn (a b c d e f g h : Int) (w : World) : Calls Try.prog 32 #[.agg #[.int .i64 a, .int .i64 b, .int .i64 c, .int .i64 d], .agg #[.int .i64 e, .int .i64 f, .int .i64 g, .int .i64 h]] w (Gives (.bool (sinB a b c d e f g h)) w) := by
  have hB := Known.start w
  go_enter Try.func32, Try.ntmps32
  go_wp2_with (first | (go_at_call 27; refine (sNone _ _ _ _ _).mono ?_; rintro e w1 ⟨rfl, hn⟩; (first | with_reducible replace hB := (hB).keep hn | with_reducible replace hB := (hB.alloc).keep hn | with_reducible replace hB := (hB.alloc.alloc).keep hn | with_reducible replace hB := (hB.alloc.alloc.alloc).keep hn | with_reducible replace hB := (hB.alloc.alloc.alloc.alloc).keep hn | with_reducible replace hB := (hB.alloc.alloc.alloc.alloc.alloc).keep hn | with_reducible replace hB := (hB.alloc.alloc.alloc.alloc.alloc.alloc).keep hn | with_reducible replace hB := (((hB.set1 hb1 hb2).set1 hb1 hb2)).keep hn | with_reducible replace hB := (((((hB.set1 hb1 hb2).set1 hb1 hb2).set1 hb1 hb2).set1 hb1 hb2)).keep hn); clear hn; (try clear hR); have hR := hB.rules; simp only [Rules, World.size_alloc, Nat.add_one_le_iff, List.setIfInBounds_toArray, List.set_cons_zero, List.set_cons_succ] at hR) | (go_at_call 59; refine (sHas _ _ _ _ _ _ _).mono ?_; rintro e w1 ⟨rfl, hn⟩; (first | with_reducible replace hB := (hB).keep hn | with_reducible replace hB := (hB.alloc).keep hn | with_reducible replace hB := (hB.alloc.alloc).keep hn | with_reducible replace hB := (hB.alloc.alloc.alloc).keep hn | with_reducible replace hB := (hB.alloc.alloc.alloc.alloc).keep hn | with_reducible replace hB := (hB.alloc.alloc.alloc.alloc.alloc).keep hn | with_reducible replace hB := (hB.alloc.alloc.alloc.alloc.alloc.alloc).keep hn | with_reducible replace hB := (((hB.set1 hb1 hb2).set1 hb1 hb2)).keep hn | with_reducible replace hB := (((((hB.set1 hb1 hb2).set1 hb1 hb2).set1 hb1 hb2).set1 hb1 hb2)).keep hn); clear hn; (try clear hR); have hR := hB.rules; simp only [Rules, World.size_alloc, Nat.add_one_le_iff, List.setIfInBounds_toArray, List.set_cons_zero, List.set_cons_succ] at hR))
  all_goals
    refine bodyPost_ret (v := .bool (sinB a b c d e f g h)) ?_ rfl ⟨rfl, ?_⟩
    · first | (simp [results, Try.results32, go_sem, hR, sinB, *]; done) | (simp [results, Try.results32, go_sem, hR, sinB, *]; omega)
    · repeat (first | exact ext_refl _ | exact hB.below | apply ext_alloc | apply ext_drew | (refine ext_set ?_ ?_; · first | (dsimp only; omega) | (simp; omega) | (simp; done)))

theorem sRectIntersect (a b c d e f g h : Int) (w : World) : Calls Try.prog 33 #[.agg #[.int .i64 a, .int .i64 b, .int .i64 c, .int .i64 d], .agg #[.int .i64 e, .int .i64 f, .int .i64 g, .int .i64 h]] w (Gives (.agg #[.int .i64 ((isect a b c d e f g h).a), .int .i64 ((isect a b c d e f g h).b), .int .i64 ((isect a b c d e f g h).c), .int .i64 ((isect a b c d e f g h).d)]) w) := by
  cases hE : emptyB (max a e) (max b f) (min c g) (min d h)
  all_goals
    have hB := Known.start w
    go_enter Try.func33, Try.ntmps33
    go_wp2
    (first | with_reducible refine wp_region_known_alloc hB 21 5 22 #[.int .i64 0, .int .i64 0, .int .i64 0, .int .i64 0] (g := 0) Try.func0 ?hr ?hi ?hm ?hB ?hz ?_ | with_reducible refine wp_region_known_alloc hB.alloc 21 5 22 #[.int .i64 0, .int .i64 0, .int .i64 0, .int .i64 0] (g := 0) Try.func0 ?hr ?hi ?hm ?hB ?hz ?_ | with_reducible refine wp_region_known_alloc hB.alloc.alloc 21 5 22 #[.int .i64 0, .int .i64 0, .int .i64 0, .int .i64 0] (g := 0) Try.func0 ?hr ?hi ?hm ?hB ?hz ?_ | with_reducible refine wp_region_known_alloc hB.alloc.alloc.alloc 21 5 22 #[.int .i64 0, .int .i64 0, .int .i64 0, .int .i64 0] (g := 0) Try.func0 ?hr ?hi ?hm ?hB ?hz ?_ | with_reducible refine wp_region_known_alloc hB.alloc.alloc.alloc.alloc 21 5 22 #[.int .i64 0, .int .i64 0, .int .i64 0, .int .i64 0] (g := 0) Try.func0 ?hr ?hi ?hm ?hB ?hz ?_ | with_reducible refine wp_region_known_alloc hB.alloc.alloc.alloc.alloc.alloc 21 5 22 #[.int .i64 0, .int .i64 0, .int .i64 0, .int .i64 0] (g := 0) Try.func0 ?hr ?hi ?hm ?hB ?hz ?_ | with_reducible refine wp_region_known_alloc hB.alloc.alloc.alloc.alloc.alloc.alloc 21 5 22 #[.int .i64 0, .int .i64 0, .int .i64 0, .int .i64 0] (g := 0) Try.func0 ?hr ?hi ?hm ?hB ?hz ?_); (case hr => kernel_rfl); (case hi => kernel_rfl); (case hm => kernel_rfl); (case hB => kernel_rfl); (case hz => (intro o ho; simp only [List.getElem?_cons_succ, List.getElem?_cons_zero, Option.some.injEq] at ho; subst ho; intro ρ wz; go_simp)); (try clear hR); (try clear hb3 hb4); (try clear hb1 hb2); intro W hW hov; simp only [Rules, World.size_alloc, Nat.add_one_le_iff, List.setIfInBounds_toArray, List.set_cons_zero, List.set_cons_succ] at hov; simp only [List.take_succ_cons, List.take_zero, List.drop_succ_cons, List.drop_zero]; (repeat (go_big_quiet_step (first | (go_at_call 60; exact Calls.over _ (sGreater _ _ _)) | (go_at_call 61; exact Calls.over _ (sLesser _ _ _))))); refine wpQuiet_nil ?_; intro bn wx hb1 hb2 hB; clear hov hW; have hb3 := hb2; simp only [List.mem_cons, List.not_mem_nil, or_false, forall_eq_or_imp, forall_eq, World.size_alloc, ne_eq] at hb3; have hb4 := hb3; simp only [@eq_comm Nat _ bn] at hb4; have hR := hB.rules; simp only [Rules, World.size_alloc, Nat.add_one_le_iff, List.setIfInBounds_toArray, List.set_cons_zero, List.set_cons_succ] at hR; simp only [Act.put, List.setIfInBounds_toArray, List.set_cons_zero, List.set_cons_succ]
    go_wp2_with (first | (go_at_call 27; refine (sNone _ _ _ _ _).mono ?_; rintro e w1 ⟨rfl, hn⟩; (first | with_reducible replace hB := (hB).keep hn | with_reducible replace hB := (hB.alloc).keep hn | with_reducible replace hB := (hB.alloc.alloc).keep hn | with_reducible replace hB := (hB.alloc.alloc.alloc).keep hn | with_reducible replace hB := (hB.alloc.alloc.alloc.alloc).keep hn | with_reducible replace hB := (hB.alloc.alloc.alloc.alloc.alloc).keep hn | with_reducible replace hB := (hB.alloc.alloc.alloc.alloc.alloc.alloc).keep hn | with_reducible replace hB := (((hB.set1 hb1 hb2).set1 hb1 hb2)).keep hn | with_reducible replace hB := (((((hB.set1 hb1 hb2).set1 hb1 hb2).set1 hb1 hb2).set1 hb1 hb2)).keep hn); clear hn; (try clear hR); have hR := hB.rules; simp only [Rules, World.size_alloc, Nat.add_one_le_iff, List.setIfInBounds_toArray, List.set_cons_zero, List.set_cons_succ] at hR))
    refine bodyPost_ret (v := .agg #[.int .i64 ((isect a b c d e f g h).a), .int .i64 ((isect a b c d e f g h).b), .int .i64 ((isect a b c d e f g h).c), .int .i64 ((isect a b c d e f g h).d)]) ?_ rfl ⟨rfl, ?_⟩
    · (simp [results, Try.results33, go_sem, hR, isect, hE]; done)
    · repeat (first | exact ext_refl _ | exact hB.below | apply ext_alloc | apply ext_drew | (refine ext_set ?_ ?_; · first | (dsimp only; omega) | (simp; omega) | (simp; done)))

end Go.Proofs.Ytakfghkbdijbiaa
