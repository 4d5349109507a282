/-
  The contracts of the library's functions that this seat reaches (image.Pt, image.Rect, the methods of Point and Rectangle) and of the thin package's four converters: what each hands back, and that it changes nothing that was there.
  Conditions: only those that a theorem writes out (a divisor that is not 0).
-/
import Derived.Test.YthafdjlgagmfdaaPlain
namespace Go.Proofs.Ythafdjlgagmfdaa
open Go.RowKit
set_option linter.unusedSimpArgs false
set_option linter.unusedVariables false
set_option maxHeartbeats 2000000

theorem point_any (a b : Int) (w : World) : Calls Try.prog 49 #[.agg #[.int .i64 a, .int .i64 b]] w (Gives (.agg #[.int .i64 a, .int .i64 b]) w) := by
  have hB := Known.start w
  go_enter Try.func49, Try.ntmps49
  go_wp2
  all_goals
    refine bodyPost_ret (v := .agg #[.int .i64 a, .int .i64 b]) ?_ rfl ⟨rfl, ?_⟩
    · simp [results, Try.results49, go_sem]
    · repeat (first | exact ext_refl _ | exact hB.below | apply ext_alloc | apply ext_drew | (refine ext_set ?_ ?_; · first | (dsimp only; omega) | (simp; omega) | (simp; done)))

theorem rectangle_any (a b c d : Int) (w : World) : Calls Try.prog 37 #[.agg #[.int .i64 a, .int .i64 b, .int .i64 c, .int .i64 d]] w (Gives (.agg #[.int .i64 a, .int .i64 b, .int .i64 c, .int .i64 d]) w) := by
  have hB := Known.start w
  go_enter Try.func37, Try.ntmps37
  go_wp2
  (first | with_reducible refine wp_region_known_tail hB 13 ?hm ?hB ?_ | with_reducible refine wp_region_known_tail hB.alloc 13 ?hm ?hB ?_ | with_reducible refine wp_region_known_tail hB.alloc.alloc 13 ?hm ?hB ?_ | with_reducible refine wp_region_known_tail hB.alloc.alloc.alloc 13 ?hm ?hB ?_ | with_reducible refine wp_region_known_tail hB.alloc.alloc.alloc.alloc 13 ?hm ?hB ?_ | with_reducible refine wp_region_known_tail hB.alloc.alloc.alloc.alloc.alloc 13 ?hm ?hB ?_ | with_reducible refine wp_region_known_tail hB.alloc.alloc.alloc.alloc.alloc.alloc 13 ?hm ?hB ?_); (case hm => kernel_rfl); (case hB => kernel_rfl); (try clear hR); intro hov; simp only [Rules, World.size_alloc, Nat.add_one_le_iff, List.setIfInBounds_toArray, List.set_cons_zero, List.set_cons_succ] at hov; simp only [List.take_succ_cons, List.take_zero, List.drop_succ_cons, List.drop_zero]
  repeat (go_big_quiet_step ((go_at_call 49; exact Calls.over _ (point_any _ _ _))))
  refine wpQuiet_nil ?_; intro wx hB; clear hov; have hR := hB.rules; simp only [Rules, World.size_alloc, Nat.add_one_le_iff, List.setIfInBounds_toArray, List.set_cons_zero, List.set_cons_succ] at hR
  go_wp2
  refine bodyPost_ret (v := .agg #[.int .i64 a, .int .i64 b, .int .i64 c, .int .i64 d]) ?_ rfl ⟨rfl, ?_⟩
  · simp [results, Try.results37, go_sem, hR]
  · repeat (first | exact ext_refl _ | exact hB.below | apply ext_alloc | apply ext_drew | (refine ext_set ?_ ?_; · first | (dsimp only; omega) | (simp; omega) | (simp; done)))

theorem four_any (a b c d : Int) (w : World) : Calls Try.prog 35 #[.agg #[.int .i64 a, .int .i64 b, .int .i64 c, .int .i64 d]] w (Gives (.agg #[.int .i64 a, .int .i64 b, .int .i64 c, .int .i64 d]) w) := by
  have hB := Known.start w
  go_enter Try.func35, Try.ntmps35
  go_wp2
  all_goals
    refine bodyPost_ret (v := .agg #[.int .i64 a, .int .i64 b, .int .i64 c, .int .i64 d]) ?_ rfl ⟨rfl, ?_⟩
    · simp [results, Try.results35, go_sem]
    · repeat (first | exact ext_refl _ | exact hB.below | apply ext_alloc | apply ext_drew | (refine ext_set ?_ ?_; · first | (dsimp only; omega) | (simp; omega) | (simp; done)))

theorem pin_any (x y a b c d : Int) (w : World) : Calls Try.prog 50 #[.agg #[.int .i64 x, .int .i64 y], .agg #[.int .i64 a, .int .i64 b, .int .i64 c, .int .i64 d]] w (Gives (.bool (inB x y a b c d)) w) := by
  have hB := Known.start w
  go_enter Try.func50, Try.ntmps50
  go_wp2
  all_goals
    refine bodyPost_ret (v := .bool (inB x y a b c d)) ?_ rfl ⟨rfl, ?_⟩
    · first | (simp [results, Try.results50, go_sem]; done) | (simp [results, Try.results50, go_sem]; simp [inB, *]; done) | (simp [results, Try.results50, go_sem, inB, *]; done) | (simp [results, Try.results50, go_sem, inB, *]; omega)
    · repeat (first | exact ext_refl _ | exact hB.below | apply ext_alloc | apply ext_drew | (refine ext_set ?_ ?_; · first | (dsimp only; omega) | (simp; omega) | (simp; done)))

theorem empty_any (a b c d : Int) (w : World) : Calls Try.prog 45 #[.agg #[.int .i64 a, .int .i64 b, .int .i64 c, .int .i64 d]] w (Gives (.bool (emptyB a b c d)) w) := by
  have hB := Known.start w
  go_enter Try.func45, Try.ntmps45
  go_wp2
  all_goals
    refine bodyPost_ret (v := .bool (emptyB a b c d)) ?_ rfl ⟨rfl, ?_⟩
    · first | (simp [results, Try.results45, go_sem, emptyB, *]; done) | (simp [results, Try.results45, go_sem, emptyB, *]; omega)
    · repeat (first | exact ext_refl _ | exact hB.below | apply ext_alloc | apply ext_drew | (refine ext_set ?_ ?_; · first | (dsimp only; omega) | (simp; omega) | (simp; done)))

theorem dx_any (a b c d : Int) (w : World) : Calls Try.prog 47 #[.agg #[.int .i64 a, .int .i64 b, .int .i64 c, .int .i64 d]] w (Gives (.int .i64 (wrap64 (c - a))) w) := by
  have hB := Known.start w
  go_enter Try.func47, Try.ntmps47
  go_wp2
  all_goals
    refine bodyPost_ret (v := .int .i64 (wrap64 (c - a))) ?_ rfl ⟨rfl, ?_⟩
    · simp [results, Try.results47, go_sem]
    · repeat (first | exact ext_refl _ | exact hB.below | apply ext_alloc | apply ext_drew | (refine ext_set ?_ ?_; · first | (dsimp only; omega) | (simp; omega) | (simp; done)))

theorem dy_any (a b c d : Int) (w : World) : Calls Try.prog 48 #[.agg #[.int .i64 a, .int .i64 b, .int .i64 c, .int .i64 d]] w (Gives (.int .i64 (wrap64 (d - b))) w) := by
  have hB := Known.start w
  go_enter Try.func48, Try.ntmps48
  go_wp2
  all_goals
    refine bodyPost_ret (v := .int .i64 (wrap64 (d - b))) ?_ rfl ⟨rfl, ?_⟩
    · simp [results, Try.results48, go_sem]
    · repeat (first | exact ext_refl _ | exact hB.below | apply ext_alloc | apply ext_drew | (refine ext_set ?_ ?_; · first | (dsimp only; omega) | (simp; omega) | (simp; done)))

theorem req_any (a b c d e f g h : Int) (w : World) : Calls Try.prog 38 #[.agg #[.int .i64 a, .int .i64 b, .int .i64 c, .int .i64 d], .agg #[.int .i64 e, .int .i64 f, .int .i64 g, .int .i64 h]] w (Gives (.bool (reqB a b c d e f g h)) w) := by
  have heq := eql_rect
  have hB := Known.start w
  go_enter Try.func38, Try.ntmps38
  go_wp2_with ((go_at_call 45; refine (empty_any _ _ _ _ _).mono ?_; rintro e w1 ⟨rfl, hn⟩; (first | with_reducible replace hB := (hB).keep hn | with_reducible replace hB := (hB.alloc).keep hn | with_reducible replace hB := (hB.alloc.alloc).keep hn | with_reducible replace hB := (hB.alloc.alloc.alloc).keep hn | with_reducible replace hB := (hB.alloc.alloc.alloc.alloc).keep hn | with_reducible replace hB := (hB.alloc.alloc.alloc.alloc.alloc).keep hn | with_reducible replace hB := (hB.alloc.alloc.alloc.alloc.alloc.alloc).keep hn | with_reducible replace hB := (((hB.set1 hb1 hb2).set1 hb1 hb2)).keep hn | with_reducible replace hB := (((((hB.set1 hb1 hb2).set1 hb1 hb2).set1 hb1 hb2).set1 hb1 hb2)).keep hn); clear hn; (try clear hR); have hR := hB.rules; simp only [Rules, World.size_alloc, Nat.add_one_le_iff, List.setIfInBounds_toArray, List.set_cons_zero, List.set_cons_succ] at hR))
  all_goals
    refine bodyPost_ret (v := .bool (reqB a b c d e f g h)) ?_ rfl ⟨rfl, ?_⟩
    · first | (simp [results, Try.results38, go_sem, reqB, *]; done) | (simp [results, Try.results38, go_sem, reqB, *]; omega)
    · repeat (first | exact ext_refl _ | exact hB.below | apply ext_alloc | apply ext_drew | (refine ext_set ?_ ?_; · first | (dsimp only; omega) | (simp; omega) | (simp; done)))

theorem rin_any (a b c d e f g h : Int) (w : World) : Calls Try.prog 44 #[.agg #[.int .i64 a, .int .i64 b, .int .i64 c, .int .i64 d], .agg #[.int .i64 e, .int .i64 f, .int .i64 g, .int .i64 h]] w (Gives (.bool (rinB a b c d e f g h)) w) := by
  have hB := Known.start w
  go_enter Try.func44, Try.ntmps44
  go_wp2_with ((go_at_call 45; refine (empty_any _ _ _ _ _).mono ?_; rintro e w1 ⟨rfl, hn⟩; (first | with_reducible replace hB := (hB).keep hn | with_reducible replace hB := (hB.alloc).keep hn | with_reducible replace hB := (hB.alloc.alloc).keep hn | with_reducible replace hB := (hB.alloc.alloc.alloc).keep hn | with_reducible replace hB := (hB.alloc.alloc.alloc.alloc).keep hn | with_reducible replace hB := (hB.alloc.alloc.alloc.alloc.alloc).keep hn | with_reducible replace hB := (hB.alloc.alloc.alloc.alloc.alloc.alloc).keep hn | with_reducible replace hB := (((hB.set1 hb1 hb2).set1 hb1 hb2)).keep hn | with_reducible replace hB := (((((hB.set1 hb1 hb2).set1 hb1 hb2).set1 hb1 hb2).set1 hb1 hb2)).keep hn); clear hn; (try clear hR); have hR := hB.rules; simp only [Rules, World.size_alloc, Nat.add_one_le_iff, List.setIfInBounds_toArray, List.set_cons_zero, List.set_cons_succ] at hR))
  all_goals
    refine bodyPost_ret (v := .bool (rinB a b c d e f g h)) ?_ rfl ⟨rfl, ?_⟩
    · first | (simp [results, Try.results44, go_sem, rinB, *]; done) | (simp [results, Try.results44, go_sem, rinB, *]; omega)
    · repeat (first | exact ext_refl _ | exact hB.below | apply ext_alloc | apply ext_drew | (refine ext_set ?_ ?_; · first | (dsimp only; omega) | (simp; omega) | (simp; done)))

theorem over_any (a b c d e f g h : Int) (w : World) : Calls Try.prog 40 #[.agg #[.int .i64 a, .int .i64 b, .int .i64 c, .int .i64 d], .agg #[.int .i64 e, .int .i64 f, .int .i64 g, .int .i64 h]] w (Gives (.bool (overB a b c d e f g h)) w) := by
  have hB := Known.start w
  go_enter Try.func40, Try.ntmps40
  go_wp2_with ((go_at_call 45; refine (empty_any _ _ _ _ _).mono ?_; rintro e w1 ⟨rfl, hn⟩; (first | with_reducible replace hB := (hB).keep hn | with_reducible replace hB := (hB.alloc).keep hn | with_reducible replace hB := (hB.alloc.alloc).keep hn | with_reducible replace hB := (hB.alloc.alloc.alloc).keep hn | with_reducible replace hB := (hB.alloc.alloc.alloc.alloc).keep hn | with_reducible replace hB := (hB.alloc.alloc.alloc.alloc.alloc).keep hn | with_reducible replace hB := (hB.alloc.alloc.alloc.alloc.alloc.alloc).keep hn | with_reducible replace hB := (((hB.set1 hb1 hb2).set1 hb1 hb2)).keep hn | with_reducible replace hB := (((((hB.set1 hb1 hb2).set1 hb1 hb2).set1 hb1 hb2).set1 hb1 hb2)).keep hn); clear hn; (try clear hR); have hR := hB.rules; simp only [Rules, World.size_alloc, Nat.add_one_le_iff, List.setIfInBounds_toArray, List.set_cons_zero, List.set_cons_succ] at hR))
  all_goals
    refine bodyPost_ret (v := .bool (overB a b c d e f g h)) ?_ rfl ⟨rfl, ?_⟩
    · first | (simp [results, Try.results40, go_sem, overB, *]; done) | (simp [results, Try.results40, go_sem, overB, *]; omega)
    · repeat (first | exact ext_refl _ | exact hB.below | apply ext_alloc | apply ext_drew | (refine ext_set ?_ ?_; · first | (dsimp only; omega) | (simp; omega) | (simp; done)))

theorem canon_any (a b c d : Int) (w : World) : Calls Try.prog 43 #[.agg #[.int .i64 a, .int .i64 b, .int .i64 c, .int .i64 d]] w (Gives (.agg #[.int .i64 ((canon a b c d).a), .int .i64 ((canon a b c d).b), .int .i64 ((canon a b c d).c), .int .i64 ((canon a b c d).d)]) w) := by
  have hB := Known.start w
  go_enter Try.func43, Try.ntmps43
  go_wp2
  all_goals
    refine bodyPost_ret (v := .agg #[.int .i64 ((canon a b c d).a), .int .i64 ((canon a b c d).b), .int .i64 ((canon a b c d).c), .int .i64 ((canon a b c d).d)]) ?_ rfl ⟨rfl, ?_⟩
    · first | (simp [results, Try.results43, go_sem, canon, *]; done) | (simp [results, Try.results43, go_sem, canon, *]; omega)
    · repeat (first | exact ext_refl _ | exact hB.below | apply ext_alloc | apply ext_drew | (refine ext_set ?_ ?_; · first | (dsimp only; omega) | (simp; omega) | (simp; done)))

theorem rect_any (a b c d : Int) (w : World) : Calls Try.prog 36 #[.int .i64 a, .int .i64 b, .int .i64 c, .int .i64 d] w (Gives (.agg #[.int .i64 ((canon a b c d).a), .int .i64 ((canon a b c d).b), .int .i64 ((canon a b c d).c), .int .i64 ((canon a b c d).d)]) w) := by
  have hB := Known.start w
  go_enter Try.func36, Try.ntmps36
  go_wp2
  all_goals
    refine bodyPost_ret (v := .agg #[.int .i64 ((canon a b c d).a), .int .i64 ((canon a b c d).b), .int .i64 ((canon a b c d).c), .int .i64 ((canon a b c d).d)]) ?_ rfl ⟨rfl, ?_⟩
    · first | (simp [results, Try.results36, go_sem, canon, *]; done) | (simp [results, Try.results36, go_sem, canon, *]; omega)
    · repeat (first | exact ext_refl _ | exact hB.below | apply ext_alloc | apply ext_drew | (refine ext_set ?_ ?_; · first | (dsimp only; omega) | (simp; omega) | (simp; done)))

end Go.Proofs.Ythafdjlgagmfdaa
