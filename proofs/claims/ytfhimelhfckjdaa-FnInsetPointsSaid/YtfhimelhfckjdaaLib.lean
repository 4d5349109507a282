/-
  The contracts of the library's functions that this seat reaches (image.Pt, image.Rect, the methods of Point and Rectangle) and of the thin package's four converters: what each hands back, and that it changes nothing that was there.
  Conditions: only those that a theorem writes out (a divisor that is not 0).
-/
import Derived.Test.YtfhimelhfckjdaaPlain
namespace Go.Proofs.Ytfhimelhfckjdaa
open Go.RowKit
set_option linter.unusedSimpArgs false
set_option linter.unusedVariables false
set_option maxHeartbeats 2000000

theorem point_any (a b : Int) (w : World) : Calls Try.prog 44 #[.agg #[.int .i64 a, .int .i64 b]] w (Gives (.agg #[.int .i64 a, .int .i64 b]) w) := by
  have hB := Known.start w
  go_enter Try.func44, Try.ntmps44
  go_wp2
  all_goals
    refine bodyPost_ret (v := .agg #[.int .i64 a, .int .i64 b]) ?_ rfl ⟨rfl, ?_⟩
    · simp [results, Try.results44, go_sem]
    · repeat (first | exact ext_refl _ | exact hB.below | apply ext_alloc | apply ext_drew | (refine ext_set ?_ ?_; · first | (dsimp only; omega) | (simp; omega) | (simp; done)))

theorem pair_any (a b : Int) (w : World) : Calls Try.prog 43 #[.agg #[.int .i64 a, .int .i64 b]] w (Gives (.agg #[.int .i64 a, .int .i64 b]) w) := by
  have hB := Known.start w
  go_enter Try.func43, Try.ntmps43
  go_wp2
  all_goals
    refine bodyPost_ret (v := .agg #[.int .i64 a, .int .i64 b]) ?_ rfl ⟨rfl, ?_⟩
    · simp [results, Try.results43, go_sem]
    · repeat (first | exact ext_refl _ | exact hB.below | apply ext_alloc | apply ext_drew | (refine ext_set ?_ ?_; · first | (dsimp only; omega) | (simp; omega) | (simp; done)))

theorem rectangle_any (a b c d : Int) (w : World) : Calls Try.prog 41 #[.agg #[.int .i64 a, .int .i64 b, .int .i64 c, .int .i64 d]] w (Gives (.agg #[.int .i64 a, .int .i64 b, .int .i64 c, .int .i64 d]) w) := by
  have hB := Known.start w
  go_enter Try.func41, Try.ntmps41
  go_wp2
  (first | with_reducible refine wp_region_known_tail hB 13 ?hm ?hB ?_ | with_reducible refine wp_region_known_tail hB.alloc 13 ?hm ?hB ?_ | with_reducible refine wp_region_known_tail hB.alloc.alloc 13 ?hm ?hB ?_ | with_reducible refine wp_region_known_tail hB.alloc.alloc.alloc 13 ?hm ?hB ?_ | with_reducible refine wp_region_known_tail hB.alloc.alloc.alloc.alloc 13 ?hm ?hB ?_ | with_reducible refine wp_region_known_tail hB.alloc.alloc.alloc.alloc.alloc 13 ?hm ?hB ?_ | with_reducible refine wp_region_known_tail hB.alloc.alloc.alloc.alloc.alloc.alloc 13 ?hm ?hB ?_); (case hm => kernel_rfl); (case hB => kernel_rfl); (try clear hR); intro hov; simp only [Rules, World.size_alloc, Nat.add_one_le_iff, List.setIfInBounds_toArray, List.set_cons_zero, List.set_cons_succ] at hov; simp only [List.take_succ_cons, List.take_zero, List.drop_succ_cons, List.drop_zero]
  repeat (go_big_quiet_step ((go_at_call 44; exact Calls.over _ (point_any _ _ _))))
  refine wpQuiet_nil ?_; intro wx hB; clear hov; have hR := hB.rules; simp only [Rules, World.size_alloc, Nat.add_one_le_iff, List.setIfInBounds_toArray, List.set_cons_zero, List.set_cons_succ] at hR
  go_wp2
  refine bodyPost_ret (v := .agg #[.int .i64 a, .int .i64 b, .int .i64 c, .int .i64 d]) ?_ rfl ⟨rfl, ?_⟩
  · simp [results, Try.results41, go_sem, hR]
  · repeat (first | exact ext_refl _ | exact hB.below | apply ext_alloc | apply ext_drew | (refine ext_set ?_ ?_; · first | (dsimp only; omega) | (simp; omega) | (simp; done)))

theorem four_any (a b c d : Int) (w : World) : Calls Try.prog 40 #[.agg #[.int .i64 a, .int .i64 b, .int .i64 c, .int .i64 d]] w (Gives (.agg #[.int .i64 a, .int .i64 b, .int .i64 c, .int .i64 d]) w) := by
  have hB := Known.start w
  go_enter Try.func40, Try.ntmps40
  go_wp2
  all_goals
    refine bodyPost_ret (v := .agg #[.int .i64 a, .int .i64 b, .int .i64 c, .int .i64 d]) ?_ rfl ⟨rfl, ?_⟩
    · simp [results, Try.results40, go_sem]
    · repeat (first | exact ext_refl _ | exact hB.below | apply ext_alloc | apply ext_drew | (refine ext_set ?_ ?_; · first | (dsimp only; omega) | (simp; omega) | (simp; done)))

theorem pt_any (a b : Int) (w : World) : Calls Try.prog 55 #[.int .i64 a, .int .i64 b] w (Gives (.agg #[.int .i64 a, .int .i64 b]) w) := by
  have hB := Known.start w
  go_enter Try.func55, Try.ntmps55
  go_wp2
  all_goals
    refine bodyPost_ret (v := .agg #[.int .i64 a, .int .i64 b]) ?_ rfl ⟨rfl, ?_⟩
    · simp [results, Try.results55, go_sem]
    · repeat (first | exact ext_refl _ | exact hB.below | apply ext_alloc | apply ext_drew | (refine ext_set ?_ ?_; · first | (dsimp only; omega) | (simp; omega) | (simp; done)))

theorem padd_any (a b c d : Int) (w : World) : Calls Try.prog 53 #[.agg #[.int .i64 a, .int .i64 b], .agg #[.int .i64 c, .int .i64 d]] w (Gives (.agg #[.int .i64 (wrap64 (a + c)), .int .i64 (wrap64 (b + d))]) w) := by
  have hB := Known.start w
  go_enter Try.func53, Try.ntmps53
  go_wp2
  all_goals
    refine bodyPost_ret (v := .agg #[.int .i64 (wrap64 (a + c)), .int .i64 (wrap64 (b + d))]) ?_ rfl ⟨rfl, ?_⟩
    · simp [results, Try.results53, go_sem]
    · repeat (first | exact ext_refl _ | exact hB.below | apply ext_alloc | apply ext_drew | (refine ext_set ?_ ?_; · first | (dsimp only; omega) | (simp; omega) | (simp; done)))

theorem psub_any (a b c d : Int) (w : World) : Calls Try.prog 52 #[.agg #[.int .i64 a, .int .i64 b], .agg #[.int .i64 c, .int .i64 d]] w (Gives (.agg #[.int .i64 (wrap64 (a - c)), .int .i64 (wrap64 (b - d))]) w) := by
  have hB := Known.start w
  go_enter Try.func52, Try.ntmps52
  go_wp2
  all_goals
    refine bodyPost_ret (v := .agg #[.int .i64 (wrap64 (a - c)), .int .i64 (wrap64 (b - d))]) ?_ rfl ⟨rfl, ?_⟩
    · simp [results, Try.results52, go_sem]
    · repeat (first | exact ext_refl _ | exact hB.below | apply ext_alloc | apply ext_drew | (refine ext_set ?_ ?_; · first | (dsimp only; omega) | (simp; omega) | (simp; done)))

theorem pin_any (x y a b c d : Int) (w : World) : Calls Try.prog 49 #[.agg #[.int .i64 x, .int .i64 y], .agg #[.int .i64 a, .int .i64 b, .int .i64 c, .int .i64 d]] w (Gives (.bool (inB x y a b c d)) w) := by
  have hB := Known.start w
  go_enter Try.func49, Try.ntmps49
  go_wp2
  all_goals
    refine bodyPost_ret (v := .bool (inB x y a b c d)) ?_ rfl ⟨rfl, ?_⟩
    · first | (simp [results, Try.results49, go_sem]; done) | (simp [results, Try.results49, go_sem]; simp [inB, *]; done) | (simp [results, Try.results49, go_sem, inB, *]; done) | (simp [results, Try.results49, go_sem, inB, *]; omega)
    · repeat (first | exact ext_refl _ | exact hB.below | apply ext_alloc | apply ext_drew | (refine ext_set ?_ ?_; · first | (dsimp only; omega) | (simp; omega) | (simp; done)))

theorem empty_any (a b c d : Int) (w : World) : Calls Try.prog 48 #[.agg #[.int .i64 a, .int .i64 b, .int .i64 c, .int .i64 d]] w (Gives (.bool (emptyB a b c d)) w) := by
  have hB := Known.start w
  go_enter Try.func48, Try.ntmps48
  go_wp2
  all_goals
    refine bodyPost_ret (v := .bool (emptyB a b c d)) ?_ rfl ⟨rfl, ?_⟩
    · first | (simp [results, Try.results48, go_sem, emptyB, *]; done) | (simp [results, Try.results48, go_sem, emptyB, *]; omega)
    · repeat (first | exact ext_refl _ | exact hB.below | apply ext_alloc | apply ext_drew | (refine ext_set ?_ ?_; · first | (dsimp only; omega) | (simp; omega) | (simp; done)))

theorem dx_any (a b c d : Int) (w : World) : Calls Try.prog 47 #[.agg #[.int .i64 a, .int .i64 b, .int .i64 c, .int .i64 d]] w (Gives (.int .i64 (wrap64 (c - a))) w) := by
  have hB := Known.start w
  go_enter Try.func47, Try.ntmps47
  go_wp2
  all_goals
    refine bodyPost_ret (v := .int .i64 (wrap64 (c - a))) ?_ rfl ⟨rfl, ?_⟩
    · simp [results, Try.results47, go_sem]
    · repeat (first | exact ext_refl _ | exact hB.below | apply ext_alloc | apply ext_drew | (refine ext_set ?_ ?_; · first | (dsimp only; omega) | (simp; omega) | (simp; done)))

theorem dy_any (a b c d : Int) (w : World) : Calls Try.prog 51 #[.agg #[.int .i64 a, .int .i64 b, .int .i64 c, .int .i64 d]] w (Gives (.int .i64 (wrap64 (d - b))) w) := by
  have hB := Known.start w
  go_enter Try.func51, Try.ntmps51
  go_wp2
  all_goals
    refine bodyPost_ret (v := .int .i64 (wrap64 (d - b))) ?_ rfl ⟨rfl, ?_⟩
    · simp [results, Try.results51, go_sem]
    · repeat (first | exact ext_refl _ | exact hB.below | apply ext_alloc | apply ext_drew | (refine ext_set ?_ ?_; · first | (dsimp only; omega) | (simp; omega) | (simp; done)))

theorem radd_any (a b c d x y : Int) (w : World) : Calls Try.prog 54 #[.agg #[.int .i64 a, .int .i64 b, .int .i64 c, .int .i64 d], .agg #[.int .i64 x, .int .i64 y]] w (Gives (.agg #[.int .i64 (wrap64 (a + x)), .int .i64 (wrap64 (b + y)), .int .i64 (wrap64 (c + x)), .int .i64 (wrap64 (d + y))]) w) := by
  have hB := Known.start w
  go_enter Try.func54, Try.ntmps54
  go_wp2
  all_goals
    refine bodyPost_ret (v := .agg #[.int .i64 (wrap64 (a + x)), .int .i64 (wrap64 (b + y)), .int .i64 (wrap64 (c + x)), .int .i64 (wrap64 (d + y))]) ?_ rfl ⟨rfl, ?_⟩
    · simp [results, Try.results54, go_sem]
    · repeat (first | exact ext_refl _ | exact hB.below | apply ext_alloc | apply ext_drew | (refine ext_set ?_ ?_; · first | (dsimp only; omega) | (simp; omega) | (simp; done)))

theorem rsub_any (a b c d x y : Int) (w : World) : Calls Try.prog 56 #[.agg #[.int .i64 a, .int .i64 b, .int .i64 c, .int .i64 d], .agg #[.int .i64 x, .int .i64 y]] w (Gives (.agg #[.int .i64 (wrap64 (a - x)), .int .i64 (wrap64 (b - y)), .int .i64 (wrap64 (c - x)), .int .i64 (wrap64 (d - y))]) w) := by
  have hB := Known.start w
  go_enter Try.func56, Try.ntmps56
  go_wp2
  all_goals
    refine bodyPost_ret (v := .agg #[.int .i64 (wrap64 (a - x)), .int .i64 (wrap64 (b - y)), .int .i64 (wrap64 (c - x)), .int .i64 (wrap64 (d - y))]) ?_ rfl ⟨rfl, ?_⟩
    · simp [results, Try.results56, go_sem]
    · repeat (first | exact ext_refl _ | exact hB.below | apply ext_alloc | apply ext_drew | (refine ext_set ?_ ?_; · first | (dsimp only; omega) | (simp; omega) | (simp; done)))

theorem rin_any (a b c d e f g h : Int) (w : World) : Calls Try.prog 50 #[.agg #[.int .i64 a, .int .i64 b, .int .i64 c, .int .i64 d], .agg #[.int .i64 e, .int .i64 f, .int .i64 g, .int .i64 h]] w (Gives (.bool (rinB a b c d e f g h)) w) := by
  have hB := Known.start w
  go_enter Try.func50, Try.ntmps50
  go_wp2_with ((go_at_call 48; refine (empty_any _ _ _ _ _).mono ?_; rintro e w1 ⟨rfl, hn⟩; (first | with_reducible replace hB := (hB).keep hn | with_reducible replace hB := (hB.alloc).keep hn | with_reducible replace hB := (hB.alloc.alloc).keep hn | with_reducible replace hB := (hB.alloc.alloc.alloc).keep hn | with_reducible replace hB := (hB.alloc.alloc.alloc.alloc).keep hn | with_reducible replace hB := (hB.alloc.alloc.alloc.alloc.alloc).keep hn | with_reducible replace hB := (hB.alloc.alloc.alloc.alloc.alloc.alloc).keep hn | with_reducible replace hB := (((hB.set1 hb1 hb2).set1 hb1 hb2)).keep hn | with_reducible replace hB := (((((hB.set1 hb1 hb2).set1 hb1 hb2).set1 hb1 hb2).set1 hb1 hb2)).keep hn); clear hn; (try clear hR); have hR := hB.rules; simp only [Rules, World.size_alloc, Nat.add_one_le_iff, List.setIfInBounds_toArray, List.set_cons_zero, List.set_cons_succ] at hR))
  all_goals
    refine bodyPost_ret (v := .bool (rinB a b c d e f g h)) ?_ rfl ⟨rfl, ?_⟩
    · first | (simp [results, Try.results50, go_sem, rinB, *]; done) | (simp [results, Try.results50, go_sem, rinB, *]; omega)
    · repeat (first | exact ext_refl _ | exact hB.below | apply ext_alloc | apply ext_drew | (refine ext_set ?_ ?_; · first | (dsimp only; omega) | (simp; omega) | (simp; done)))

theorem isect_any (a b c d e f g h : Int) (w : World) : Calls Try.prog 58 #[.agg #[.int .i64 a, .int .i64 b, .int .i64 c, .int .i64 d], .agg #[.int .i64 e, .int .i64 f, .int .i64 g, .int .i64 h]] w (Gives (.agg #[.int .i64 ((isect a b c d e f g h).a), .int .i64 ((isect a b c d e f g h).b), .int .i64 ((isect a b c d e f g h).c), .int .i64 ((isect a b c d e f g h).d)]) w) := by
  have hB := Known.start w
  go_enter Try.func58, Try.ntmps58
  go_upto_if 11 with (fail)
  go_cut [] from 5 (fun wx => Known w wx [(w.heap.size + 1 + 1, #[.int .i64 0, .int .i64 0, .int .i64 0, .int .i64 0], 53), (w.heap.size + 1, #[.int .i64 e, .int .i64 f, .int .i64 g, .int .i64 h], 53), (w.heap.size, #[.int .i64 (max a e), .int .i64 b, .int .i64 c, .int .i64 d], 53)])
  case first =>
    go_wp2
    all_goals
      go_meet
      exact hB.alloc.alloc.alloc.same (by (first | (simp; done) | (simp; omega) | (dsimp only; omega)))
  case rest =>
    clear hB; (try clear hR)
    have hB := hcut
    clear hcut
    have hR := hB.rules
    simp only [Rules, Nat.add_one_le_iff] at hR
    go_upto_if 23 with (fail)
    go_cut [] from 5 (fun wx => Known w wx [(w.heap.size + 1 + 1, #[.int .i64 0, .int .i64 0, .int .i64 0, .int .i64 0], 53), (w.heap.size + 1, #[.int .i64 e, .int .i64 f, .int .i64 g, .int .i64 h], 53), (w.heap.size, #[.int .i64 (max a e), .int .i64 (max b f), .int .i64 c, .int .i64 d], 53)])
    case first =>
      go_wp2
      all_goals
        go_meet
        first | exact hB.same (by (first | (simp; done) | (simp; omega) | (dsimp only; omega))) | exact (hB.set3 (Nat.le_refl _) (by (first | (simp; done) | (simp; omega) | (dsimp only; omega))) (by (first | (simp; done) | (simp; omega) | (dsimp only; omega)))).same (by (first | (simp; done) | (simp; omega) | (dsimp only; omega)))
    case rest =>
      clear hB; (try clear hR)
      have hB := hcut
      clear hcut
      have hR := hB.rules
      simp only [Rules, Nat.add_one_le_iff] at hR
      go_upto_if 35 with (fail)
      go_cut [] from 5 (fun wx => Known w wx [(w.heap.size + 1 + 1, #[.int .i64 0, .int .i64 0, .int .i64 0, .int .i64 0], 53), (w.heap.size + 1, #[.int .i64 e, .int .i64 f, .int .i64 g, .int .i64 h], 53), (w.heap.size, #[.int .i64 (max a e), .int .i64 (max b f), .int .i64 (min c g), .int .i64 d], 53)])
      case first =>
        go_wp2
        all_goals
          go_meet
          first | exact hB.same (by (first | (simp; done) | (simp; omega) | (dsimp only; omega))) | exact (hB.set3 (Nat.le_refl _) (by (first | (simp; done) | (simp; omega) | (dsimp only; omega))) (by (first | (simp; done) | (simp; omega) | (dsimp only; omega)))).same (by (first | (simp; done) | (simp; omega) | (dsimp only; omega)))
      case rest =>
        clear hB; (try clear hR)
        have hB := hcut
        clear hcut
        have hR := hB.rules
        simp only [Rules, Nat.add_one_le_iff] at hR
        go_upto_if 47 with (fail)
        go_cut [] from 5 (fun wx => Known w wx [(w.heap.size + 1 + 1, #[.int .i64 0, .int .i64 0, .int .i64 0, .int .i64 0], 53), (w.heap.size + 1, #[.int .i64 e, .int .i64 f, .int .i64 g, .int .i64 h], 53), (w.heap.size, #[.int .i64 (max a e), .int .i64 (max b f), .int .i64 (min c g), .int .i64 (min d h)], 53)])
        case first =>
          go_wp2
          all_goals
            go_meet
            first | exact hB.same (by (first | (simp; done) | (simp; omega) | (dsimp only; omega))) | exact (hB.set3 (Nat.le_refl _) (by (first | (simp; done) | (simp; omega) | (dsimp only; omega))) (by (first | (simp; done) | (simp; omega) | (dsimp only; omega)))).same (by (first | (simp; done) | (simp; omega) | (dsimp only; omega)))
        case rest =>
          clear hB; (try clear hR)
          have hB := hcut
          clear hcut
          have hR := hB.rules
          simp only [Rules, Nat.add_one_le_iff] at hR
          go_wp2_with ((go_at_call 48; refine (empty_any _ _ _ _ _).mono ?_; rintro e w1 ⟨rfl, hn⟩; (first | with_reducible replace hB := (hB).keep hn | with_reducible replace hB := (hB.alloc).keep hn | with_reducible replace hB := (hB.alloc.alloc).keep hn | with_reducible replace hB := (hB.alloc.alloc.alloc).keep hn | with_reducible replace hB := (hB.alloc.alloc.alloc.alloc).keep hn | with_reducible replace hB := (hB.alloc.alloc.alloc.alloc.alloc).keep hn | with_reducible replace hB := (hB.alloc.alloc.alloc.alloc.alloc.alloc).keep hn | with_reducible replace hB := (((hB.set1 hb1 hb2).set1 hb1 hb2)).keep hn | with_reducible replace hB := (((((hB.set1 hb1 hb2).set1 hb1 hb2).set1 hb1 hb2).set1 hb1 hb2)).keep hn); clear hn; (try clear hR); have hR := hB.rules; simp only [Rules, World.size_alloc, Nat.add_one_le_iff, List.setIfInBounds_toArray, List.set_cons_zero, List.set_cons_succ] at hR))
          all_goals
            refine bodyPost_ret (v := .agg #[.int .i64 ((isect a b c d e f g h).a), .int .i64 ((isect a b c d e f g h).b), .int .i64 ((isect a b c d e f g h).c), .int .i64 ((isect a b c d e f g h).d)]) ?_ rfl ⟨rfl, ?_⟩
            · first | (simp [results, Try.results58, go_sem, isect, *]; done)
            · repeat (first | exact ext_refl _ | exact hB.below | apply ext_alloc | apply ext_drew | (refine ext_set ?_ ?_; · first | (dsimp only; omega) | (simp; omega) | (simp; done)))

theorem union_any (a b c d e f g h : Int) (w : World) : Calls Try.prog 57 #[.agg #[.int .i64 a, .int .i64 b, .int .i64 c, .int .i64 d], .agg #[.int .i64 e, .int .i64 f, .int .i64 g, .int .i64 h]] w (Gives (.agg #[.int .i64 ((union a b c d e f g h).a), .int .i64 ((union a b c d e f g h).b), .int .i64 ((union a b c d e f g h).c), .int .i64 ((union a b c d e f g h).d)]) w) := by
  cases h1 : emptyB a b c d with
  | true =>
    have hB := Known.start w
    go_enter Try.func57, Try.ntmps57
    go_wp2_with ((go_at_call 48; refine (empty_any _ _ _ _ _).mono ?_; rintro e w1 ⟨rfl, hn⟩; (first | with_reducible replace hB := (hB).keep hn | with_reducible replace hB := (hB.alloc).keep hn | with_reducible replace hB := (hB.alloc.alloc).keep hn | with_reducible replace hB := (hB.alloc.alloc.alloc).keep hn | with_reducible replace hB := (hB.alloc.alloc.alloc.alloc).keep hn | with_reducible replace hB := (hB.alloc.alloc.alloc.alloc.alloc).keep hn | with_reducible replace hB := (hB.alloc.alloc.alloc.alloc.alloc.alloc).keep hn | with_reducible replace hB := (((hB.set1 hb1 hb2).set1 hb1 hb2)).keep hn | with_reducible replace hB := (((((hB.set1 hb1 hb2).set1 hb1 hb2).set1 hb1 hb2).set1 hb1 hb2)).keep hn); clear hn; (try clear hR); have hR := hB.rules; simp only [Rules, World.size_alloc, Nat.add_one_le_iff, List.setIfInBounds_toArray, List.set_cons_zero, List.set_cons_succ] at hR))
    refine bodyPost_ret (v := .agg #[.int .i64 ((union a b c d e f g h).a), .int .i64 ((union a b c d e f g h).b), .int .i64 ((union a b c d e f g h).c), .int .i64 ((union a b c d e f g h).d)]) ?_ rfl ⟨rfl, ?_⟩
    · simp [results, Try.results57, go_sem, union, *]; done
    · repeat (first | exact ext_refl _ | exact hB.below | apply ext_alloc | apply ext_drew | (refine ext_set ?_ ?_; · first | (dsimp only; omega) | (simp; omega) | (simp; done)))
  | false =>
    cases h2 : emptyB e f g h with
    | true =>
      have hB := Known.start w
      go_enter Try.func57, Try.ntmps57
      go_wp2_with ((go_at_call 48; refine (empty_any _ _ _ _ _).mono ?_; rintro e w1 ⟨rfl, hn⟩; (first | with_reducible replace hB := (hB).keep hn | with_reducible replace hB := (hB.alloc).keep hn | with_reducible replace hB := (hB.alloc.alloc).keep hn | with_reducible replace hB := (hB.alloc.alloc.alloc).keep hn | with_reducible replace hB := (hB.alloc.alloc.alloc.alloc).keep hn | with_reducible replace hB := (hB.alloc.alloc.alloc.alloc.alloc).keep hn | with_reducible replace hB := (hB.alloc.alloc.alloc.alloc.alloc.alloc).keep hn | with_reducible replace hB := (((hB.set1 hb1 hb2).set1 hb1 hb2)).keep hn | with_reducible replace hB := (((((hB.set1 hb1 hb2).set1 hb1 hb2).set1 hb1 hb2).set1 hb1 hb2)).keep hn); clear hn; (try clear hR); have hR := hB.rules; simp only [Rules, World.size_alloc, Nat.add_one_le_iff, List.setIfInBounds_toArray, List.set_cons_zero, List.set_cons_succ] at hR))
      refine bodyPost_ret (v := .agg #[.int .i64 ((union a b c d e f g h).a), .int .i64 ((union a b c d e f g h).b), .int .i64 ((union a b c d e f g h).c), .int .i64 ((union a b c d e f g h).d)]) ?_ rfl ⟨rfl, ?_⟩
      · simp [results, Try.results57, go_sem, union, *]; done
      · repeat (first | exact ext_refl _ | exact hB.below | apply ext_alloc | apply ext_drew | (refine ext_set ?_ ?_; · first | (dsimp only; omega) | (simp; omega) | (simp; done)))
    | false =>
      have hB := Known.start w
      go_enter Try.func57, Try.ntmps57
      go_upto_if 17 with ((go_at_call 48; refine (empty_any _ _ _ _ _).mono ?_; rintro e w1 ⟨rfl, hn⟩; (first | with_reducible replace hB := (hB).keep hn | with_reducible replace hB := (hB.alloc).keep hn | with_reducible replace hB := (hB.alloc.alloc).keep hn | with_reducible replace hB := (hB.alloc.alloc.alloc).keep hn | with_reducible replace hB := (hB.alloc.alloc.alloc.alloc).keep hn | with_reducible replace hB := (hB.alloc.alloc.alloc.alloc.alloc).keep hn | with_reducible replace hB := (hB.alloc.alloc.alloc.alloc.alloc.alloc).keep hn | with_reducible replace hB := (((hB.set1 hb1 hb2).set1 hb1 hb2)).keep hn | with_reducible replace hB := (((((hB.set1 hb1 hb2).set1 hb1 hb2).set1 hb1 hb2).set1 hb1 hb2)).keep hn); clear hn; (try clear hR); have hR := hB.rules; simp only [Rules, World.size_alloc, Nat.add_one_le_iff, List.setIfInBounds_toArray, List.set_cons_zero, List.set_cons_succ] at hR))
      go_cut [] from 11 (fun wx => Known w wx [(w.heap.size + 1 + 1, #[.int .i64 0, .int .i64 0, .int .i64 0, .int .i64 0], 53), (w.heap.size + 1, #[.int .i64 e, .int .i64 f, .int .i64 g, .int .i64 h], 53), (w.heap.size, #[.int .i64 (min a e), .int .i64 b, .int .i64 c, .int .i64 d], 53)])
      case first =>
        go_wp2
        all_goals
          go_meet
          first | exact hB.same (by (first | (simp; done) | (simp; omega) | (dsimp only; omega))) | exact (hB.set3 (Nat.le_refl _) (by (first | (simp; done) | (simp; omega) | (dsimp only; omega))) (by (first | (simp; done) | (simp; omega) | (dsimp only; omega)))).same (by (first | (simp; done) | (simp; omega) | (dsimp only; omega)))
      case rest =>
        clear hB; (try clear hR)
        have hB := hcut
        clear hcut
        have hR := hB.rules
        simp only [Rules, Nat.add_one_le_iff] at hR
        go_upto_if 29 with ((go_at_call 48; refine (empty_any _ _ _ _ _).mono ?_; rintro e w1 ⟨rfl, hn⟩; (first | with_reducible replace hB := (hB).keep hn | with_reducible replace hB := (hB.alloc).keep hn | with_reducible replace hB := (hB.alloc.alloc).keep hn | with_reducible replace hB := (hB.alloc.alloc.alloc).keep hn | with_reducible replace hB := (hB.alloc.alloc.alloc.alloc).keep hn | with_reducible replace hB := (hB.alloc.alloc.alloc.alloc.alloc).keep hn | with_reducible replace hB := (hB.alloc.alloc.alloc.alloc.alloc.alloc).keep hn | with_reducible replace hB := (((hB.set1 hb1 hb2).set1 hb1 hb2)).keep hn | with_reducible replace hB := (((((hB.set1 hb1 hb2).set1 hb1 hb2).set1 hb1 hb2).set1 hb1 hb2)).keep hn); clear hn; (try clear hR); have hR := hB.rules; simp only [Rules, World.size_alloc, Nat.add_one_le_iff, List.setIfInBounds_toArray, List.set_cons_zero, List.set_cons_succ] at hR))
        go_cut [] from 11 (fun wx => Known w wx [(w.heap.size + 1 + 1, #[.int .i64 0, .int .i64 0, .int .i64 0, .int .i64 0], 53), (w.heap.size + 1, #[.int .i64 e, .int .i64 f, .int .i64 g, .int .i64 h], 53), (w.heap.size, #[.int .i64 (min a e), .int .i64 (min b f), .int .i64 c, .int .i64 d], 53)])
        case first =>
          go_wp2
          all_goals
            go_meet
            first | exact hB.same (by (first | (simp; done) | (simp; omega) | (dsimp only; omega))) | exact (hB.set3 (Nat.le_refl _) (by (first | (simp; done) | (simp; omega) | (dsimp only; omega))) (by (first | (simp; done) | (simp; omega) | (dsimp only; omega)))).same (by (first | (simp; done) | (simp; omega) | (dsimp only; omega)))
        case rest =>
          clear hB; (try clear hR)
          have hB := hcut
          clear hcut
          have hR := hB.rules
          simp only [Rules, Nat.add_one_le_iff] at hR
          go_upto_if 41 with ((go_at_call 48; refine (empty_any _ _ _ _ _).mono ?_; rintro e w1 ⟨rfl, hn⟩; (first | with_reducible replace hB := (hB).keep hn | with_reducible replace hB := (hB.alloc).keep hn | with_reducible replace hB := (hB.alloc.alloc).keep hn | with_reducible replace hB := (hB.alloc.alloc.alloc).keep hn | with_reducible replace hB := (hB.alloc.alloc.alloc.alloc).keep hn | with_reducible replace hB := (hB.alloc.alloc.alloc.alloc.alloc).keep hn | with_reducible replace hB := (hB.alloc.alloc.alloc.alloc.alloc.alloc).keep hn | with_reducible replace hB := (((hB.set1 hb1 hb2).set1 hb1 hb2)).keep hn | with_reducible replace hB := (((((hB.set1 hb1 hb2).set1 hb1 hb2).set1 hb1 hb2).set1 hb1 hb2)).keep hn); clear hn; (try clear hR); have hR := hB.rules; simp only [Rules, World.size_alloc, Nat.add_one_le_iff, List.setIfInBounds_toArray, List.set_cons_zero, List.set_cons_succ] at hR))
          go_cut [] from 11 (fun wx => Known w wx [(w.heap.size + 1 + 1, #[.int .i64 0, .int .i64 0, .int .i64 0, .int .i64 0], 53), (w.heap.size + 1, #[.int .i64 e, .int .i64 f, .int .i64 g, .int .i64 h], 53), (w.heap.size, #[.int .i64 (min a e), .int .i64 (min b f), .int .i64 (max c g), .int .i64 d], 53)])
          case first =>
            go_wp2
            all_goals
              go_meet
              first | exact hB.same (by (first | (simp; done) | (simp; omega) | (dsimp only; omega))) | exact (hB.set3 (Nat.le_refl _) (by (first | (simp; done) | (simp; omega) | (dsimp only; omega))) (by (first | (simp; done) | (simp; omega) | (dsimp only; omega)))).same (by (first | (simp; done) | (simp; omega) | (dsimp only; omega)))
          case rest =>
            clear hB; (try clear hR)
            have hB := hcut
            clear hcut
            have hR := hB.rules
            simp only [Rules, Nat.add_one_le_iff] at hR
            go_upto_if 53 with ((go_at_call 48; refine (empty_any _ _ _ _ _).mono ?_; rintro e w1 ⟨rfl, hn⟩; (first | with_reducible replace hB := (hB).keep hn | with_reducible replace hB := (hB.alloc).keep hn | with_reducible replace hB := (hB.alloc.alloc).keep hn | with_reducible replace hB := (hB.alloc.alloc.alloc).keep hn | with_reducible replace hB := (hB.alloc.alloc.alloc.alloc).keep hn | with_reducible replace hB := (hB.alloc.alloc.alloc.alloc.alloc).keep hn | with_reducible replace hB := (hB.alloc.alloc.alloc.alloc.alloc.alloc).keep hn | with_reducible replace hB := (((hB.set1 hb1 hb2).set1 hb1 hb2)).keep hn | with_reducible replace hB := (((((hB.set1 hb1 hb2).set1 hb1 hb2).set1 hb1 hb2).set1 hb1 hb2)).keep hn); clear hn; (try clear hR); have hR := hB.rules; simp only [Rules, World.size_alloc, Nat.add_one_le_iff, List.setIfInBounds_toArray, List.set_cons_zero, List.set_cons_succ] at hR))
            go_cut [] from 11 (fun wx => Known w wx [(w.heap.size + 1 + 1, #[.int .i64 0, .int .i64 0, .int .i64 0, .int .i64 0], 53), (w.heap.size + 1, #[.int .i64 e, .int .i64 f, .int .i64 g, .int .i64 h], 53), (w.heap.size, #[.int .i64 (min a e), .int .i64 (min b f), .int .i64 (max c g), .int .i64 (max d h)], 53)])
            case first =>
              go_wp2
              all_goals
                go_meet
                first | exact hB.same (by (first | (simp; done) | (simp; omega) | (dsimp only; omega))) | exact (hB.set3 (Nat.le_refl _) (by (first | (simp; done) | (simp; omega) | (dsimp only; omega))) (by (first | (simp; done) | (simp; omega) | (dsimp only; omega)))).same (by (first | (simp; done) | (simp; omega) | (dsimp only; omega)))
            case rest =>
              clear hB; (try clear hR)
              have hB := hcut
              clear hcut
              have hR := hB.rules
              simp only [Rules, Nat.add_one_le_iff] at hR
              go_wp2
              refine bodyPost_ret (v := .agg #[.int .i64 ((union a b c d e f g h).a), .int .i64 ((union a b c d e f g h).b), .int .i64 ((union a b c d e f g h).c), .int .i64 ((union a b c d e f g h).d)]) ?_ rfl ⟨rfl, ?_⟩
              · simp [results, Try.results57, go_sem, union, *]; done
              · repeat (first | exact ext_refl _ | exact hB.below | apply ext_alloc | apply ext_drew | (refine ext_set ?_ ?_; · first | (dsimp only; omega) | (simp; omega) | (simp; done)))

end Go.Proofs.Ytfhimelhfckjdaa
