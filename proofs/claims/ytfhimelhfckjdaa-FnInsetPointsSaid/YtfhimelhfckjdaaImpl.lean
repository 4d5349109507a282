/-
  The contracts of the thin package's functions that this seat reaches: what each hands back, and that it changes nothing that was there.
  Conditions: only those that a theorem writes out (a divisor that is not 0).
-/
import Derived.Test.YtfhimelhfckjdaaLibThree
namespace Go.Proofs.Ytfhimelhfckjdaa
open Go.RowKit
set_option linter.unusedSimpArgs false
set_option linter.unusedVariables false
set_option maxHeartbeats 2000000

theorem iNewPoint (a b : Int) (w : World) : Calls Try.prog 35 #[.int .i64 a, .int .i64 b] w (Gives (.agg #[.int .i64 a, .int .i64 b]) w) := by
  have hB := Known.start w
  go_enter Try.func35, Try.ntmps35
  go_wp2_with (first | (go_at_call 55; refine (pt_any _ _ _).mono ?_; rintro e w1 ⟨rfl, hn⟩; (first | with_reducible replace hB := (hB).keep hn | with_reducible replace hB := (hB.alloc).keep hn | with_reducible replace hB := (hB.alloc.alloc).keep hn | with_reducible replace hB := (hB.alloc.alloc.alloc).keep hn | with_reducible replace hB := (hB.alloc.alloc.alloc.alloc).keep hn | with_reducible replace hB := (hB.alloc.alloc.alloc.alloc.alloc).keep hn | with_reducible replace hB := (hB.alloc.alloc.alloc.alloc.alloc.alloc).keep hn | with_reducible replace hB := (((hB.set1 hb1 hb2).set1 hb1 hb2)).keep hn | with_reducible replace hB := (((((hB.set1 hb1 hb2).set1 hb1 hb2).set1 hb1 hb2).set1 hb1 hb2)).keep hn); clear hn; (try clear hR); have hR := hB.rules; simp only [Rules, World.size_alloc, Nat.add_one_le_iff, List.setIfInBounds_toArray, List.set_cons_zero, List.set_cons_succ] at hR) | (go_at_call 43; refine (pair_any _ _ _).mono ?_; rintro e w1 ⟨rfl, hn⟩; (first | with_reducible replace hB := (hB).keep hn | with_reducible replace hB := (hB.alloc).keep hn | with_reducible replace hB := (hB.alloc.alloc).keep hn | with_reducible replace hB := (hB.alloc.alloc.alloc).keep hn | with_reducible replace hB := (hB.alloc.alloc.alloc.alloc).keep hn | with_reducible replace hB := (hB.alloc.alloc.alloc.alloc.alloc).keep hn | with_reducible replace hB := (hB.alloc.alloc.alloc.alloc.alloc.alloc).keep hn | with_reducible replace hB := (((hB.set1 hb1 hb2).set1 hb1 hb2)).keep hn | with_reducible replace hB := (((((hB.set1 hb1 hb2).set1 hb1 hb2).set1 hb1 hb2).set1 hb1 hb2)).keep hn); clear hn; (try clear hR); have hR := hB.rules; simp only [Rules, World.size_alloc, Nat.add_one_le_iff, List.setIfInBounds_toArray, List.set_cons_zero, List.set_cons_succ] at hR))
  refine bodyPost_ret (v := .agg #[.int .i64 a, .int .i64 b]) ?_ rfl ⟨rfl, ?_⟩
  · simp [results, Try.results35, go_sem, hR]
  · repeat (first | exact ext_refl _ | exact hB.below | apply ext_alloc | apply ext_drew | (refine ext_set ?_ ?_; · first | (dsimp only; omega) | (simp; omega) | (simp; done)))

theorem iPointAdd (a b c d : Int) (w : World) : Calls Try.prog 32 #[.agg #[.int .i64 a, .int .i64 b], .agg #[.int .i64 c, .int .i64 d]] w (Gives (.agg #[.int .i64 (wrap64 (a + c)), .int .i64 (wrap64 (b + d))]) w) := by
  have hB := Known.start w
  go_enter Try.func32, Try.ntmps32
  go_wp2
  (first | with_reducible refine wp_region_known_tail hB 6 ?hm ?hB ?_ | with_reducible refine wp_region_known_tail hB.alloc 6 ?hm ?hB ?_ | with_reducible refine wp_region_known_tail hB.alloc.alloc 6 ?hm ?hB ?_ | with_reducible refine wp_region_known_tail hB.alloc.alloc.alloc 6 ?hm ?hB ?_ | with_reducible refine wp_region_known_tail hB.alloc.alloc.alloc.alloc 6 ?hm ?hB ?_ | with_reducible refine wp_region_known_tail hB.alloc.alloc.alloc.alloc.alloc 6 ?hm ?hB ?_ | with_reducible refine wp_region_known_tail hB.alloc.alloc.alloc.alloc.alloc.alloc 6 ?hm ?hB ?_); (case hm => kernel_rfl); (case hB => kernel_rfl); (try clear hR); intro hov; simp only [Rules, World.size_alloc, Nat.add_one_le_iff, List.setIfInBounds_toArray, List.set_cons_zero, List.set_cons_succ] at hov; simp only [List.take_succ_cons, List.take_zero, List.drop_succ_cons, List.drop_zero]
  repeat (go_big_quiet_step (first | (go_at_call 44; exact Calls.over _ (point_any _ _ _)) | (go_at_call 43; exact Calls.over _ (pair_any _ _ _)) | (go_at_call 53; exact Calls.over _ (padd_any _ _ _ _ _))))
  refine wpQuiet_nil ?_; intro wx hB; clear hov; have hR := hB.rules; simp only [Rules, World.size_alloc, Nat.add_one_le_iff, List.setIfInBounds_toArray, List.set_cons_zero, List.set_cons_succ] at hR
  go_wp2
  refine bodyPost_ret (v := .agg #[.int .i64 (wrap64 (a + c)), .int .i64 (wrap64 (b + d))]) ?_ rfl ⟨rfl, ?_⟩
  · simp [results, Try.results32, go_sem, hR]
  · repeat (first | exact ext_refl _ | exact hB.below | apply ext_alloc | apply ext_drew | (refine ext_set ?_ ?_; · first | (dsimp only; omega) | (simp; omega) | (simp; done)))

theorem iPointSub (a b c d : Int) (w : World) : Calls Try.prog 31 #[.agg #[.int .i64 a, .int .i64 b], .agg #[.int .i64 c, .int .i64 d]] w (Gives (.agg #[.int .i64 (wrap64 (a - c)), .int .i64 (wrap64 (b - d))]) w) := by
  have hB := Known.start w
  go_enter Try.func31, Try.ntmps31
  go_wp2
  (first | with_reducible refine wp_region_known_tail hB 6 ?hm ?hB ?_ | with_reducible refine wp_region_known_tail hB.alloc 6 ?hm ?hB ?_ | with_reducible refine wp_region_known_tail hB.alloc.alloc 6 ?hm ?hB ?_ | with_reducible refine wp_region_known_tail hB.alloc.alloc.alloc 6 ?hm ?hB ?_ | with_reducible refine wp_region_known_tail hB.alloc.alloc.alloc.alloc 6 ?hm ?hB ?_ | with_reducible refine wp_region_known_tail hB.alloc.alloc.alloc.alloc.alloc 6 ?hm ?hB ?_ | with_reducible refine wp_region_known_tail hB.alloc.alloc.alloc.alloc.alloc.alloc 6 ?hm ?hB ?_); (case hm => kernel_rfl); (case hB => kernel_rfl); (try clear hR); intro hov; simp only [Rules, World.size_alloc, Nat.add_one_le_iff, List.setIfInBounds_toArray, List.set_cons_zero, List.set_cons_succ] at hov; simp only [List.take_succ_cons, List.take_zero, List.drop_succ_cons, List.drop_zero]
  repeat (go_big_quiet_step (first | (go_at_call 44; exact Calls.over _ (point_any _ _ _)) | (go_at_call 43; exact Calls.over _ (pair_any _ _ _)) | (go_at_call 52; exact Calls.over _ (psub_any _ _ _ _ _))))
  refine wpQuiet_nil ?_; intro wx hB; clear hov; have hR := hB.rules; simp only [Rules, World.size_alloc, Nat.add_one_le_iff, List.setIfInBounds_toArray, List.set_cons_zero, List.set_cons_succ] at hR
  go_wp2
  refine bodyPost_ret (v := .agg #[.int .i64 (wrap64 (a - c)), .int .i64 (wrap64 (b - d))]) ?_ rfl ⟨rfl, ?_⟩
  · simp [results, Try.results31, go_sem, hR]
  · repeat (first | exact ext_refl _ | exact hB.below | apply ext_alloc | apply ext_drew | (refine ext_set ?_ ?_; · first | (dsimp only; omega) | (simp; omega) | (simp; done)))

theorem iPointIn (x y a b c d : Int) (w : World) : Calls Try.prog 28 #[.agg #[.int .i64 x, .int .i64 y], .agg #[.int .i64 a, .int .i64 b, .int .i64 c, .int .i64 d]] w (Gives (.bool (inB x y a b c d)) w) := by
  have hB := Known.start w
  go_enter Try.func28, Try.ntmps28
  go_wp2
  (first | with_reducible refine wp_region_known hB ?hm ?hB ?_ | with_reducible refine wp_region_known hB.alloc ?hm ?hB ?_ | with_reducible refine wp_region_known hB.alloc.alloc ?hm ?hB ?_ | with_reducible refine wp_region_known hB.alloc.alloc.alloc ?hm ?hB ?_ | with_reducible refine wp_region_known hB.alloc.alloc.alloc.alloc ?hm ?hB ?_ | with_reducible refine wp_region_known hB.alloc.alloc.alloc.alloc.alloc ?hm ?hB ?_ | with_reducible refine wp_region_known hB.alloc.alloc.alloc.alloc.alloc.alloc ?hm ?hB ?_); (case hm => kernel_rfl); (case hB => kernel_rfl); (try clear hR); intro hov; simp only [Rules, World.size_alloc, Nat.add_one_le_iff, List.setIfInBounds_toArray, List.set_cons_zero, List.set_cons_succ] at hov
  repeat (go_big_quiet_step (first | (go_at_call 44; exact Calls.over _ (point_any _ _ _)) | (go_at_call 41; exact Calls.over _ (rectangle_any _ _ _ _ _)) | (go_at_call 49; exact Calls.over _ (pin_any _ _ _ _ _ _ _))))
  refine wpQuiet_nil ?_; intro wx hB; clear hov; have hR := hB.rules; simp only [Rules, World.size_alloc, Nat.add_one_le_iff, List.setIfInBounds_toArray, List.set_cons_zero, List.set_cons_succ] at hR
  go_wp2
  refine bodyPost_ret (v := .bool (inB x y a b c d)) ?_ rfl ⟨rfl, ?_⟩
  · simp [results, Try.results28, go_sem]
  · repeat (first | exact ext_refl _ | exact hB.below | apply ext_alloc | apply ext_drew | (refine ext_set ?_ ?_; · first | (dsimp only; omega) | (simp; omega) | (simp; done)))

theorem iPointMod (x y a b c d : Int) (w : World) (hw : (wrap64 (c - a) == 0) = false) (hh : (wrap64 (d - b) == 0) = false) : Calls Try.prog 22 #[.agg #[.int .i64 x, .int .i64 y], .agg #[.int .i64 a, .int .i64 b, .int .i64 c, .int .i64 d]] w (Gives (.agg #[.int .i64 (modC x a c), .int .i64 (modC y b d)]) w) := by
  have hB := Known.start w
  go_enter Try.func22, Try.ntmps22
  go_wp2
  (first | with_reducible refine wp_region_known_tail hB 6 ?hm ?hB ?_ | with_reducible refine wp_region_known_tail hB.alloc 6 ?hm ?hB ?_ | with_reducible refine wp_region_known_tail hB.alloc.alloc 6 ?hm ?hB ?_ | with_reducible refine wp_region_known_tail hB.alloc.alloc.alloc 6 ?hm ?hB ?_ | with_reducible refine wp_region_known_tail hB.alloc.alloc.alloc.alloc 6 ?hm ?hB ?_ | with_reducible refine wp_region_known_tail hB.alloc.alloc.alloc.alloc.alloc 6 ?hm ?hB ?_ | with_reducible refine wp_region_known_tail hB.alloc.alloc.alloc.alloc.alloc.alloc 6 ?hm ?hB ?_); (case hm => kernel_rfl); (case hB => kernel_rfl); (try clear hR); intro hov; simp only [Rules, World.size_alloc, Nat.add_one_le_iff, List.setIfInBounds_toArray, List.set_cons_zero, List.set_cons_succ] at hov; simp only [List.take_succ_cons, List.take_zero, List.drop_succ_cons, List.drop_zero]
  repeat (go_big_quiet_step (first | (go_at_call 44; exact Calls.over _ (point_any _ _ _)) | (go_at_call 41; exact Calls.over _ (rectangle_any _ _ _ _ _)) | (go_at_call 43; exact Calls.over _ (pair_any _ _ _)) | (go_at_call 45; exact Calls.over _ (mod_any _ _ _ _ _ _ _ hw hh))))
  refine wpQuiet_nil ?_; intro wx hB; clear hov; have hR := hB.rules; simp only [Rules, World.size_alloc, Nat.add_one_le_iff, List.setIfInBounds_toArray, List.set_cons_zero, List.set_cons_succ] at hR
  go_wp2
  refine bodyPost_ret (v := .agg #[.int .i64 (modC x a c), .int .i64 (modC y b d)]) ?_ rfl ⟨rfl, ?_⟩
  · simp [results, Try.results22, go_sem, hR]
  · repeat (first | exact ext_refl _ | exact hB.below | apply ext_alloc | apply ext_drew | (refine ext_set ?_ ?_; · first | (dsimp only; omega) | (simp; omega) | (simp; done)))

theorem iRectAdd (a b c d x y : Int) (w : World) : Calls Try.prog 34 #[.agg #[.int .i64 a, .int .i64 b, .int .i64 c, .int .i64 d], .agg #[.int .i64 x, .int .i64 y]] w (Gives (.agg #[.int .i64 (wrap64 (a + x)), .int .i64 (wrap64 (b + y)), .int .i64 (wrap64 (c + x)), .int .i64 (wrap64 (d + y))]) w) := by
  have hB := Known.start w
  go_enter Try.func34, Try.ntmps34
  go_wp2
  (first | with_reducible refine wp_region_known_tail hB 6 ?hm ?hB ?_ | with_reducible refine wp_region_known_tail hB.alloc 6 ?hm ?hB ?_ | with_reducible refine wp_region_known_tail hB.alloc.alloc 6 ?hm ?hB ?_ | with_reducible refine wp_region_known_tail hB.alloc.alloc.alloc 6 ?hm ?hB ?_ | with_reducible refine wp_region_known_tail hB.alloc.alloc.alloc.alloc 6 ?hm ?hB ?_ | with_reducible refine wp_region_known_tail hB.alloc.alloc.alloc.alloc.alloc 6 ?hm ?hB ?_ | with_reducible refine wp_region_known_tail hB.alloc.alloc.alloc.alloc.alloc.alloc 6 ?hm ?hB ?_); (case hm => kernel_rfl); (case hB => kernel_rfl); (try clear hR); intro hov; simp only [Rules, World.size_alloc, Nat.add_one_le_iff, List.setIfInBounds_toArray, List.set_cons_zero, List.set_cons_succ] at hov; simp only [List.take_succ_cons, List.take_zero, List.drop_succ_cons, List.drop_zero]
  repeat (go_big_quiet_step (first | (go_at_call 41; exact Calls.over _ (rectangle_any _ _ _ _ _)) | (go_at_call 44; exact Calls.over _ (point_any _ _ _)) | (go_at_call 40; exact Calls.over _ (four_any _ _ _ _ _)) | (go_at_call 54; exact Calls.over _ (radd_any _ _ _ _ _ _ _))))
  refine wpQuiet_nil ?_; intro wx hB; clear hov; have hR := hB.rules; simp only [Rules, World.size_alloc, Nat.add_one_le_iff, List.setIfInBounds_toArray, List.set_cons_zero, List.set_cons_succ] at hR
  go_wp2
  refine bodyPost_ret (v := .agg #[.int .i64 (wrap64 (a + x)), .int .i64 (wrap64 (b + y)), .int .i64 (wrap64 (c + x)), .int .i64 (wrap64 (d + y))]) ?_ rfl ⟨rfl, ?_⟩
  · simp [results, Try.results34, go_sem, hR]
  · repeat (first | exact ext_refl _ | exact hB.below | apply ext_alloc | apply ext_drew | (refine ext_set ?_ ?_; · first | (dsimp only; omega) | (simp; omega) | (simp; done)))

theorem iRectSub (a b c d x y : Int) (w : World) : Calls Try.prog 36 #[.agg #[.int .i64 a, .int .i64 b, .int .i64 c, .int .i64 d], .agg #[.int .i64 x, .int .i64 y]] w (Gives (.agg #[.int .i64 (wrap64 (a - x)), .int .i64 (wrap64 (b - y)), .int .i64 (wrap64 (c - x)), .int .i64 (wrap64 (d - y))]) w) := by
  have hB := Known.start w
  go_enter Try.func36, Try.ntmps36
  go_wp2
  (first | with_reducible refine wp_region_known_tail hB 6 ?hm ?hB ?_ | with_reducible refine wp_region_known_tail hB.alloc 6 ?hm ?hB ?_ | with_reducible refine wp_region_known_tail hB.alloc.alloc 6 ?hm ?hB ?_ | with_reducible refine wp_region_known_tail hB.alloc.alloc.alloc 6 ?hm ?hB ?_ | with_reducible refine wp_region_known_tail hB.alloc.alloc.alloc.alloc 6 ?hm ?hB ?_ | with_reducible refine wp_region_known_tail hB.alloc.alloc.alloc.alloc.alloc 6 ?hm ?hB ?_ | with_reducible refine wp_region_known_tail hB.alloc.alloc.alloc.alloc.alloc.alloc 6 ?hm ?hB ?_); (case hm => kernel_rfl); (case hB => kernel_rfl); (try clear hR); intro hov; simp only [Rules, World.size_alloc, Nat.add_one_le_iff, List.setIfInBounds_toArray, List.set_cons_zero, List.set_cons_succ] at hov; simp only [List.take_succ_cons, List.take_zero, List.drop_succ_cons, List.drop_zero]
  repeat (go_big_quiet_step (first | (go_at_call 41; exact Calls.over _ (rectangle_any _ _ _ _ _)) | (go_at_call 44; exact Calls.over _ (point_any _ _ _)) | (go_at_call 40; exact Calls.over _ (four_any _ _ _ _ _)) | (go_at_call 56; exact Calls.over _ (rsub_any _ _ _ _ _ _ _))))
  refine wpQuiet_nil ?_; intro wx hB; clear hov; have hR := hB.rules; simp only [Rules, World.size_alloc, Nat.add_one_le_iff, List.setIfInBounds_toArray, List.set_cons_zero, List.set_cons_succ] at hR
  go_wp2
  refine bodyPost_ret (v := .agg #[.int .i64 (wrap64 (a - x)), .int .i64 (wrap64 (b - y)), .int .i64 (wrap64 (c - x)), .int .i64 (wrap64 (d - y))]) ?_ rfl ⟨rfl, ?_⟩
  · simp [results, Try.results36, go_sem, hR]
  · repeat (first | exact ext_refl _ | exact hB.below | apply ext_alloc | apply ext_drew | (refine ext_set ?_ ?_; · first | (dsimp only; omega) | (simp; omega) | (simp; done)))

theorem iRectDx (a b c d : Int) (w : World) : Calls Try.prog 24 #[.agg #[.int .i64 a, .int .i64 b, .int .i64 c, .int .i64 d]] w (Gives (.int .i64 (wrap64 (c - a))) w) := by
  have hB := Known.start w
  go_enter Try.func24, Try.ntmps24
  go_wp2_with (first | (go_at_call 41; refine (rectangle_any _ _ _ _ _).mono ?_; rintro e w1 ⟨rfl, hn⟩; (first | with_reducible replace hB := (hB).keep hn | with_reducible replace hB := (hB.alloc).keep hn | with_reducible replace hB := (hB.alloc.alloc).keep hn | with_reducible replace hB := (hB.alloc.alloc.alloc).keep hn | with_reducible replace hB := (hB.alloc.alloc.alloc.alloc).keep hn | with_reducible replace hB := (hB.alloc.alloc.alloc.alloc.alloc).keep hn | with_reducible replace hB := (hB.alloc.alloc.alloc.alloc.alloc.alloc).keep hn | with_reducible replace hB := (((hB.set1 hb1 hb2).set1 hb1 hb2)).keep hn | with_reducible replace hB := (((((hB.set1 hb1 hb2).set1 hb1 hb2).set1 hb1 hb2).set1 hb1 hb2)).keep hn); clear hn; (try clear hR); have hR := hB.rules; simp only [Rules, World.size_alloc, Nat.add_one_le_iff, List.setIfInBounds_toArray, List.set_cons_zero, List.set_cons_succ] at hR) | (go_at_call 47; refine (dx_any _ _ _ _ _).mono ?_; rintro e w1 ⟨rfl, hn⟩; (first | with_reducible replace hB := (hB).keep hn | with_reducible replace hB := (hB.alloc).keep hn | with_reducible replace hB := (hB.alloc.alloc).keep hn | with_reducible replace hB := (hB.alloc.alloc.alloc).keep hn | with_reducible replace hB := (hB.alloc.alloc.alloc.alloc).keep hn | with_reducible replace hB := (hB.alloc.alloc.alloc.alloc.alloc).keep hn | with_reducible replace hB := (hB.alloc.alloc.alloc.alloc.alloc.alloc).keep hn | with_reducible replace hB := (((hB.set1 hb1 hb2).set1 hb1 hb2)).keep hn | with_reducible replace hB := (((((hB.set1 hb1 hb2).set1 hb1 hb2).set1 hb1 hb2).set1 hb1 hb2)).keep hn); clear hn; (try clear hR); have hR := hB.rules; simp only [Rules, World.size_alloc, Nat.add_one_le_iff, List.setIfInBounds_toArray, List.set_cons_zero, List.set_cons_succ] at hR))
  refine bodyPost_ret (v := .int .i64 (wrap64 (c - a))) ?_ rfl ⟨rfl, ?_⟩
  · simp [results, Try.results24, go_sem, hR]
  · repeat (first | exact ext_refl _ | exact hB.below | apply ext_alloc | apply ext_drew | (refine ext_set ?_ ?_; · first | (dsimp only; omega) | (simp; omega) | (simp; done)))

theorem iRectDy (a b c d : Int) (w : World) : Calls Try.prog 30 #[.agg #[.int .i64 a, .int .i64 b, .int .i64 c, .int .i64 d]] w (Gives (.int .i64 (wrap64 (d - b))) w) := by
  have hB := Known.start w
  go_enter Try.func30, Try.ntmps30
  go_wp2_with (first | (go_at_call 41; refine (rectangle_any _ _ _ _ _).mono ?_; rintro e w1 ⟨rfl, hn⟩; (first | with_reducible replace hB := (hB).keep hn | with_reducible replace hB := (hB.alloc).keep hn | with_reducible replace hB := (hB.alloc.alloc).keep hn | with_reducible replace hB := (hB.alloc.alloc.alloc).keep hn | with_reducible replace hB := (hB.alloc.alloc.alloc.alloc).keep hn | with_reducible replace hB := (hB.alloc.alloc.alloc.alloc.alloc).keep hn | with_reducible replace hB := (hB.alloc.alloc.alloc.alloc.alloc.alloc).keep hn | with_reducible replace hB := (((hB.set1 hb1 hb2).set1 hb1 hb2)).keep hn | with_reducible replace hB := (((((hB.set1 hb1 hb2).set1 hb1 hb2).set1 hb1 hb2).set1 hb1 hb2)).keep hn); clear hn; (try clear hR); have hR := hB.rules; simp only [Rules, World.size_alloc, Nat.add_one_le_iff, List.setIfInBounds_toArray, List.set_cons_zero, List.set_cons_succ] at hR) | (go_at_call 51; refine (dy_any _ _ _ _ _).mono ?_; rintro e w1 ⟨rfl, hn⟩; (first | with_reducible replace hB := (hB).keep hn | with_reducible replace hB := (hB.alloc).keep hn | with_reducible replace hB := (hB.alloc.alloc).keep hn | with_reducible replace hB := (hB.alloc.alloc.alloc).keep hn | with_reducible replace hB := (hB.alloc.alloc.alloc.alloc).keep hn | with_reducible replace hB := (hB.alloc.alloc.alloc.alloc.alloc).keep hn | with_reducible replace hB := (hB.alloc.alloc.alloc.alloc.alloc.alloc).keep hn | with_reducible replace hB := (((hB.set1 hb1 hb2).set1 hb1 hb2)).keep hn | with_reducible replace hB := (((((hB.set1 hb1 hb2).set1 hb1 hb2).set1 hb1 hb2).set1 hb1 hb2)).keep hn); clear hn; (try clear hR); have hR := hB.rules; simp only [Rules, World.size_alloc, Nat.add_one_le_iff, List.setIfInBounds_toArray, List.set_cons_zero, List.set_cons_succ] at hR))
  refine bodyPost_ret (v := .int .i64 (wrap64 (d - b))) ?_ rfl ⟨rfl, ?_⟩
  · simp [results, Try.results30, go_sem, hR]
  · repeat (first | exact ext_refl _ | exact hB.below | apply ext_alloc | apply ext_drew | (refine ext_set ?_ ?_; · first | (dsimp only; omega) | (simp; omega) | (simp; done)))

theorem iRectEmpty (a b c d : Int) (w : World) : Calls Try.prog 26 #[.agg #[.int .i64 a, .int .i64 b, .int .i64 c, .int .i64 d]] w (Gives (.bool (emptyB a b c d)) w) := by
  have hB := Known.start w
  go_enter Try.func26, Try.ntmps26
  go_wp2_with (first | (go_at_call 41; refine (rectangle_any _ _ _ _ _).mono ?_; rintro e w1 ⟨rfl, hn⟩; (first | with_reducible replace hB := (hB).keep hn | with_reducible replace hB := (hB.alloc).keep hn | with_reducible replace hB := (hB.alloc.alloc).keep hn | with_reducible replace hB := (hB.alloc.alloc.alloc).keep hn | with_reducible replace hB := (hB.alloc.alloc.alloc.alloc).keep hn | with_reducible replace hB := (hB.alloc.alloc.alloc.alloc.alloc).keep hn | with_reducible replace hB := (hB.alloc.alloc.alloc.alloc.alloc.alloc).keep hn | with_reducible replace hB := (((hB.set1 hb1 hb2).set1 hb1 hb2)).keep hn | with_reducible replace hB := (((((hB.set1 hb1 hb2).set1 hb1 hb2).set1 hb1 hb2).set1 hb1 hb2)).keep hn); clear hn; (try clear hR); have hR := hB.rules; simp only [Rules, World.size_alloc, Nat.add_one_le_iff, List.setIfInBounds_toArray, List.set_cons_zero, List.set_cons_succ] at hR) | (go_at_call 48; refine (empty_any _ _ _ _ _).mono ?_; rintro e w1 ⟨rfl, hn⟩; (first | with_reducible replace hB := (hB).keep hn | with_reducible replace hB := (hB.alloc).keep hn | with_reducible replace hB := (hB.alloc.alloc).keep hn | with_reducible replace hB := (hB.alloc.alloc.alloc).keep hn | with_reducible replace hB := (hB.alloc.alloc.alloc.alloc).keep hn | with_reducible replace hB := (hB.alloc.alloc.alloc.alloc.alloc).keep hn | with_reducible replace hB := (hB.alloc.alloc.alloc.alloc.alloc.alloc).keep hn | with_reducible replace hB := (((hB.set1 hb1 hb2).set1 hb1 hb2)).keep hn | with_reducible replace hB := (((((hB.set1 hb1 hb2).set1 hb1 hb2).set1 hb1 hb2).set1 hb1 hb2)).keep hn); clear hn; (try clear hR); have hR := hB.rules; simp only [Rules, World.size_alloc, Nat.add_one_le_iff, List.setIfInBounds_toArray, List.set_cons_zero, List.set_cons_succ] at hR))
  refine bodyPost_ret (v := .bool (emptyB a b c d)) ?_ rfl ⟨rfl, ?_⟩
  · simp [results, Try.results26, go_sem, hR]
  · repeat (first | exact ext_refl _ | exact hB.below | apply ext_alloc | apply ext_drew | (refine ext_set ?_ ?_; · first | (dsimp only; omega) | (simp; omega) | (simp; done)))

theorem iRectIn (a b c d e f g h : Int) (w : World) : Calls Try.prog 29 #[.agg #[.int .i64 a, .int .i64 b, .int .i64 c, .int .i64 d], .agg #[.int .i64 e, .int .i64 f, .int .i64 g, .int .i64 h]] w (Gives (.bool (rinB a b c d e f g h)) w) := by
  have hB := Known.start w
  go_enter Try.func29, Try.ntmps29
  go_wp2
  (first | with_reducible refine wp_region_known hB ?hm ?hB ?_ | with_reducible refine wp_region_known hB.alloc ?hm ?hB ?_ | with_reducible refine wp_region_known hB.alloc.alloc ?hm ?hB ?_ | with_reducible refine wp_region_known hB.alloc.alloc.alloc ?hm ?hB ?_ | with_reducible refine wp_region_known hB.alloc.alloc.alloc.alloc ?hm ?hB ?_ | with_reducible refine wp_region_known hB.alloc.alloc.alloc.alloc.alloc ?hm ?hB ?_ | with_reducible refine wp_region_known hB.alloc.alloc.alloc.alloc.alloc.alloc ?hm ?hB ?_); (case hm => kernel_rfl); (case hB => kernel_rfl); (try clear hR); intro hov; simp only [Rules, World.size_alloc, Nat.add_one_le_iff, List.setIfInBounds_toArray, List.set_cons_zero, List.set_cons_succ] at hov
  repeat (go_big_quiet_step (first | (go_at_call 41; exact Calls.over _ (rectangle_any _ _ _ _ _)) | (go_at_call 50; exact Calls.over _ (rin_any _ _ _ _ _ _ _ _ _))))
  refine wpQuiet_nil ?_; intro wx hB; clear hov; have hR := hB.rules; simp only [Rules, World.size_alloc, Nat.add_one_le_iff, List.setIfInBounds_toArray, List.set_cons_zero, List.set_cons_succ] at hR
  go_wp2
  refine bodyPost_ret (v := .bool (rinB a b c d e f g h)) ?_ rfl ⟨rfl, ?_⟩
  · simp [results, Try.results29, go_sem]
  · repeat (first | exact ext_refl _ | exact hB.below | apply ext_alloc | apply ext_drew | (refine ext_set ?_ ?_; · first | (dsimp only; omega) | (simp; omega) | (simp; done)))

theorem iRectIntersect (a b c d e f g h : Int) (w : World) : Calls Try.prog 38 #[.agg #[.int .i64 a, .int .i64 b, .int .i64 c, .int .i64 d], .agg #[.int .i64 e, .int .i64 f, .int .i64 g, .int .i64 h]] w (Gives (.agg #[.int .i64 ((isect a b c d e f g h).a), .int .i64 ((isect a b c d e f g h).b), .int .i64 ((isect a b c d e f g h).c), .int .i64 ((isect a b c d e f g h).d)]) w) := by
  have hB := Known.start w
  go_enter Try.func38, Try.ntmps38
  go_wp2
  (first | with_reducible refine wp_region_known_tail hB 6 ?hm ?hB ?_ | with_reducible refine wp_region_known_tail hB.alloc 6 ?hm ?hB ?_ | with_reducible refine wp_region_known_tail hB.alloc.alloc 6 ?hm ?hB ?_ | with_reducible refine wp_region_known_tail hB.alloc.alloc.alloc 6 ?hm ?hB ?_ | with_reducible refine wp_region_known_tail hB.alloc.alloc.alloc.alloc 6 ?hm ?hB ?_ | with_reducible refine wp_region_known_tail hB.alloc.alloc.alloc.alloc.alloc 6 ?hm ?hB ?_ | with_reducible refine wp_region_known_tail hB.alloc.alloc.alloc.alloc.alloc.alloc 6 ?hm ?hB ?_); (case hm => kernel_rfl); (case hB => kernel_rfl); (try clear hR); intro hov; simp only [Rules, World.size_alloc, Nat.add_one_le_iff, List.setIfInBounds_toArray, List.set_cons_zero, List.set_cons_succ] at hov; simp only [List.take_succ_cons, List.take_zero, List.drop_succ_cons, List.drop_zero]
  repeat (go_big_quiet_step (first | (go_at_call 41; exact Calls.over _ (rectangle_any _ _ _ _ _)) | (go_at_call 40; exact Calls.over _ (four_any _ _ _ _ _)) | (go_at_call 58; exact Calls.over _ (isect_any _ _ _ _ _ _ _ _ _))))
  refine wpQuiet_nil ?_; intro wx hB; clear hov; have hR := hB.rules; simp only [Rules, World.size_alloc, Nat.add_one_le_iff, List.setIfInBounds_toArray, List.set_cons_zero, List.set_cons_succ] at hR
  go_wp2
  refine bodyPost_ret (v := .agg #[.int .i64 ((isect a b c d e f g h).a), .int .i64 ((isect a b c d e f g h).b), .int .i64 ((isect a b c d e f g h).c), .int .i64 ((isect a b c d e f g h).d)]) ?_ rfl ⟨rfl, ?_⟩
  · simp [results, Try.results38, go_sem, hR]
  · repeat (first | exact ext_refl _ | exact hB.below | apply ext_alloc | apply ext_drew | (refine ext_set ?_ ?_; · first | (dsimp only; omega) | (simp; omega) | (simp; done)))

theorem iRectUnion (a b c d e f g h : Int) (w : World) : Calls Try.prog 37 #[.agg #[.int .i64 a, .int .i64 b, .int .i64 c, .int .i64 d], .agg #[.int .i64 e, .int .i64 f, .int .i64 g, .int .i64 h]] w (Gives (.agg #[.int .i64 ((union a b c d e f g h).a), .int .i64 ((union a b c d e f g h).b), .int .i64 ((union a b c d e f g h).c), .int .i64 ((union a b c d e f g h).d)]) w) := by
  have hB := Known.start w
  go_enter Try.func37, Try.ntmps37
  go_wp2
  (first | with_reducible refine wp_region_known_tail hB 6 ?hm ?hB ?_ | with_reducible refine wp_region_known_tail hB.alloc 6 ?hm ?hB ?_ | with_reducible refine wp_region_known_tail hB.alloc.alloc 6 ?hm ?hB ?_ | with_reducible refine wp_region_known_tail hB.alloc.alloc.alloc 6 ?hm ?hB ?_ | with_reducible refine wp_region_known_tail hB.alloc.alloc.alloc.alloc 6 ?hm ?hB ?_ | with_reducible refine wp_region_known_tail hB.alloc.alloc.alloc.alloc.alloc 6 ?hm ?hB ?_ | with_reducible refine wp_region_known_tail hB.alloc.alloc.alloc.alloc.alloc.alloc 6 ?hm ?hB ?_); (case hm => kernel_rfl); (case hB => kernel_rfl); (try clear hR); intro hov; simp only [Rules, World.size_alloc, Nat.add_one_le_iff, List.setIfInBounds_toArray, List.set_cons_zero, List.set_cons_succ] at hov; simp only [List.take_succ_cons, List.take_zero, List.drop_succ_cons, List.drop_zero]
  repeat (go_big_quiet_step (first | (go_at_call 41; exact Calls.over _ (rectangle_any _ _ _ _ _)) | (go_at_call 40; exact Calls.over _ (four_any _ _ _ _ _)) | (go_at_call 57; exact Calls.over _ (union_any _ _ _ _ _ _ _ _ _))))
  refine wpQuiet_nil ?_; intro wx hB; clear hov; have hR := hB.rules; simp only [Rules, World.size_alloc, Nat.add_one_le_iff, List.setIfInBounds_toArray, List.set_cons_zero, List.set_cons_succ] at hR
  go_wp2
  refine bodyPost_ret (v := .agg #[.int .i64 ((union a b c d e f g h).a), .int .i64 ((union a b c d e f g h).b), .int .i64 ((union a b c d e f g h).c), .int .i64 ((union a b c d e f g h).d)]) ?_ rfl ⟨rfl, ?_⟩
  · simp [results, Try.results37, go_sem, hR]
  · repeat (first | exact ext_refl _ | exact hB.below | apply ext_alloc | apply ext_drew | (refine ext_set ?_ ?_; · first | (dsimp only; omega) | (simp; omega) | (simp; done)))

theorem iRectInset (a b c d n : Int) (w : World) : Calls Try.prog 20 #[.agg #[.int .i64 a, .int .i64 b, .int .i64 c, .int .i64 d], .int .i64 n] w (Gives (.agg #[.int .i64 (insLo a c n), .int .i64 (insLo b d n), .int .i64 (insHi a c n), .int .i64 (insHi b d n)]) w) := by
  have hB := Known.start w
  go_enter Try.func20, Try.ntmps20
  go_wp2_with (first | (go_at_call 41; refine (rectangle_any _ _ _ _ _).mono ?_; rintro e w1 ⟨rfl, hn⟩; (first | with_reducible replace hB := (hB).keep hn | with_reducible replace hB := (hB.alloc).keep hn | with_reducible replace hB := (hB.alloc.alloc).keep hn | with_reducible replace hB := (hB.alloc.alloc.alloc).keep hn | with_reducible replace hB := (hB.alloc.alloc.alloc.alloc).keep hn | with_reducible replace hB := (hB.alloc.alloc.alloc.alloc.alloc).keep hn | with_reducible replace hB := (hB.alloc.alloc.alloc.alloc.alloc.alloc).keep hn | with_reducible replace hB := (((hB.set1 hb1 hb2).set1 hb1 hb2)).keep hn | with_reducible replace hB := (((((hB.set1 hb1 hb2).set1 hb1 hb2).set1 hb1 hb2).set1 hb1 hb2)).keep hn); clear hn; (try clear hR); have hR := hB.rules; simp only [Rules, World.size_alloc, Nat.add_one_le_iff, List.setIfInBounds_toArray, List.set_cons_zero, List.set_cons_succ] at hR) | (go_at_call 40; refine (four_any _ _ _ _ _).mono ?_; rintro e w1 ⟨rfl, hn⟩; (first | with_reducible replace hB := (hB).keep hn | with_reducible replace hB := (hB.alloc).keep hn | with_reducible replace hB := (hB.alloc.alloc).keep hn | with_reducible replace hB := (hB.alloc.alloc.alloc).keep hn | with_reducible replace hB := (hB.alloc.alloc.alloc.alloc).keep hn | with_reducible replace hB := (hB.alloc.alloc.alloc.alloc.alloc).keep hn | with_reducible replace hB := (hB.alloc.alloc.alloc.alloc.alloc.alloc).keep hn | with_reducible replace hB := (((hB.set1 hb1 hb2).set1 hb1 hb2)).keep hn | with_reducible replace hB := (((((hB.set1 hb1 hb2).set1 hb1 hb2).set1 hb1 hb2).set1 hb1 hb2)).keep hn); clear hn; (try clear hR); have hR := hB.rules; simp only [Rules, World.size_alloc, Nat.add_one_le_iff, List.setIfInBounds_toArray, List.set_cons_zero, List.set_cons_succ] at hR) | (go_at_call 42; refine (inset_any _ _ _ _ _ _).mono ?_; rintro e w1 ⟨rfl, hn⟩; (first | with_reducible replace hB := (hB).keep hn | with_reducible replace hB := (hB.alloc).keep hn | with_reducible replace hB := (hB.alloc.alloc).keep hn | with_reducible replace hB := (hB.alloc.alloc.alloc).keep hn | with_reducible replace hB := (hB.alloc.alloc.alloc.alloc).keep hn | with_reducible replace hB := (hB.alloc.alloc.alloc.alloc.alloc).keep hn | with_reducible replace hB := (hB.alloc.alloc.alloc.alloc.alloc.alloc).keep hn | with_reducible replace hB := (((hB.set1 hb1 hb2).set1 hb1 hb2)).keep hn | with_reducible replace hB := (((((hB.set1 hb1 hb2).set1 hb1 hb2).set1 hb1 hb2).set1 hb1 hb2)).keep hn); clear hn; (try clear hR); have hR := hB.rules; simp only [Rules, World.size_alloc, Nat.add_one_le_iff, List.setIfInBounds_toArray, List.set_cons_zero, List.set_cons_succ] at hR))
  refine bodyPost_ret (v := .agg #[.int .i64 (insLo a c n), .int .i64 (insLo b d n), .int .i64 (insHi a c n), .int .i64 (insHi b d n)]) ?_ rfl ⟨rfl, ?_⟩
  · simp [results, Try.results20, go_sem, hR]
  · repeat (first | exact ext_refl _ | exact hB.below | apply ext_alloc | apply ext_drew | (refine ext_set ?_ ?_; · first | (dsimp only; omega) | (simp; omega) | (simp; done)))

end Go.Proofs.Ytfhimelhfckjdaa
