/-
  The contracts of the thin package's functions that this seat reaches: what each hands back, and that it changes nothing that was there.
  Conditions: only those that a theorem writes out (a divisor that is not 0).
-/
import Derived.Test.YtngfknnlojadeaaLib
namespace Go.Proofs.Ytngfknnlojadeaa
open Go.RowKit
set_option linter.unusedSimpArgs false
set_option linter.unusedVariables false
set_option maxHeartbeats 2000000

theorem iPointAdd (a b c d : Int) (w : World) : Calls Try.prog 24 #[.agg #[.int .i64 a, .int .i64 b], .agg #[.int .i64 c, .int .i64 d]] w (Gives (.agg #[.int .i64 (wrap64 (a + c)), .int .i64 (wrap64 (b + d))]) w) := by
  have hB := Known.start w
  go_enter Try.func24, Try.ntmps24
  go_wp2
  (first | refine wp_region_known_tail hB 6 (by kernel_rfl) (by kernel_rfl) ?_ | refine wp_region_known_tail hB.alloc 6 (by kernel_rfl) (by kernel_rfl) ?_ | refine wp_region_known_tail hB.alloc.alloc 6 (by kernel_rfl) (by kernel_rfl) ?_ | refine wp_region_known_tail hB.alloc.alloc.alloc 6 (by kernel_rfl) (by kernel_rfl) ?_ | refine wp_region_known_tail hB.alloc.alloc.alloc.alloc 6 (by kernel_rfl) (by kernel_rfl) ?_ | refine wp_region_known_tail hB.alloc.alloc.alloc.alloc.alloc 6 (by kernel_rfl) (by kernel_rfl) ?_ | refine wp_region_known_tail hB.alloc.alloc.alloc.alloc.alloc.alloc 6 (by kernel_rfl) (by kernel_rfl) ?_); (try clear hR); intro hov; simp only [Rules, World.size_alloc, Nat.add_one_le_iff] at hov; simp only [List.take_succ_cons, List.take_zero, List.drop_succ_cons, List.drop_zero]
  repeat (go_big_quiet_step (first | (go_at_call 35; exact Calls.over _ (point_any _ _ _)) | (go_at_call 43; exact Calls.over _ (pair_any _ _ _)) | (go_at_call 44; exact Calls.over _ (padd_any _ _ _ _ _))))
  refine wpQuiet_nil ?_; intro wx hB; clear hov; have hR := hB.rules; simp only [Rules, World.size_alloc, Nat.add_one_le_iff] at hR
  go_wp2
  refine bodyPost_ret (v := .agg #[.int .i64 (wrap64 (a + c)), .int .i64 (wrap64 (b + d))]) ?_ rfl ⟨rfl, ?_⟩
  · simp [results, Try.results24, go_sem, hR]
  · repeat (first | exact ext_refl _ | exact hB.below | apply ext_alloc | apply ext_drew | (refine ext_set ?_ ?_; · first | (dsimp only; omega) | (simp; omega) | (simp; done)))

theorem iPointSub (a b c d : Int) (w : World) : Calls Try.prog 25 #[.agg #[.int .i64 a, .int .i64 b], .agg #[.int .i64 c, .int .i64 d]] w (Gives (.agg #[.int .i64 (wrap64 (a - c)), .int .i64 (wrap64 (b - d))]) w) := by
  have hB := Known.start w
  go_enter Try.func25, Try.ntmps25
  go_wp2
  (first | refine wp_region_known_tail hB 6 (by kernel_rfl) (by kernel_rfl) ?_ | refine wp_region_known_tail hB.alloc 6 (by kernel_rfl) (by kernel_rfl) ?_ | refine wp_region_known_tail hB.alloc.alloc 6 (by kernel_rfl) (by kernel_rfl) ?_ | refine wp_region_known_tail hB.alloc.alloc.alloc 6 (by kernel_rfl) (by kernel_rfl) ?_ | refine wp_region_known_tail hB.alloc.alloc.alloc.alloc 6 (by kernel_rfl) (by kernel_rfl) ?_ | refine wp_region_known_tail hB.alloc.alloc.alloc.alloc.alloc 6 (by kernel_rfl) (by kernel_rfl) ?_ | refine wp_region_known_tail hB.alloc.alloc.alloc.alloc.alloc.alloc 6 (by kernel_rfl) (by kernel_rfl) ?_); (try clear hR); intro hov; simp only [Rules, World.size_alloc, Nat.add_one_le_iff] at hov; simp only [List.take_succ_cons, List.take_zero, List.drop_succ_cons, List.drop_zero]
  repeat (go_big_quiet_step (first | (go_at_call 35; exact Calls.over _ (point_any _ _ _)) | (go_at_call 43; exact Calls.over _ (pair_any _ _ _)) | (go_at_call 45; exact Calls.over _ (psub_any _ _ _ _ _))))
  refine wpQuiet_nil ?_; intro wx hB; clear hov; have hR := hB.rules; simp only [Rules, World.size_alloc, Nat.add_one_le_iff] at hR
  go_wp2
  refine bodyPost_ret (v := .agg #[.int .i64 (wrap64 (a - c)), .int .i64 (wrap64 (b - d))]) ?_ rfl ⟨rfl, ?_⟩
  · simp [results, Try.results25, go_sem, hR]
  · repeat (first | exact ext_refl _ | exact hB.below | apply ext_alloc | apply ext_drew | (refine ext_set ?_ ?_; · first | (dsimp only; omega) | (simp; omega) | (simp; done)))

theorem iPointMul (a b k : Int) (w : World) : Calls Try.prog 28 #[.agg #[.int .i64 a, .int .i64 b], .int .i64 k] w (Gives (.agg #[.int .i64 (wrap64 (a * k)), .int .i64 (wrap64 (b * k))]) w) := by
  have hB := Known.start w
  go_enter Try.func28, Try.ntmps28
  go_wp2_with (first | (go_at_call 35; refine (point_any _ _ _).mono ?_; rintro e w1 ⟨rfl, hn⟩; (first | replace hB := (hB).keep hn | replace hB := (hB.alloc).keep hn | replace hB := (hB.alloc.alloc).keep hn | replace hB := (hB.alloc.alloc.alloc).keep hn | replace hB := (hB.alloc.alloc.alloc.alloc).keep hn | replace hB := (hB.alloc.alloc.alloc.alloc.alloc).keep hn | replace hB := (hB.alloc.alloc.alloc.alloc.alloc.alloc).keep hn); clear hn; (try clear hR); have hR := hB.rules; simp only [Rules, World.size_alloc, Nat.add_one_le_iff] at hR) | (go_at_call 43; refine (pair_any _ _ _).mono ?_; rintro e w1 ⟨rfl, hn⟩; (first | replace hB := (hB).keep hn | replace hB := (hB.alloc).keep hn | replace hB := (hB.alloc.alloc).keep hn | replace hB := (hB.alloc.alloc.alloc).keep hn | replace hB := (hB.alloc.alloc.alloc.alloc).keep hn | replace hB := (hB.alloc.alloc.alloc.alloc.alloc).keep hn | replace hB := (hB.alloc.alloc.alloc.alloc.alloc.alloc).keep hn); clear hn; (try clear hR); have hR := hB.rules; simp only [Rules, World.size_alloc, Nat.add_one_le_iff] at hR) | (go_at_call 47; refine (pmul_any _ _ _ _).mono ?_; rintro e w1 ⟨rfl, hn⟩; (first | replace hB := (hB).keep hn | replace hB := (hB.alloc).keep hn | replace hB := (hB.alloc.alloc).keep hn | replace hB := (hB.alloc.alloc.alloc).keep hn | replace hB := (hB.alloc.alloc.alloc.alloc).keep hn | replace hB := (hB.alloc.alloc.alloc.alloc.alloc).keep hn | replace hB := (hB.alloc.alloc.alloc.alloc.alloc.alloc).keep hn); clear hn; (try clear hR); have hR := hB.rules; simp only [Rules, World.size_alloc, Nat.add_one_le_iff] at hR))
  refine bodyPost_ret (v := .agg #[.int .i64 (wrap64 (a * k)), .int .i64 (wrap64 (b * k))]) ?_ rfl ⟨rfl, ?_⟩
  · simp [results, Try.results28, go_sem, hR]
  · repeat (first | exact ext_refl _ | exact hB.below | apply ext_alloc | apply ext_drew | (refine ext_set ?_ ?_; · first | (dsimp only; omega) | (simp; omega) | (simp; done)))

theorem iPointDiv (a b k : Int) (w : World) (hk : (k == 0) = false) : Calls Try.prog 27 #[.agg #[.int .i64 a, .int .i64 b], .int .i64 k] w (Gives (.agg #[.int .i64 (wrap64 (a.tdiv k)), .int .i64 (wrap64 (b.tdiv k))]) w) := by
  have hB := Known.start w
  go_enter Try.func27, Try.ntmps27
  go_wp2_with (first | (go_at_call 35; refine (point_any _ _ _).mono ?_; rintro e w1 ⟨rfl, hn⟩; (first | replace hB := (hB).keep hn | replace hB := (hB.alloc).keep hn | replace hB := (hB.alloc.alloc).keep hn | replace hB := (hB.alloc.alloc.alloc).keep hn | replace hB := (hB.alloc.alloc.alloc.alloc).keep hn | replace hB := (hB.alloc.alloc.alloc.alloc.alloc).keep hn | replace hB := (hB.alloc.alloc.alloc.alloc.alloc.alloc).keep hn); clear hn; (try clear hR); have hR := hB.rules; simp only [Rules, World.size_alloc, Nat.add_one_le_iff] at hR) | (go_at_call 43; refine (pair_any _ _ _).mono ?_; rintro e w1 ⟨rfl, hn⟩; (first | replace hB := (hB).keep hn | replace hB := (hB.alloc).keep hn | replace hB := (hB.alloc.alloc).keep hn | replace hB := (hB.alloc.alloc.alloc).keep hn | replace hB := (hB.alloc.alloc.alloc.alloc).keep hn | replace hB := (hB.alloc.alloc.alloc.alloc.alloc).keep hn | replace hB := (hB.alloc.alloc.alloc.alloc.alloc.alloc).keep hn); clear hn; (try clear hR); have hR := hB.rules; simp only [Rules, World.size_alloc, Nat.add_one_le_iff] at hR) | (go_at_call 46; refine (pdiv_any _ _ _ _ hk).mono ?_; rintro e w1 ⟨rfl, hn⟩; (first | replace hB := (hB).keep hn | replace hB := (hB.alloc).keep hn | replace hB := (hB.alloc.alloc).keep hn | replace hB := (hB.alloc.alloc.alloc).keep hn | replace hB := (hB.alloc.alloc.alloc.alloc).keep hn | replace hB := (hB.alloc.alloc.alloc.alloc.alloc).keep hn | replace hB := (hB.alloc.alloc.alloc.alloc.alloc.alloc).keep hn); clear hn; (try clear hR); have hR := hB.rules; simp only [Rules, World.size_alloc, Nat.add_one_le_iff] at hR))
  refine bodyPost_ret (v := .agg #[.int .i64 (wrap64 (a.tdiv k)), .int .i64 (wrap64 (b.tdiv k))]) ?_ rfl ⟨rfl, ?_⟩
  · simp [results, Try.results27, go_sem, hR]
  · repeat (first | exact ext_refl _ | exact hB.below | apply ext_alloc | apply ext_drew | (refine ext_set ?_ ?_; · first | (dsimp only; omega) | (simp; omega) | (simp; done)))

theorem iPointIn (x y a b c d : Int) (w : World) : Calls Try.prog 16 #[.agg #[.int .i64 x, .int .i64 y], .agg #[.int .i64 a, .int .i64 b, .int .i64 c, .int .i64 d]] w (Gives (.bool (inB x y a b c d)) w) := by
  have hB := Known.start w
  go_enter Try.func16, Try.ntmps16
  go_wp2
  (first | refine wp_region_known hB (by kernel_rfl) (by kernel_rfl) ?_ | refine wp_region_known hB.alloc (by kernel_rfl) (by kernel_rfl) ?_ | refine wp_region_known hB.alloc.alloc (by kernel_rfl) (by kernel_rfl) ?_ | refine wp_region_known hB.alloc.alloc.alloc (by kernel_rfl) (by kernel_rfl) ?_ | refine wp_region_known hB.alloc.alloc.alloc.alloc (by kernel_rfl) (by kernel_rfl) ?_ | refine wp_region_known hB.alloc.alloc.alloc.alloc.alloc (by kernel_rfl) (by kernel_rfl) ?_ | refine wp_region_known hB.alloc.alloc.alloc.alloc.alloc.alloc (by kernel_rfl) (by kernel_rfl) ?_); (try clear hR); intro hov; simp only [Rules, World.size_alloc, Nat.add_one_le_iff] at hov
  repeat (go_big_quiet_step (first | (go_at_call 35; exact Calls.over _ (point_any _ _ _)) | (go_at_call 37; exact Calls.over _ (rectangle_any _ _ _ _ _)) | (go_at_call 36; exact Calls.over _ (pin_any _ _ _ _ _ _ _))))
  refine wpQuiet_nil ?_; intro wx hB; clear hov; have hR := hB.rules; simp only [Rules, World.size_alloc, Nat.add_one_le_iff] at hR
  go_wp2
  refine bodyPost_ret (v := .bool (inB x y a b c d)) ?_ rfl ⟨rfl, ?_⟩
  · simp [results, Try.results16, go_sem]
  · repeat (first | exact ext_refl _ | exact hB.below | apply ext_alloc | apply ext_drew | (refine ext_set ?_ ?_; · first | (dsimp only; omega) | (simp; omega) | (simp; done)))

theorem iRectAdd (a b c d x y : Int) (w : World) : Calls Try.prog 21 #[.agg #[.int .i64 a, .int .i64 b, .int .i64 c, .int .i64 d], .agg #[.int .i64 x, .int .i64 y]] w (Gives (.agg #[.int .i64 (wrap64 (a + x)), .int .i64 (wrap64 (b + y)), .int .i64 (wrap64 (c + x)), .int .i64 (wrap64 (d + y))]) w) := by
  have hB := Known.start w
  go_enter Try.func21, Try.ntmps21
  go_wp2
  (first | refine wp_region_known_tail hB 6 (by kernel_rfl) (by kernel_rfl) ?_ | refine wp_region_known_tail hB.alloc 6 (by kernel_rfl) (by kernel_rfl) ?_ | refine wp_region_known_tail hB.alloc.alloc 6 (by kernel_rfl) (by kernel_rfl) ?_ | refine wp_region_known_tail hB.alloc.alloc.alloc 6 (by kernel_rfl) (by kernel_rfl) ?_ | refine wp_region_known_tail hB.alloc.alloc.alloc.alloc 6 (by kernel_rfl) (by kernel_rfl) ?_ | refine wp_region_known_tail hB.alloc.alloc.alloc.alloc.alloc 6 (by kernel_rfl) (by kernel_rfl) ?_ | refine wp_region_known_tail hB.alloc.alloc.alloc.alloc.alloc.alloc 6 (by kernel_rfl) (by kernel_rfl) ?_); (try clear hR); intro hov; simp only [Rules, World.size_alloc, Nat.add_one_le_iff] at hov; simp only [List.take_succ_cons, List.take_zero, List.drop_succ_cons, List.drop_zero]
  repeat (go_big_quiet_step (first | (go_at_call 37; exact Calls.over _ (rectangle_any _ _ _ _ _)) | (go_at_call 35; exact Calls.over _ (point_any _ _ _)) | (go_at_call 39; exact Calls.over _ (four_any _ _ _ _ _)) | (go_at_call 40; exact Calls.over _ (radd_any _ _ _ _ _ _ _))))
  refine wpQuiet_nil ?_; intro wx hB; clear hov; have hR := hB.rules; simp only [Rules, World.size_alloc, Nat.add_one_le_iff] at hR
  go_wp2
  refine bodyPost_ret (v := .agg #[.int .i64 (wrap64 (a + x)), .int .i64 (wrap64 (b + y)), .int .i64 (wrap64 (c + x)), .int .i64 (wrap64 (d + y))]) ?_ rfl ⟨rfl, ?_⟩
  · simp [results, Try.results21, go_sem, hR]
  · repeat (first | exact ext_refl _ | exact hB.below | apply ext_alloc | apply ext_drew | (refine ext_set ?_ ?_; · first | (dsimp only; omega) | (simp; omega) | (simp; done)))

theorem iRectSub (a b c d x y : Int) (w : World) : Calls Try.prog 23 #[.agg #[.int .i64 a, .int .i64 b, .int .i64 c, .int .i64 d], .agg #[.int .i64 x, .int .i64 y]] w (Gives (.agg #[.int .i64 (wrap64 (a - x)), .int .i64 (wrap64 (b - y)), .int .i64 (wrap64 (c - x)), .int .i64 (wrap64 (d - y))]) w) := by
  have hB := Known.start w
  go_enter Try.func23, Try.ntmps23
  go_wp2
  (first | refine wp_region_known_tail hB 6 (by kernel_rfl) (by kernel_rfl) ?_ | refine wp_region_known_tail hB.alloc 6 (by kernel_rfl) (by kernel_rfl) ?_ | refine wp_region_known_tail hB.alloc.alloc 6 (by kernel_rfl) (by kernel_rfl) ?_ | refine wp_region_known_tail hB.alloc.alloc.alloc 6 (by kernel_rfl) (by kernel_rfl) ?_ | refine wp_region_known_tail hB.alloc.alloc.alloc.alloc 6 (by kernel_rfl) (by kernel_rfl) ?_ | refine wp_region_known_tail hB.alloc.alloc.alloc.alloc.alloc 6 (by kernel_rfl) (by kernel_rfl) ?_ | refine wp_region_known_tail hB.alloc.alloc.alloc.alloc.alloc.alloc 6 (by kernel_rfl) (by kernel_rfl) ?_); (try clear hR); intro hov; simp only [Rules, World.size_alloc, Nat.add_one_le_iff] at hov; simp only [List.take_succ_cons, List.take_zero, List.drop_succ_cons, List.drop_zero]
  repeat (go_big_quiet_step (first | (go_at_call 37; exact Calls.over _ (rectangle_any _ _ _ _ _)) | (go_at_call 35; exact Calls.over _ (point_any _ _ _)) | (go_at_call 39; exact Calls.over _ (four_any _ _ _ _ _)) | (go_at_call 42; exact Calls.over _ (rsub_any _ _ _ _ _ _ _))))
  refine wpQuiet_nil ?_; intro wx hB; clear hov; have hR := hB.rules; simp only [Rules, World.size_alloc, Nat.add_one_le_iff] at hR
  go_wp2
  refine bodyPost_ret (v := .agg #[.int .i64 (wrap64 (a - x)), .int .i64 (wrap64 (b - y)), .int .i64 (wrap64 (c - x)), .int .i64 (wrap64 (d - y))]) ?_ rfl ⟨rfl, ?_⟩
  · simp [results, Try.results23, go_sem, hR]
  · repeat (first | exact ext_refl _ | exact hB.below | apply ext_alloc | apply ext_drew | (refine ext_set ?_ ?_; · first | (dsimp only; omega) | (simp; omega) | (simp; done)))

theorem iRectDx (a b c d : Int) (w : World) : Calls Try.prog 32 #[.agg #[.int .i64 a, .int .i64 b, .int .i64 c, .int .i64 d]] w (Gives (.int .i64 (wrap64 (c - a))) w) := by
  have hB := Known.start w
  go_enter Try.func32, Try.ntmps32
  go_wp2_with (first | (go_at_call 37; refine (rectangle_any _ _ _ _ _).mono ?_; rintro e w1 ⟨rfl, hn⟩; (first | replace hB := (hB).keep hn | replace hB := (hB.alloc).keep hn | replace hB := (hB.alloc.alloc).keep hn | replace hB := (hB.alloc.alloc.alloc).keep hn | replace hB := (hB.alloc.alloc.alloc.alloc).keep hn | replace hB := (hB.alloc.alloc.alloc.alloc.alloc).keep hn | replace hB := (hB.alloc.alloc.alloc.alloc.alloc.alloc).keep hn); clear hn; (try clear hR); have hR := hB.rules; simp only [Rules, World.size_alloc, Nat.add_one_le_iff] at hR) | (go_at_call 48; refine (dx_any _ _ _ _ _).mono ?_; rintro e w1 ⟨rfl, hn⟩; (first | replace hB := (hB).keep hn | replace hB := (hB.alloc).keep hn | replace hB := (hB.alloc.alloc).keep hn | replace hB := (hB.alloc.alloc.alloc).keep hn | replace hB := (hB.alloc.alloc.alloc.alloc).keep hn | replace hB := (hB.alloc.alloc.alloc.alloc.alloc).keep hn | replace hB := (hB.alloc.alloc.alloc.alloc.alloc.alloc).keep hn); clear hn; (try clear hR); have hR := hB.rules; simp only [Rules, World.size_alloc, Nat.add_one_le_iff] at hR))
  refine bodyPost_ret (v := .int .i64 (wrap64 (c - a))) ?_ rfl ⟨rfl, ?_⟩
  · simp [results, Try.results32, go_sem, hR]
  · repeat (first | exact ext_refl _ | exact hB.below | apply ext_alloc | apply ext_drew | (refine ext_set ?_ ?_; · first | (dsimp only; omega) | (simp; omega) | (simp; done)))

theorem iRectDy (a b c d : Int) (w : World) : Calls Try.prog 33 #[.agg #[.int .i64 a, .int .i64 b, .int .i64 c, .int .i64 d]] w (Gives (.int .i64 (wrap64 (d - b))) w) := by
  have hB := Known.start w
  go_enter Try.func33, Try.ntmps33
  go_wp2_with (first | (go_at_call 37; refine (rectangle_any _ _ _ _ _).mono ?_; rintro e w1 ⟨rfl, hn⟩; (first | replace hB := (hB).keep hn | replace hB := (hB.alloc).keep hn | replace hB := (hB.alloc.alloc).keep hn | replace hB := (hB.alloc.alloc.alloc).keep hn | replace hB := (hB.alloc.alloc.alloc.alloc).keep hn | replace hB := (hB.alloc.alloc.alloc.alloc.alloc).keep hn | replace hB := (hB.alloc.alloc.alloc.alloc.alloc.alloc).keep hn); clear hn; (try clear hR); have hR := hB.rules; simp only [Rules, World.size_alloc, Nat.add_one_le_iff] at hR) | (go_at_call 49; refine (dy_any _ _ _ _ _).mono ?_; rintro e w1 ⟨rfl, hn⟩; (first | replace hB := (hB).keep hn | replace hB := (hB.alloc).keep hn | replace hB := (hB.alloc.alloc).keep hn | replace hB := (hB.alloc.alloc.alloc).keep hn | replace hB := (hB.alloc.alloc.alloc.alloc).keep hn | replace hB := (hB.alloc.alloc.alloc.alloc.alloc).keep hn | replace hB := (hB.alloc.alloc.alloc.alloc.alloc.alloc).keep hn); clear hn; (try clear hR); have hR := hB.rules; simp only [Rules, World.size_alloc, Nat.add_one_le_iff] at hR))
  refine bodyPost_ret (v := .int .i64 (wrap64 (d - b))) ?_ rfl ⟨rfl, ?_⟩
  · simp [results, Try.results33, go_sem, hR]
  · repeat (first | exact ext_refl _ | exact hB.below | apply ext_alloc | apply ext_drew | (refine ext_set ?_ ?_; · first | (dsimp only; omega) | (simp; omega) | (simp; done)))

theorem iRectSize (a b c d : Int) (w : World) : Calls Try.prog 34 #[.agg #[.int .i64 a, .int .i64 b, .int .i64 c, .int .i64 d]] w (Gives (.agg #[.int .i64 (wrap64 (c - a)), .int .i64 (wrap64 (d - b))]) w) := by
  have hB := Known.start w
  go_enter Try.func34, Try.ntmps34
  go_wp2_with (first | (go_at_call 37; refine (rectangle_any _ _ _ _ _).mono ?_; rintro e w1 ⟨rfl, hn⟩; (first | replace hB := (hB).keep hn | replace hB := (hB.alloc).keep hn | replace hB := (hB.alloc.alloc).keep hn | replace hB := (hB.alloc.alloc.alloc).keep hn | replace hB := (hB.alloc.alloc.alloc.alloc).keep hn | replace hB := (hB.alloc.alloc.alloc.alloc.alloc).keep hn | replace hB := (hB.alloc.alloc.alloc.alloc.alloc.alloc).keep hn); clear hn; (try clear hR); have hR := hB.rules; simp only [Rules, World.size_alloc, Nat.add_one_le_iff] at hR) | (go_at_call 43; refine (pair_any _ _ _).mono ?_; rintro e w1 ⟨rfl, hn⟩; (first | replace hB := (hB).keep hn | replace hB := (hB.alloc).keep hn | replace hB := (hB.alloc.alloc).keep hn | replace hB := (hB.alloc.alloc.alloc).keep hn | replace hB := (hB.alloc.alloc.alloc.alloc).keep hn | replace hB := (hB.alloc.alloc.alloc.alloc.alloc).keep hn | replace hB := (hB.alloc.alloc.alloc.alloc.alloc.alloc).keep hn); clear hn; (try clear hR); have hR := hB.rules; simp only [Rules, World.size_alloc, Nat.add_one_le_iff] at hR) | (go_at_call 50; refine (size_any _ _ _ _ _).mono ?_; rintro e w1 ⟨rfl, hn⟩; (first | replace hB := (hB).keep hn | replace hB := (hB.alloc).keep hn | replace hB := (hB.alloc.alloc).keep hn | replace hB := (hB.alloc.alloc.alloc).keep hn | replace hB := (hB.alloc.alloc.alloc.alloc).keep hn | replace hB := (hB.alloc.alloc.alloc.alloc.alloc).keep hn | replace hB := (hB.alloc.alloc.alloc.alloc.alloc.alloc).keep hn); clear hn; (try clear hR); have hR := hB.rules; simp only [Rules, World.size_alloc, Nat.add_one_le_iff] at hR))
  refine bodyPost_ret (v := .agg #[.int .i64 (wrap64 (c - a)), .int .i64 (wrap64 (d - b))]) ?_ rfl ⟨rfl, ?_⟩
  · simp [results, Try.results34, go_sem, hR]
  · repeat (first | exact ext_refl _ | exact hB.below | apply ext_alloc | apply ext_drew | (refine ext_set ?_ ?_; · first | (dsimp only; omega) | (simp; omega) | (simp; done)))

end Go.Proofs.Ytngfknnlojadeaa
