/-
  The contracts of the thin package's functions that this seat reaches: what each hands back, and that it changes nothing that was there.
  Conditions: only those that a theorem writes out (a divisor that is not 0).
-/
import Derived.Test.YtockppelodnhlaaLib
namespace Go.Proofs.Ytockppelodnhlaa
open Go.RowKit
set_option linter.unusedSimpArgs false
set_option linter.unusedVariables false
set_option maxHeartbeats 2000000

theorem iNewPoint (a b : Int) (w : World) : Calls Try.prog 16 #[.int .i64 a, .int .i64 b] w (Gives (.agg #[.int .i64 a, .int .i64 b]) w) := by
  have hB := Known.start w
  go_enter Try.func16, Try.ntmps16
  go_wp2_with (first | (go_at_call 32; refine (pt_any _ _ _).mono ?_; rintro e w1 ⟨rfl, hn⟩; (first | replace hB := (hB).keep hn | replace hB := (hB.alloc).keep hn | replace hB := (hB.alloc.alloc).keep hn | replace hB := (hB.alloc.alloc.alloc).keep hn | replace hB := (hB.alloc.alloc.alloc.alloc).keep hn | replace hB := (hB.alloc.alloc.alloc.alloc.alloc).keep hn | replace hB := (hB.alloc.alloc.alloc.alloc.alloc.alloc).keep hn); clear hn; (try clear hR); have hR := hB.rules; simp only [Rules, World.size_alloc, Nat.add_one_le_iff] at hR) | (go_at_call 31; refine (pair_any _ _ _).mono ?_; rintro e w1 ⟨rfl, hn⟩; (first | replace hB := (hB).keep hn | replace hB := (hB.alloc).keep hn | replace hB := (hB.alloc.alloc).keep hn | replace hB := (hB.alloc.alloc.alloc).keep hn | replace hB := (hB.alloc.alloc.alloc.alloc).keep hn | replace hB := (hB.alloc.alloc.alloc.alloc.alloc).keep hn | replace hB := (hB.alloc.alloc.alloc.alloc.alloc.alloc).keep hn); clear hn; (try clear hR); have hR := hB.rules; simp only [Rules, World.size_alloc, Nat.add_one_le_iff] at hR))
  refine bodyPost_ret (v := .agg #[.int .i64 a, .int .i64 b]) ?_ rfl ⟨rfl, ?_⟩
  · simp [results, Try.results16, go_sem, hR]
  · repeat (first | exact ext_refl _ | exact hB.below | apply ext_alloc | apply ext_drew | (refine ext_set ?_ ?_; · first | (dsimp only; omega) | (simp; omega) | (simp; done)))

theorem iPointAdd (a b c d : Int) (w : World) : Calls Try.prog 27 #[.agg #[.int .i64 a, .int .i64 b], .agg #[.int .i64 c, .int .i64 d]] w (Gives (.agg #[.int .i64 (wrap64 (a + c)), .int .i64 (wrap64 (b + d))]) w) := by
  have hB := Known.start w
  go_enter Try.func27, Try.ntmps27
  go_wp2
  (first | refine wp_region_known_tail hB 6 (by kernel_rfl) (by kernel_rfl) ?_ | refine wp_region_known_tail hB.alloc 6 (by kernel_rfl) (by kernel_rfl) ?_ | refine wp_region_known_tail hB.alloc.alloc 6 (by kernel_rfl) (by kernel_rfl) ?_ | refine wp_region_known_tail hB.alloc.alloc.alloc 6 (by kernel_rfl) (by kernel_rfl) ?_ | refine wp_region_known_tail hB.alloc.alloc.alloc.alloc 6 (by kernel_rfl) (by kernel_rfl) ?_ | refine wp_region_known_tail hB.alloc.alloc.alloc.alloc.alloc 6 (by kernel_rfl) (by kernel_rfl) ?_ | refine wp_region_known_tail hB.alloc.alloc.alloc.alloc.alloc.alloc 6 (by kernel_rfl) (by kernel_rfl) ?_); (try clear hR); intro hov; simp only [Rules, World.size_alloc, Nat.add_one_le_iff] at hov; simp only [List.take_succ_cons, List.take_zero, List.drop_succ_cons, List.drop_zero]
  repeat (go_big_quiet_step (first | (go_at_call 33; exact Calls.over _ (point_any _ _ _)) | (go_at_call 31; exact Calls.over _ (pair_any _ _ _)) | (go_at_call 39; exact Calls.over _ (padd_any _ _ _ _ _))))
  refine wpQuiet_nil ?_; intro wx hB; clear hov; have hR := hB.rules; simp only [Rules, World.size_alloc, Nat.add_one_le_iff] at hR
  go_wp2
  refine bodyPost_ret (v := .agg #[.int .i64 (wrap64 (a + c)), .int .i64 (wrap64 (b + d))]) ?_ rfl ⟨rfl, ?_⟩
  · simp [results, Try.results27, go_sem, hR]
  · repeat (first | exact ext_refl _ | exact hB.below | apply ext_alloc | apply ext_drew | (refine ext_set ?_ ?_; · first | (dsimp only; omega) | (simp; omega) | (simp; done)))

theorem iPointSub (a b c d : Int) (w : World) : Calls Try.prog 30 #[.agg #[.int .i64 a, .int .i64 b], .agg #[.int .i64 c, .int .i64 d]] w (Gives (.agg #[.int .i64 (wrap64 (a - c)), .int .i64 (wrap64 (b - d))]) w) := by
  have hB := Known.start w
  go_enter Try.func30, Try.ntmps30
  go_wp2
  (first | refine wp_region_known_tail hB 6 (by kernel_rfl) (by kernel_rfl) ?_ | refine wp_region_known_tail hB.alloc 6 (by kernel_rfl) (by kernel_rfl) ?_ | refine wp_region_known_tail hB.alloc.alloc 6 (by kernel_rfl) (by kernel_rfl) ?_ | refine wp_region_known_tail hB.alloc.alloc.alloc 6 (by kernel_rfl) (by kernel_rfl) ?_ | refine wp_region_known_tail hB.alloc.alloc.alloc.alloc 6 (by kernel_rfl) (by kernel_rfl) ?_ | refine wp_region_known_tail hB.alloc.alloc.alloc.alloc.alloc 6 (by kernel_rfl) (by kernel_rfl) ?_ | refine wp_region_known_tail hB.alloc.alloc.alloc.alloc.alloc.alloc 6 (by kernel_rfl) (by kernel_rfl) ?_); (try clear hR); intro hov; simp only [Rules, World.size_alloc, Nat.add_one_le_iff] at hov; simp only [List.take_succ_cons, List.take_zero, List.drop_succ_cons, List.drop_zero]
  repeat (go_big_quiet_step (first | (go_at_call 33; exact Calls.over _ (point_any _ _ _)) | (go_at_call 31; exact Calls.over _ (pair_any _ _ _)) | (go_at_call 41; exact Calls.over _ (psub_any _ _ _ _ _))))
  refine wpQuiet_nil ?_; intro wx hB; clear hov; have hR := hB.rules; simp only [Rules, World.size_alloc, Nat.add_one_le_iff] at hR
  go_wp2
  refine bodyPost_ret (v := .agg #[.int .i64 (wrap64 (a - c)), .int .i64 (wrap64 (b - d))]) ?_ rfl ⟨rfl, ?_⟩
  · simp [results, Try.results30, go_sem, hR]
  · repeat (first | exact ext_refl _ | exact hB.below | apply ext_alloc | apply ext_drew | (refine ext_set ?_ ?_; · first | (dsimp only; omega) | (simp; omega) | (simp; done)))

theorem iPointMul (a b k : Int) (w : World) : Calls Try.prog 28 #[.agg #[.int .i64 a, .int .i64 b], .int .i64 k] w (Gives (.agg #[.int .i64 (wrap64 (a * k)), .int .i64 (wrap64 (b * k))]) w) := by
  have hB := Known.start w
  go_enter Try.func28, Try.ntmps28
  go_wp2_with (first | (go_at_call 33; refine (point_any _ _ _).mono ?_; rintro e w1 ⟨rfl, hn⟩; (first | replace hB := (hB).keep hn | replace hB := (hB.alloc).keep hn | replace hB := (hB.alloc.alloc).keep hn | replace hB := (hB.alloc.alloc.alloc).keep hn | replace hB := (hB.alloc.alloc.alloc.alloc).keep hn | replace hB := (hB.alloc.alloc.alloc.alloc.alloc).keep hn | replace hB := (hB.alloc.alloc.alloc.alloc.alloc.alloc).keep hn); clear hn; (try clear hR); have hR := hB.rules; simp only [Rules, World.size_alloc, Nat.add_one_le_iff] at hR) | (go_at_call 31; refine (pair_any _ _ _).mono ?_; rintro e w1 ⟨rfl, hn⟩; (first | replace hB := (hB).keep hn | replace hB := (hB.alloc).keep hn | replace hB := (hB.alloc.alloc).keep hn | replace hB := (hB.alloc.alloc.alloc).keep hn | replace hB := (hB.alloc.alloc.alloc.alloc).keep hn | replace hB := (hB.alloc.alloc.alloc.alloc.alloc).keep hn | replace hB := (hB.alloc.alloc.alloc.alloc.alloc.alloc).keep hn); clear hn; (try clear hR); have hR := hB.rules; simp only [Rules, World.size_alloc, Nat.add_one_le_iff] at hR) | (go_at_call 40; refine (pmul_any _ _ _ _).mono ?_; rintro e w1 ⟨rfl, hn⟩; (first | replace hB := (hB).keep hn | replace hB := (hB.alloc).keep hn | replace hB := (hB.alloc.alloc).keep hn | replace hB := (hB.alloc.alloc.alloc).keep hn | replace hB := (hB.alloc.alloc.alloc.alloc).keep hn | replace hB := (hB.alloc.alloc.alloc.alloc.alloc).keep hn | replace hB := (hB.alloc.alloc.alloc.alloc.alloc.alloc).keep hn); clear hn; (try clear hR); have hR := hB.rules; simp only [Rules, World.size_alloc, Nat.add_one_le_iff] at hR))
  refine bodyPost_ret (v := .agg #[.int .i64 (wrap64 (a * k)), .int .i64 (wrap64 (b * k))]) ?_ rfl ⟨rfl, ?_⟩
  · simp [results, Try.results28, go_sem, hR]
  · repeat (first | exact ext_refl _ | exact hB.below | apply ext_alloc | apply ext_drew | (refine ext_set ?_ ?_; · first | (dsimp only; omega) | (simp; omega) | (simp; done)))

theorem iPointDiv (a b k : Int) (w : World) (hk : (k == 0) = false) : Calls Try.prog 22 #[.agg #[.int .i64 a, .int .i64 b], .int .i64 k] w (Gives (.agg #[.int .i64 (wrap64 (a.tdiv k)), .int .i64 (wrap64 (b.tdiv k))]) w) := by
  have hB := Known.start w
  go_enter Try.func22, Try.ntmps22
  go_wp2_with (first | (go_at_call 33; refine (point_any _ _ _).mono ?_; rintro e w1 ⟨rfl, hn⟩; (first | replace hB := (hB).keep hn | replace hB := (hB.alloc).keep hn | replace hB := (hB.alloc.alloc).keep hn | replace hB := (hB.alloc.alloc.alloc).keep hn | replace hB := (hB.alloc.alloc.alloc.alloc).keep hn | replace hB := (hB.alloc.alloc.alloc.alloc.alloc).keep hn | replace hB := (hB.alloc.alloc.alloc.alloc.alloc.alloc).keep hn); clear hn; (try clear hR); have hR := hB.rules; simp only [Rules, World.size_alloc, Nat.add_one_le_iff] at hR) | (go_at_call 31; refine (pair_any _ _ _).mono ?_; rintro e w1 ⟨rfl, hn⟩; (first | replace hB := (hB).keep hn | replace hB := (hB.alloc).keep hn | replace hB := (hB.alloc.alloc).keep hn | replace hB := (hB.alloc.alloc.alloc).keep hn | replace hB := (hB.alloc.alloc.alloc.alloc).keep hn | replace hB := (hB.alloc.alloc.alloc.alloc.alloc).keep hn | replace hB := (hB.alloc.alloc.alloc.alloc.alloc.alloc).keep hn); clear hn; (try clear hR); have hR := hB.rules; simp only [Rules, World.size_alloc, Nat.add_one_le_iff] at hR) | (go_at_call 35; refine (pdiv_any _ _ _ _ hk).mono ?_; rintro e w1 ⟨rfl, hn⟩; (first | replace hB := (hB).keep hn | replace hB := (hB.alloc).keep hn | replace hB := (hB.alloc.alloc).keep hn | replace hB := (hB.alloc.alloc.alloc).keep hn | replace hB := (hB.alloc.alloc.alloc.alloc).keep hn | replace hB := (hB.alloc.alloc.alloc.alloc.alloc).keep hn | replace hB := (hB.alloc.alloc.alloc.alloc.alloc.alloc).keep hn); clear hn; (try clear hR); have hR := hB.rules; simp only [Rules, World.size_alloc, Nat.add_one_le_iff] at hR))
  refine bodyPost_ret (v := .agg #[.int .i64 (wrap64 (a.tdiv k)), .int .i64 (wrap64 (b.tdiv k))]) ?_ rfl ⟨rfl, ?_⟩
  · simp [results, Try.results22, go_sem, hR]
  · repeat (first | exact ext_refl _ | exact hB.below | apply ext_alloc | apply ext_drew | (refine ext_set ?_ ?_; · first | (dsimp only; omega) | (simp; omega) | (simp; done)))

theorem iPointEq (a b c d : Int) (w : World) : Calls Try.prog 20 #[.agg #[.int .i64 a, .int .i64 b], .agg #[.int .i64 c, .int .i64 d]] w (Gives (.bool (eq2 a b c d)) w) := by
  have hB := Known.start w
  go_enter Try.func20, Try.ntmps20
  go_wp2
  (first | refine wp_region_known hB (by kernel_rfl) (by kernel_rfl) ?_ | refine wp_region_known hB.alloc (by kernel_rfl) (by kernel_rfl) ?_ | refine wp_region_known hB.alloc.alloc (by kernel_rfl) (by kernel_rfl) ?_ | refine wp_region_known hB.alloc.alloc.alloc (by kernel_rfl) (by kernel_rfl) ?_ | refine wp_region_known hB.alloc.alloc.alloc.alloc (by kernel_rfl) (by kernel_rfl) ?_ | refine wp_region_known hB.alloc.alloc.alloc.alloc.alloc (by kernel_rfl) (by kernel_rfl) ?_ | refine wp_region_known hB.alloc.alloc.alloc.alloc.alloc.alloc (by kernel_rfl) (by kernel_rfl) ?_); (try clear hR); intro hov; simp only [Rules, World.size_alloc, Nat.add_one_le_iff] at hov
  repeat (go_big_quiet_step (first | (go_at_call 33; exact Calls.over _ (point_any _ _ _)) | (go_at_call 34; exact Calls.over _ (peq_any _ _ _ _ _))))
  refine wpQuiet_nil ?_; intro wx hB; clear hov; have hR := hB.rules; simp only [Rules, World.size_alloc, Nat.add_one_le_iff] at hR
  go_wp2
  refine bodyPost_ret (v := .bool (eq2 a b c d)) ?_ rfl ⟨rfl, ?_⟩
  · simp [results, Try.results20, go_sem]
  · repeat (first | exact ext_refl _ | exact hB.below | apply ext_alloc | apply ext_drew | (refine ext_set ?_ ?_; · first | (dsimp only; omega) | (simp; omega) | (simp; done)))

theorem iRectEmpty (a b c d : Int) (w : World) : Calls Try.prog 25 #[.agg #[.int .i64 a, .int .i64 b, .int .i64 c, .int .i64 d]] w (Gives (.bool (emptyB a b c d)) w) := by
  have hB := Known.start w
  go_enter Try.func25, Try.ntmps25
  go_wp2_with (first | (go_at_call 37; refine (rectangle_any _ _ _ _ _).mono ?_; rintro e w1 ⟨rfl, hn⟩; (first | replace hB := (hB).keep hn | replace hB := (hB.alloc).keep hn | replace hB := (hB.alloc.alloc).keep hn | replace hB := (hB.alloc.alloc.alloc).keep hn | replace hB := (hB.alloc.alloc.alloc.alloc).keep hn | replace hB := (hB.alloc.alloc.alloc.alloc.alloc).keep hn | replace hB := (hB.alloc.alloc.alloc.alloc.alloc.alloc).keep hn); clear hn; (try clear hR); have hR := hB.rules; simp only [Rules, World.size_alloc, Nat.add_one_le_iff] at hR) | (go_at_call 38; refine (empty_any _ _ _ _ _).mono ?_; rintro e w1 ⟨rfl, hn⟩; (first | replace hB := (hB).keep hn | replace hB := (hB.alloc).keep hn | replace hB := (hB.alloc.alloc).keep hn | replace hB := (hB.alloc.alloc.alloc).keep hn | replace hB := (hB.alloc.alloc.alloc.alloc).keep hn | replace hB := (hB.alloc.alloc.alloc.alloc.alloc).keep hn | replace hB := (hB.alloc.alloc.alloc.alloc.alloc.alloc).keep hn); clear hn; (try clear hR); have hR := hB.rules; simp only [Rules, World.size_alloc, Nat.add_one_le_iff] at hR))
  refine bodyPost_ret (v := .bool (emptyB a b c d)) ?_ rfl ⟨rfl, ?_⟩
  · simp [results, Try.results25, go_sem, hR]
  · repeat (first | exact ext_refl _ | exact hB.below | apply ext_alloc | apply ext_drew | (refine ext_set ?_ ?_; · first | (dsimp only; omega) | (simp; omega) | (simp; done)))

end Go.Proofs.Ytockppelodnhlaa
