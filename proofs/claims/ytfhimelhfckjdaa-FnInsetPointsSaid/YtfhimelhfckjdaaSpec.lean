/-
  The contracts of the reference's functions and of the laws' own helpers that this seat reaches: what each hands back, and that it changes nothing that was there.
  Conditions: only those that a theorem writes out (a divisor that is not 0).
-/
import Derived.Test.YtfhimelhfckjdaaImpl
import Derived.Test.YtfhimelhfckjdaaAlloc
import Derived.Handy
namespace Go.Proofs.Ytfhimelhfckjdaa
open Go.RowKit
set_option linter.unusedSimpArgs false
set_option linter.unusedVariables false
set_option maxHeartbeats 2000000

theorem sSum (a b : Int) (w : World) : Calls Try.prog 39 #[.int .i64 a, .int .i64 b] w (Gives (.tuple #[.int .i64 (sumV a b), .bool (sumOk a b)]) w) := by
  have hB := Known.start w
  go_enter Try.func39, Try.ntmps39
  go_wp2
  all_goals
    refine bodyPost_ret (v := .tuple #[.int .i64 (sumV a b), .bool (sumOk a b)]) ?_ rfl ⟨rfl, ?_⟩
    · first | (simp [results, Try.results39, go_sem, sumV, sumOk, *]; done) | (simp [results, Try.results39, go_sem, sumV, sumOk, *]; omega)
    · repeat (first | exact ext_refl _ | exact hB.below | apply ext_alloc | apply ext_drew | (refine ext_set ?_ ?_; · first | (dsimp only; omega) | (simp; omega) | (simp; done)))

theorem sLess (a b : Int) (w : World) : Calls Try.prog 27 #[.int .i64 a, .int .i64 b] w (Gives (.tuple #[.int .i64 (lessV a b), .bool (lessOk a b)]) w) := by
  have hB := Known.start w
  go_enter Try.func27, Try.ntmps27
  go_wp2
  all_goals
    refine bodyPost_ret (v := .tuple #[.int .i64 (lessV a b), .bool (lessOk a b)]) ?_ rfl ⟨rfl, ?_⟩
    · first | (simp [results, Try.results27, go_sem, lessV, lessOk, *]; done) | (simp [results, Try.results27, go_sem, lessV, lessOk, *]; omega)
    · repeat (first | exact ext_refl _ | exact hB.below | apply ext_alloc | apply ext_drew | (refine ext_set ?_ ?_; · first | (dsimp only; omega) | (simp; omega) | (simp; done)))

theorem sTimes (a b : Int) (w : World) : Calls Try.prog 16 #[.int .i64 a, .int .i64 b] w (Gives (.tuple #[.int .i64 (timesV a b), .bool (timesOk a b)]) w) := by
  cases ha : (a == 0) with
  | true =>
    have hB := Known.start w
    go_enter Try.func16, Try.ntmps16
    go_wp2
    refine bodyPost_ret (v := .tuple #[.int .i64 (timesV a b), .bool (timesOk a b)]) ?_ rfl ⟨rfl, ?_⟩
    · simp [results, Try.results16, go_sem, timesV, timesOk, timesNo, ha]
    · repeat (first | exact ext_refl _ | exact hB.below | apply ext_alloc | apply ext_drew | (refine ext_set ?_ ?_; · first | (dsimp only; omega) | (simp; omega) | (simp; done)))
  | false =>
    cases hb : (b == 0) with
    | true =>
      have hB := Known.start w
      go_enter Try.func16, Try.ntmps16
      go_wp2
      refine bodyPost_ret (v := .tuple #[.int .i64 (timesV a b), .bool (timesOk a b)]) ?_ rfl ⟨rfl, ?_⟩
      · simp [results, Try.results16, go_sem, timesV, timesOk, timesNo, ha, hb]
      · repeat (first | exact ext_refl _ | exact hB.below | apply ext_alloc | apply ext_drew | (refine ext_set ?_ ?_; · first | (dsimp only; omega) | (simp; omega) | (simp; done)))
    | false =>
      have hb' : ¬ b = 0 := by simpa using hb
      cases h1 : (a == -1) <;> cases h2 : (b == -9223372036854775808) <;> cases h3 : (b == -1) <;> cases h4 : (a == -9223372036854775808) <;> cases h5 : (wrap64 ((wrap64 (a * b)).tdiv b) != a)
      all_goals
        have hB := Known.start w
        go_enter Try.func16, Try.ntmps16
        go_wp2
        refine bodyPost_ret (v := .tuple #[.int .i64 (timesV a b), .bool (timesOk a b)]) ?_ rfl ⟨rfl, ?_⟩
        · simp [results, Try.results16, go_sem, timesV, timesOk, timesNo, ha, hb, h1, h2, h3, h4, h5]
        · repeat (first | exact ext_refl _ | exact hB.below | apply ext_alloc | apply ext_drew | (refine ext_set ?_ ?_; · first | (dsimp only; omega) | (simp; omega) | (simp; done)))

theorem sNone (a b c d : Int) (w : World) : Calls Try.prog 25 #[.agg #[.int .i64 a, .int .i64 b, .int .i64 c, .int .i64 d]] w (Gives (.bool (emptyB a b c d)) w) := by
  have hB := Known.start w
  go_enter Try.func25, Try.ntmps25
  go_wp2
  all_goals
    refine bodyPost_ret (v := .bool (emptyB a b c d)) ?_ rfl ⟨rfl, ?_⟩
    · first | (simp [results, Try.results25, go_sem, emptyB, *]; done) | (simp [results, Try.results25, go_sem, emptyB, *]; omega)
    · repeat (first | exact ext_refl _ | exact hB.below | apply ext_alloc | apply ext_drew | (refine ext_set ?_ ?_; · first | (dsimp only; omega) | (simp; omega) | (simp; done)))

theorem sWellFormed (a b c d : Int) (w : World) : Calls Try.prog 17 #[.agg #[.int .i64 a, .int .i64 b, .int .i64 c, .int .i64 d]] w (Gives (.bool (wfB a b c d)) w) := by
  have hB := Known.start w
  go_enter Try.func17, Try.ntmps17
  go_wp2
  all_goals
    refine bodyPost_ret (v := .bool (wfB a b c d)) ?_ rfl ⟨rfl, ?_⟩
    · first | (simp [results, Try.results17, go_sem, wfB, *]; done) | (simp [results, Try.results17, go_sem, wfB, *]; omega)
    · repeat (first | exact ext_refl _ | exact hB.below | apply ext_alloc | apply ext_drew | (refine ext_set ?_ ?_; · first | (dsimp only; omega) | (simp; omega) | (simp; done)))

theorem sHas (a b c d x y : Int) (w : World) : Calls Try.prog 21 #[.agg #[.int .i64 a, .int .i64 b, .int .i64 c, .int .i64 d], .agg #[.int .i64 x, .int .i64 y]] w (Gives (.bool (inB x y a b c d)) w) := by
  have hB := Known.start w
  go_enter Try.func21, Try.ntmps21
  go_wp2
  all_goals
    refine bodyPost_ret (v := .bool (inB x y a b c d)) ?_ rfl ⟨rfl, ?_⟩
    · first | (simp [results, Try.results21, go_sem, inB, *]; done) | (simp [results, Try.results21, go_sem, inB, *]; omega)
    · repeat (first | exact ext_refl _ | exact hB.below | apply ext_alloc | apply ext_drew | (refine ext_set ?_ ?_; · first | (dsimp only; omega) | (simp; omega) | (simp; done)))

theorem sWide (a b c d : Int) (w : World) : Calls Try.prog 15 #[.agg #[.int .i64 a, .int .i64 b, .int .i64 c, .int .i64 d]] w (Gives (.tuple #[.agg #[.int .i64 (lessV c a), .int .i64 (lessV d b)], .bool (lessOk c a && lessOk d b)]) w) := by
  have hB := Known.start w
  go_enter Try.func15, Try.ntmps15
  go_wp2_with (first | (go_at_call 27; refine (sLess _ _ _).mono ?_; rintro e w1 ⟨rfl, hn⟩; (first | with_reducible replace hB := (hB).keep hn | with_reducible replace hB := (hB.alloc).keep hn | with_reducible replace hB := (hB.alloc.alloc).keep hn | with_reducible replace hB := (hB.alloc.alloc.alloc).keep hn | with_reducible replace hB := (hB.alloc.alloc.alloc.alloc).keep hn | with_reducible replace hB := (hB.alloc.alloc.alloc.alloc.alloc).keep hn | with_reducible replace hB := (hB.alloc.alloc.alloc.alloc.alloc.alloc).keep hn | with_reducible replace hB := (((hB.set1 hb1 hb2).set1 hb1 hb2)).keep hn | with_reducible replace hB := (((((hB.set1 hb1 hb2).set1 hb1 hb2).set1 hb1 hb2).set1 hb1 hb2)).keep hn); clear hn; (try clear hR); have hR := hB.rules; simp only [Rules, World.size_alloc, Nat.add_one_le_iff, List.setIfInBounds_toArray, List.set_cons_zero, List.set_cons_succ] at hR))
  all_goals
    refine bodyPost_ret (v := .tuple #[.agg #[.int .i64 (lessV c a), .int .i64 (lessV d b)], .bool (lessOk c a && lessOk d b)]) ?_ rfl ⟨rfl, ?_⟩
    · first | (simp [results, Try.results15, go_sem, hR, *]; done) | (simp [results, Try.results15, go_sem, hR, *]; omega)
    · repeat (first | exact ext_refl _ | exact hB.below | apply ext_alloc | apply ext_drew | (refine ext_set ?_ ?_; · first | (dsimp only; omega) | (simp; omega) | (simp; done)))

theorem sLift (a m : Int) (w : World) (hm : (m == 0) = false) : Calls Try.prog 46 #[.int .i64 a, .int .i64 m] w (Gives (.int .i64 (liftV a m)) w) := by
  have hm' : ¬ m = 0 := by simpa using hm
  have hB := Known.start w
  go_enter Try.func46, Try.ntmps46
  go_wp2
  all_goals
    refine bodyPost_ret (v := .int .i64 (liftV a m)) ?_ rfl ⟨rfl, ?_⟩
    · first | (simp [results, Try.results46, go_sem, liftV, *]; done) | (simp [results, Try.results46, go_sem, liftV]; omega)
    · repeat (first | exact ext_refl _ | exact hB.below | apply ext_alloc | apply ext_drew | (refine ext_set ?_ ?_; · first | (dsimp only; omega) | (simp; omega) | (simp; done)))

theorem sMoved (a b c d x y : Int) (w : World) : Calls Try.prog 18 #[.agg #[.int .i64 a, .int .i64 b, .int .i64 c, .int .i64 d], .agg #[.int .i64 x, .int .i64 y]] w (Gives (.tuple #[.agg #[.int .i64 (sumV a x), .int .i64 (sumV b y), .int .i64 (sumV c x), .int .i64 (sumV d y)], .bool (sumOk a x && sumOk b y && sumOk c x && sumOk d y)]) w) := by
  have hB := Known.start w
  go_enter Try.func18, Try.ntmps18
  go_wp2
  go_loopw [7, 8] (fun g i wr => ∃ j : Nat, j ≤ 4 ∧ i = .int .i64 j ∧ g = .bool (pre4 (sumOk a x) (sumOk b y) (sumOk c x) (sumOk d y) j) ∧ Known w wr [(w.heap.size + 1 + 1 + 1, (fill4 (sumV a x) (sumV b y) (sumV c x) (sumV d y) j), 22), (w.heap.size + 1 + 1, #[.int .i64 0, .int .i64 0, .int .i64 0, .int .i64 0], 22), (w.heap.size + 1, #[.int .i64 x, .int .i64 y], 23), (w.heap.size, #[.int .i64 a, .int .i64 b, .int .i64 c, .int .i64 d], 22)]) (fun _ i _ => 4 - (intOf i).toNat)
  case atStart => exact ⟨0, by omega, rfl, rfl, hB.alloc.alloc.alloc.alloc.same (by simp [fill4])⟩
  case round =>
    obtain ⟨j, hj, rfl, rfl, hK⟩ := hrel
    clear hB
    have hB := hK
    clear hK
    have hj5 : j = 0 ∨ j = 1 ∨ j = 2 ∨ j = 3 ∨ j = 4 := by omega
    rcases hj5 with rfl | rfl | rfl | rfl | rfl
    · simp only [pre4, fill4] at hB ⊢
      have hR := hB.rules
      simp only [Rules, Nat.add_one_le_iff] at hR
      go_wp2
      all_goals ((first | with_reducible refine wp_region_known hB ?hm ?hB ?_ | with_reducible refine wp_region_known hB.alloc ?hm ?hB ?_ | with_reducible refine wp_region_known hB.alloc.alloc ?hm ?hB ?_ | with_reducible refine wp_region_known hB.alloc.alloc.alloc ?hm ?hB ?_ | with_reducible refine wp_region_known hB.alloc.alloc.alloc.alloc ?hm ?hB ?_ | with_reducible refine wp_region_known hB.alloc.alloc.alloc.alloc.alloc ?hm ?hB ?_ | with_reducible refine wp_region_known hB.alloc.alloc.alloc.alloc.alloc.alloc ?hm ?hB ?_); (case hm => kernel_rfl); (case hB => kernel_rfl); (try clear hR); intro hov; simp only [Rules, World.size_alloc, Nat.add_one_le_iff, List.setIfInBounds_toArray, List.set_cons_zero, List.set_cons_succ] at hov; (repeat (go_big_quiet_step (first | (go_at_call 39; exact Calls.over _ (sSum _ _ _))))); refine wpQuiet_nil ?_; intro wx hB; clear hov; have hR := hB.rules; simp only [Rules, World.size_alloc, Nat.add_one_le_iff, List.setIfInBounds_toArray, List.set_cons_zero, List.set_cons_succ] at hR; go_wp2)
      all_goals
        go_roundw
        case rel => exact ⟨1, by omega, rfl, by simp [pre4, *], (hB.set1 (by omega) (by simp; omega)).same (by simp [fill4])⟩
        case measure => simp [intOf]
    · simp only [pre4, fill4] at hB ⊢
      have hR := hB.rules
      simp only [Rules, Nat.add_one_le_iff] at hR
      go_wp2
      all_goals ((first | with_reducible refine wp_region_known hB ?hm ?hB ?_ | with_reducible refine wp_region_known hB.alloc ?hm ?hB ?_ | with_reducible refine wp_region_known hB.alloc.alloc ?hm ?hB ?_ | with_reducible refine wp_region_known hB.alloc.alloc.alloc ?hm ?hB ?_ | with_reducible refine wp_region_known hB.alloc.alloc.alloc.alloc ?hm ?hB ?_ | with_reducible refine wp_region_known hB.alloc.alloc.alloc.alloc.alloc ?hm ?hB ?_ | with_reducible refine wp_region_known hB.alloc.alloc.alloc.alloc.alloc.alloc ?hm ?hB ?_); (case hm => kernel_rfl); (case hB => kernel_rfl); (try clear hR); intro hov; simp only [Rules, World.size_alloc, Nat.add_one_le_iff, List.setIfInBounds_toArray, List.set_cons_zero, List.set_cons_succ] at hov; (repeat (go_big_quiet_step (first | (go_at_call 39; exact Calls.over _ (sSum _ _ _))))); refine wpQuiet_nil ?_; intro wx hB; clear hov; have hR := hB.rules; simp only [Rules, World.size_alloc, Nat.add_one_le_iff, List.setIfInBounds_toArray, List.set_cons_zero, List.set_cons_succ] at hR; go_wp2)
      all_goals
        go_roundw
        case rel => exact ⟨2, by omega, rfl, by simp [pre4, *], (hB.set1 (by omega) (by simp; omega)).same (by simp [fill4])⟩
        case measure => simp [intOf]
    · simp only [pre4, fill4] at hB ⊢
      have hR := hB.rules
      simp only [Rules, Nat.add_one_le_iff] at hR
      go_wp2
      all_goals ((first | with_reducible refine wp_region_known hB ?hm ?hB ?_ | with_reducible refine wp_region_known hB.alloc ?hm ?hB ?_ | with_reducible refine wp_region_known hB.alloc.alloc ?hm ?hB ?_ | with_reducible refine wp_region_known hB.alloc.alloc.alloc ?hm ?hB ?_ | with_reducible refine wp_region_known hB.alloc.alloc.alloc.alloc ?hm ?hB ?_ | with_reducible refine wp_region_known hB.alloc.alloc.alloc.alloc.alloc ?hm ?hB ?_ | with_reducible refine wp_region_known hB.alloc.alloc.alloc.alloc.alloc.alloc ?hm ?hB ?_); (case hm => kernel_rfl); (case hB => kernel_rfl); (try clear hR); intro hov; simp only [Rules, World.size_alloc, Nat.add_one_le_iff, List.setIfInBounds_toArray, List.set_cons_zero, List.set_cons_succ] at hov; (repeat (go_big_quiet_step (first | (go_at_call 39; exact Calls.over _ (sSum _ _ _))))); refine wpQuiet_nil ?_; intro wx hB; clear hov; have hR := hB.rules; simp only [Rules, World.size_alloc, Nat.add_one_le_iff, List.setIfInBounds_toArray, List.set_cons_zero, List.set_cons_succ] at hR; go_wp2)
      all_goals
        go_roundw
        case rel => exact ⟨3, by omega, rfl, by simp [pre4, *], (hB.set1 (by omega) (by simp; omega)).same (by simp [fill4])⟩
        case measure => simp [intOf]
    · simp only [pre4, fill4] at hB ⊢
      have hR := hB.rules
      simp only [Rules, Nat.add_one_le_iff] at hR
      go_wp2
      all_goals ((first | with_reducible refine wp_region_known hB ?hm ?hB ?_ | with_reducible refine wp_region_known hB.alloc ?hm ?hB ?_ | with_reducible refine wp_region_known hB.alloc.alloc ?hm ?hB ?_ | with_reducible refine wp_region_known hB.alloc.alloc.alloc ?hm ?hB ?_ | with_reducible refine wp_region_known hB.alloc.alloc.alloc.alloc ?hm ?hB ?_ | with_reducible refine wp_region_known hB.alloc.alloc.alloc.alloc.alloc ?hm ?hB ?_ | with_reducible refine wp_region_known hB.alloc.alloc.alloc.alloc.alloc.alloc ?hm ?hB ?_); (case hm => kernel_rfl); (case hB => kernel_rfl); (try clear hR); intro hov; simp only [Rules, World.size_alloc, Nat.add_one_le_iff, List.setIfInBounds_toArray, List.set_cons_zero, List.set_cons_succ] at hov; (repeat (go_big_quiet_step (first | (go_at_call 39; exact Calls.over _ (sSum _ _ _))))); refine wpQuiet_nil ?_; intro wx hB; clear hov; have hR := hB.rules; simp only [Rules, World.size_alloc, Nat.add_one_le_iff, List.setIfInBounds_toArray, List.set_cons_zero, List.set_cons_succ] at hR; go_wp2)
      all_goals
        go_roundw
        case rel => exact ⟨4, by omega, rfl, by simp [pre4, *], (hB.set1 (by omega) (by simp; omega)).same (by simp [fill4])⟩
        case measure => simp [intOf]
    · simp only [pre4, fill4] at hB ⊢
      have hR := hB.rules
      simp only [Rules, Nat.add_one_le_iff] at hR
      go_wp2
      refine bodyPost_ret (v := .tuple #[.agg #[.int .i64 (sumV a x), .int .i64 (sumV b y), .int .i64 (sumV c x), .int .i64 (sumV d y)], .bool (sumOk a x && sumOk b y && sumOk c x && sumOk d y)]) ?_ rfl ⟨rfl, ?_⟩
      · simp [results, Try.results18, go_sem, hR]
      · repeat (first | exact ext_refl _ | exact hB.below | apply ext_alloc | apply ext_drew | (refine ext_set ?_ ?_; · first | (dsimp only; omega) | (simp; omega) | (simp; done)))

theorem sBack (a b c d x y : Int) (w : World) : Calls Try.prog 19 #[.agg #[.int .i64 a, .int .i64 b, .int .i64 c, .int .i64 d], .agg #[.int .i64 x, .int .i64 y]] w (Gives (.tuple #[.agg #[.int .i64 (lessV a x), .int .i64 (lessV b y), .int .i64 (lessV c x), .int .i64 (lessV d y)], .bool (lessOk a x && lessOk b y && lessOk c x && lessOk d y)]) w) := by
  have hB := Known.start w
  go_enter Try.func19, Try.ntmps19
  go_wp2
  go_loopw [7, 8] (fun g i wr => ∃ j : Nat, j ≤ 4 ∧ i = .int .i64 j ∧ g = .bool (pre4 (lessOk a x) (lessOk b y) (lessOk c x) (lessOk d y) j) ∧ Known w wr [(w.heap.size + 1 + 1 + 1, (fill4 (lessV a x) (lessV b y) (lessV c x) (lessV d y) j), 22), (w.heap.size + 1 + 1, #[.int .i64 0, .int .i64 0, .int .i64 0, .int .i64 0], 22), (w.heap.size + 1, #[.int .i64 x, .int .i64 y], 23), (w.heap.size, #[.int .i64 a, .int .i64 b, .int .i64 c, .int .i64 d], 22)]) (fun _ i _ => 4 - (intOf i).toNat)
  case atStart => exact ⟨0, by omega, rfl, rfl, hB.alloc.alloc.alloc.alloc.same (by simp [fill4])⟩
  case round =>
    obtain ⟨j, hj, rfl, rfl, hK⟩ := hrel
    clear hB
    have hB := hK
    clear hK
    have hj5 : j = 0 ∨ j = 1 ∨ j = 2 ∨ j = 3 ∨ j = 4 := by omega
    rcases hj5 with rfl | rfl | rfl | rfl | rfl
    · simp only [pre4, fill4] at hB ⊢
      have hR := hB.rules
      simp only [Rules, Nat.add_one_le_iff] at hR
      go_wp2
      all_goals ((first | with_reducible refine wp_region_known hB ?hm ?hB ?_ | with_reducible refine wp_region_known hB.alloc ?hm ?hB ?_ | with_reducible refine wp_region_known hB.alloc.alloc ?hm ?hB ?_ | with_reducible refine wp_region_known hB.alloc.alloc.alloc ?hm ?hB ?_ | with_reducible refine wp_region_known hB.alloc.alloc.alloc.alloc ?hm ?hB ?_ | with_reducible refine wp_region_known hB.alloc.alloc.alloc.alloc.alloc ?hm ?hB ?_ | with_reducible refine wp_region_known hB.alloc.alloc.alloc.alloc.alloc.alloc ?hm ?hB ?_); (case hm => kernel_rfl); (case hB => kernel_rfl); (try clear hR); intro hov; simp only [Rules, World.size_alloc, Nat.add_one_le_iff, List.setIfInBounds_toArray, List.set_cons_zero, List.set_cons_succ] at hov; (repeat (go_big_quiet_step (first | (go_at_call 27; exact Calls.over _ (sLess _ _ _))))); refine wpQuiet_nil ?_; intro wx hB; clear hov; have hR := hB.rules; simp only [Rules, World.size_alloc, Nat.add_one_le_iff, List.setIfInBounds_toArray, List.set_cons_zero, List.set_cons_succ] at hR; go_wp2)
      all_goals
        go_roundw
        case rel => exact ⟨1, by omega, rfl, by simp [pre4, *], (hB.set1 (by omega) (by simp; omega)).same (by simp [fill4])⟩
        case measure => simp [intOf]
    · simp only [pre4, fill4] at hB ⊢
      have hR := hB.rules
      simp only [Rules, Nat.add_one_le_iff] at hR
      go_wp2
      all_goals ((first | with_reducible refine wp_region_known hB ?hm ?hB ?_ | with_reducible refine wp_region_known hB.alloc ?hm ?hB ?_ | with_reducible refine wp_region_known hB.alloc.alloc ?hm ?hB ?_ | with_reducible refine wp_region_known hB.alloc.alloc.alloc ?hm ?hB ?_ | with_reducible refine wp_region_known hB.alloc.alloc.alloc.alloc ?hm ?hB ?_ | with_reducible refine wp_region_known hB.alloc.alloc.alloc.alloc.alloc ?hm ?hB ?_ | with_reducible refine wp_region_known hB.alloc.alloc.alloc.alloc.alloc.alloc ?hm ?hB ?_); (case hm => kernel_rfl); (case hB => kernel_rfl); (try clear hR); intro hov; simp only [Rules, World.size_alloc, Nat.add_one_le_iff, List.setIfInBounds_toArray, List.set_cons_zero, List.set_cons_succ] at hov; (repeat (go_big_quiet_step (first | (go_at_call 27; exact Calls.over _ (sLess _ _ _))))); refine wpQuiet_nil ?_; intro wx hB; clear hov; have hR := hB.rules; simp only [Rules, World.size_alloc, Nat.add_one_le_iff, List.setIfInBounds_toArray, List.set_cons_zero, List.set_cons_succ] at hR; go_wp2)
      all_goals
        go_roundw
        case rel => exact ⟨2, by omega, rfl, by simp [pre4, *], (hB.set1 (by omega) (by simp; omega)).same (by simp [fill4])⟩
        case measure => simp [intOf]
    · simp only [pre4, fill4] at hB ⊢
      have hR := hB.rules
      simp only [Rules, Nat.add_one_le_iff] at hR
      go_wp2
      all_goals ((first | with_reducible refine wp_region_known hB ?hm ?hB ?_ | with_reducible refine wp_region_known hB.alloc ?hm ?hB ?_ | with_reducible refine wp_region_known hB.alloc.alloc ?hm ?hB ?_ | with_reducible refine wp_region_known hB.alloc.alloc.alloc ?hm ?hB ?_ | with_reducible refine wp_region_known hB.alloc.alloc.alloc.alloc ?hm ?hB ?_ | with_reducible refine wp_region_known hB.alloc.alloc.alloc.alloc.alloc ?hm ?hB ?_ | with_reducible refine wp_region_known hB.alloc.alloc.alloc.alloc.alloc.alloc ?hm ?hB ?_); (case hm => kernel_rfl); (case hB => kernel_rfl); (try clear hR); intro hov; simp only [Rules, World.size_alloc, Nat.add_one_le_iff, List.setIfInBounds_toArray, List.set_cons_zero, List.set_cons_succ] at hov; (repeat (go_big_quiet_step (first | (go_at_call 27; exact Calls.over _ (sLess _ _ _))))); refine wpQuiet_nil ?_; intro wx hB; clear hov; have hR := hB.rules; simp only [Rules, World.size_alloc, Nat.add_one_le_iff, List.setIfInBounds_toArray, List.set_cons_zero, List.set_cons_succ] at hR; go_wp2)
      all_goals
        go_roundw
        case rel => exact ⟨3, by omega, rfl, by simp [pre4, *], (hB.set1 (by omega) (by simp; omega)).same (by simp [fill4])⟩
        case measure => simp [intOf]
    · simp only [pre4, fill4] at hB ⊢
      have hR := hB.rules
      simp only [Rules, Nat.add_one_le_iff] at hR
      go_wp2
      all_goals ((first | with_reducible refine wp_region_known hB ?hm ?hB ?_ | with_reducible refine wp_region_known hB.alloc ?hm ?hB ?_ | with_reducible refine wp_region_known hB.alloc.alloc ?hm ?hB ?_ | with_reducible refine wp_region_known hB.alloc.alloc.alloc ?hm ?hB ?_ | with_reducible refine wp_region_known hB.alloc.alloc.alloc.alloc ?hm ?hB ?_ | with_reducible refine wp_region_known hB.alloc.alloc.alloc.alloc.alloc ?hm ?hB ?_ | with_reducible refine wp_region_known hB.alloc.alloc.alloc.alloc.alloc.alloc ?hm ?hB ?_); (case hm => kernel_rfl); (case hB => kernel_rfl); (try clear hR); intro hov; simp only [Rules, World.size_alloc, Nat.add_one_le_iff, List.setIfInBounds_toArray, List.set_cons_zero, List.set_cons_succ] at hov; (repeat (go_big_quiet_step (first | (go_at_call 27; exact Calls.over _ (sLess _ _ _))))); refine wpQuiet_nil ?_; intro wx hB; clear hov; have hR := hB.rules; simp only [Rules, World.size_alloc, Nat.add_one_le_iff, List.setIfInBounds_toArray, List.set_cons_zero, List.set_cons_succ] at hR; go_wp2)
      all_goals
        go_roundw
        case rel => exact ⟨4, by omega, rfl, by simp [pre4, *], (hB.set1 (by omega) (by simp; omega)).same (by simp [fill4])⟩
        case measure => simp [intOf]
    · simp only [pre4, fill4] at hB ⊢
      have hR := hB.rules
      simp only [Rules, Nat.add_one_le_iff] at hR
      go_wp2
      refine bodyPost_ret (v := .tuple #[.agg #[.int .i64 (lessV a x), .int .i64 (lessV b y), .int .i64 (lessV c x), .int .i64 (lessV d y)], .bool (lessOk a x && lessOk b y && lessOk c x && lessOk d y)]) ?_ rfl ⟨rfl, ?_⟩
      · simp [results, Try.results19, go_sem, hR]
      · repeat (first | exact ext_refl _ | exact hB.below | apply ext_alloc | apply ext_drew | (refine ext_set ?_ ?_; · first | (dsimp only; omega) | (simp; omega) | (simp; done)))

theorem sMod (x y a b c d : Int) (w : World) (oa : Ok a) (ob : Ok b) (oc : Ok c) (od : Ok d) : Calls Try.prog 23 #[.agg #[.int .i64 x, .int .i64 y], .agg #[.int .i64 a, .int .i64 b, .int .i64 c, .int .i64 d]] w (Gives (.tuple #[.agg #[.int .i64 (smodV (smodOk x y a b c d) x a c), .int .i64 (smodV (smodOk x y a b c d) y b d)], .bool (smodOk x y a b c d)]) w) := by
  rcases Bool.eq_false_or_eq_true (emptyB a b c d) with h1 | h1
  · have hk : smodOk x y a b c d = false := by simp [smodOk, h1]
    have hB := Known.start w
    go_enter Try.func23, Try.ntmps23
    go_wp2_with (first | (go_at_call 15; refine (sWide _ _ _ _ _).mono ?_; rintro e w1 ⟨rfl, hn⟩; (first | with_reducible replace hB := (hB).keep hn | with_reducible replace hB := (hB.alloc).keep hn | with_reducible replace hB := (hB.alloc.alloc).keep hn | with_reducible replace hB := (hB.alloc.alloc.alloc).keep hn | with_reducible replace hB := (hB.alloc.alloc.alloc.alloc).keep hn | with_reducible replace hB := (hB.alloc.alloc.alloc.alloc.alloc).keep hn | with_reducible replace hB := (hB.alloc.alloc.alloc.alloc.alloc.alloc).keep hn | with_reducible replace hB := (((hB.set1 hb1 hb2).set1 hb1 hb2)).keep hn | with_reducible replace hB := (((((hB.set1 hb1 hb2).set1 hb1 hb2).set1 hb1 hb2).set1 hb1 hb2)).keep hn); clear hn; (try clear hR); have hR := hB.rules; simp only [Rules, World.size_alloc, Nat.add_one_le_iff, List.setIfInBounds_toArray, List.set_cons_zero, List.set_cons_succ] at hR) | (go_at_call 27; refine (sLess _ _ _).mono ?_; rintro e w1 ⟨rfl, hn⟩; (first | with_reducible replace hB := (hB).keep hn | with_reducible replace hB := (hB.alloc).keep hn | with_reducible replace hB := (hB.alloc.alloc).keep hn | with_reducible replace hB := (hB.alloc.alloc.alloc).keep hn | with_reducible replace hB := (hB.alloc.alloc.alloc.alloc).keep hn | with_reducible replace hB := (hB.alloc.alloc.alloc.alloc.alloc).keep hn | with_reducible replace hB := (hB.alloc.alloc.alloc.alloc.alloc.alloc).keep hn | with_reducible replace hB := (((hB.set1 hb1 hb2).set1 hb1 hb2)).keep hn | with_reducible replace hB := (((((hB.set1 hb1 hb2).set1 hb1 hb2).set1 hb1 hb2).set1 hb1 hb2)).keep hn); clear hn; (try clear hR); have hR := hB.rules; simp only [Rules, World.size_alloc, Nat.add_one_le_iff, List.setIfInBounds_toArray, List.set_cons_zero, List.set_cons_succ] at hR) | (go_at_call 25; refine (sNone _ _ _ _ _).mono ?_; rintro e w1 ⟨rfl, hn⟩; (first | with_reducible replace hB := (hB).keep hn | with_reducible replace hB := (hB.alloc).keep hn | with_reducible replace hB := (hB.alloc.alloc).keep hn | with_reducible replace hB := (hB.alloc.alloc.alloc).keep hn | with_reducible replace hB := (hB.alloc.alloc.alloc.alloc).keep hn | with_reducible replace hB := (hB.alloc.alloc.alloc.alloc.alloc).keep hn | with_reducible replace hB := (hB.alloc.alloc.alloc.alloc.alloc.alloc).keep hn | with_reducible replace hB := (((hB.set1 hb1 hb2).set1 hb1 hb2)).keep hn | with_reducible replace hB := (((((hB.set1 hb1 hb2).set1 hb1 hb2).set1 hb1 hb2).set1 hb1 hb2)).keep hn); clear hn; (try clear hR); have hR := hB.rules; simp only [Rules, World.size_alloc, Nat.add_one_le_iff, List.setIfInBounds_toArray, List.set_cons_zero, List.set_cons_succ] at hR))
    all_goals
      refine bodyPost_ret (v := .tuple #[.agg #[.int .i64 (smodV (smodOk x y a b c d) x a c), .int .i64 (smodV (smodOk x y a b c d) y b d)], .bool (smodOk x y a b c d)]) ?_ rfl ⟨rfl, ?_⟩
      · (simp [results, Try.results23, go_sem, hR, smodV, hk]; done)
      · repeat (first | exact ext_refl _ | exact hB.below | apply ext_alloc | apply ext_drew | (refine ext_set ?_ ?_; · first | (dsimp only; omega) | (simp; omega) | (simp; done)))
  rcases Bool.eq_false_or_eq_true ((lessOk c a && lessOk d b)) with h2 | h2
  rotate_left
  · have hk : smodOk x y a b c d = false := by simp [smodOk, h2]
    have hB := Known.start w
    go_enter Try.func23, Try.ntmps23
    go_wp2_with (first | (go_at_call 15; refine (sWide _ _ _ _ _).mono ?_; rintro e w1 ⟨rfl, hn⟩; (first | with_reducible replace hB := (hB).keep hn | with_reducible replace hB := (hB.alloc).keep hn | with_reducible replace hB := (hB.alloc.alloc).keep hn | with_reducible replace hB := (hB.alloc.alloc.alloc).keep hn | with_reducible replace hB := (hB.alloc.alloc.alloc.alloc).keep hn | with_reducible replace hB := (hB.alloc.alloc.alloc.alloc.alloc).keep hn | with_reducible replace hB := (hB.alloc.alloc.alloc.alloc.alloc.alloc).keep hn | with_reducible replace hB := (((hB.set1 hb1 hb2).set1 hb1 hb2)).keep hn | with_reducible replace hB := (((((hB.set1 hb1 hb2).set1 hb1 hb2).set1 hb1 hb2).set1 hb1 hb2)).keep hn); clear hn; (try clear hR); have hR := hB.rules; simp only [Rules, World.size_alloc, Nat.add_one_le_iff, List.setIfInBounds_toArray, List.set_cons_zero, List.set_cons_succ] at hR) | (go_at_call 27; refine (sLess _ _ _).mono ?_; rintro e w1 ⟨rfl, hn⟩; (first | with_reducible replace hB := (hB).keep hn | with_reducible replace hB := (hB.alloc).keep hn | with_reducible replace hB := (hB.alloc.alloc).keep hn | with_reducible replace hB := (hB.alloc.alloc.alloc).keep hn | with_reducible replace hB := (hB.alloc.alloc.alloc.alloc).keep hn | with_reducible replace hB := (hB.alloc.alloc.alloc.alloc.alloc).keep hn | with_reducible replace hB := (hB.alloc.alloc.alloc.alloc.alloc.alloc).keep hn | with_reducible replace hB := (((hB.set1 hb1 hb2).set1 hb1 hb2)).keep hn | with_reducible replace hB := (((((hB.set1 hb1 hb2).set1 hb1 hb2).set1 hb1 hb2).set1 hb1 hb2)).keep hn); clear hn; (try clear hR); have hR := hB.rules; simp only [Rules, World.size_alloc, Nat.add_one_le_iff, List.setIfInBounds_toArray, List.set_cons_zero, List.set_cons_succ] at hR) | (go_at_call 25; refine (sNone _ _ _ _ _).mono ?_; rintro e w1 ⟨rfl, hn⟩; (first | with_reducible replace hB := (hB).keep hn | with_reducible replace hB := (hB.alloc).keep hn | with_reducible replace hB := (hB.alloc.alloc).keep hn | with_reducible replace hB := (hB.alloc.alloc.alloc).keep hn | with_reducible replace hB := (hB.alloc.alloc.alloc.alloc).keep hn | with_reducible replace hB := (hB.alloc.alloc.alloc.alloc.alloc).keep hn | with_reducible replace hB := (hB.alloc.alloc.alloc.alloc.alloc.alloc).keep hn | with_reducible replace hB := (((hB.set1 hb1 hb2).set1 hb1 hb2)).keep hn | with_reducible replace hB := (((((hB.set1 hb1 hb2).set1 hb1 hb2).set1 hb1 hb2).set1 hb1 hb2)).keep hn); clear hn; (try clear hR); have hR := hB.rules; simp only [Rules, World.size_alloc, Nat.add_one_le_iff, List.setIfInBounds_toArray, List.set_cons_zero, List.set_cons_succ] at hR))
    all_goals
      refine bodyPost_ret (v := .tuple #[.agg #[.int .i64 (smodV (smodOk x y a b c d) x a c), .int .i64 (smodV (smodOk x y a b c d) y b d)], .bool (smodOk x y a b c d)]) ?_ rfl ⟨rfl, ?_⟩
      · (simp [results, Try.results23, go_sem, hR, smodV, hk]; done)
      · repeat (first | exact ext_refl _ | exact hB.below | apply ext_alloc | apply ext_drew | (refine ext_set ?_ ?_; · first | (dsimp only; omega) | (simp; omega) | (simp; done)))
  rcases Bool.eq_false_or_eq_true (lessOk x a) with h3 | h3
  rotate_left
  · have hk : smodOk x y a b c d = false := by simp [smodOk, h3]
    have hB := Known.start w
    go_enter Try.func23, Try.ntmps23
    go_wp2_with (first | (go_at_call 15; refine (sWide _ _ _ _ _).mono ?_; rintro e w1 ⟨rfl, hn⟩; (first | with_reducible replace hB := (hB).keep hn | with_reducible replace hB := (hB.alloc).keep hn | with_reducible replace hB := (hB.alloc.alloc).keep hn | with_reducible replace hB := (hB.alloc.alloc.alloc).keep hn | with_reducible replace hB := (hB.alloc.alloc.alloc.alloc).keep hn | with_reducible replace hB := (hB.alloc.alloc.alloc.alloc.alloc).keep hn | with_reducible replace hB := (hB.alloc.alloc.alloc.alloc.alloc.alloc).keep hn | with_reducible replace hB := (((hB.set1 hb1 hb2).set1 hb1 hb2)).keep hn | with_reducible replace hB := (((((hB.set1 hb1 hb2).set1 hb1 hb2).set1 hb1 hb2).set1 hb1 hb2)).keep hn); clear hn; (try clear hR); have hR := hB.rules; simp only [Rules, World.size_alloc, Nat.add_one_le_iff, List.setIfInBounds_toArray, List.set_cons_zero, List.set_cons_succ] at hR) | (go_at_call 27; refine (sLess _ _ _).mono ?_; rintro e w1 ⟨rfl, hn⟩; (first | with_reducible replace hB := (hB).keep hn | with_reducible replace hB := (hB.alloc).keep hn | with_reducible replace hB := (hB.alloc.alloc).keep hn | with_reducible replace hB := (hB.alloc.alloc.alloc).keep hn | with_reducible replace hB := (hB.alloc.alloc.alloc.alloc).keep hn | with_reducible replace hB := (hB.alloc.alloc.alloc.alloc.alloc).keep hn | with_reducible replace hB := (hB.alloc.alloc.alloc.alloc.alloc.alloc).keep hn | with_reducible replace hB := (((hB.set1 hb1 hb2).set1 hb1 hb2)).keep hn | with_reducible replace hB := (((((hB.set1 hb1 hb2).set1 hb1 hb2).set1 hb1 hb2).set1 hb1 hb2)).keep hn); clear hn; (try clear hR); have hR := hB.rules; simp only [Rules, World.size_alloc, Nat.add_one_le_iff, List.setIfInBounds_toArray, List.set_cons_zero, List.set_cons_succ] at hR) | (go_at_call 25; refine (sNone _ _ _ _ _).mono ?_; rintro e w1 ⟨rfl, hn⟩; (first | with_reducible replace hB := (hB).keep hn | with_reducible replace hB := (hB.alloc).keep hn | with_reducible replace hB := (hB.alloc.alloc).keep hn | with_reducible replace hB := (hB.alloc.alloc.alloc).keep hn | with_reducible replace hB := (hB.alloc.alloc.alloc.alloc).keep hn | with_reducible replace hB := (hB.alloc.alloc.alloc.alloc.alloc).keep hn | with_reducible replace hB := (hB.alloc.alloc.alloc.alloc.alloc.alloc).keep hn | with_reducible replace hB := (((hB.set1 hb1 hb2).set1 hb1 hb2)).keep hn | with_reducible replace hB := (((((hB.set1 hb1 hb2).set1 hb1 hb2).set1 hb1 hb2).set1 hb1 hb2)).keep hn); clear hn; (try clear hR); have hR := hB.rules; simp only [Rules, World.size_alloc, Nat.add_one_le_iff, List.setIfInBounds_toArray, List.set_cons_zero, List.set_cons_succ] at hR))
    all_goals
      refine bodyPost_ret (v := .tuple #[.agg #[.int .i64 (smodV (smodOk x y a b c d) x a c), .int .i64 (smodV (smodOk x y a b c d) y b d)], .bool (smodOk x y a b c d)]) ?_ rfl ⟨rfl, ?_⟩
      · (simp [results, Try.results23, go_sem, hR, smodV, hk]; done)
      · repeat (first | exact ext_refl _ | exact hB.below | apply ext_alloc | apply ext_drew | (refine ext_set ?_ ?_; · first | (dsimp only; omega) | (simp; omega) | (simp; done)))
  rcases Bool.eq_false_or_eq_true (lessOk y b) with h4 | h4
  rotate_left
  · have hk : smodOk x y a b c d = false := by simp [smodOk, h4]
    have hB := Known.start w
    go_enter Try.func23, Try.ntmps23
    go_wp2_with (first | (go_at_call 15; refine (sWide _ _ _ _ _).mono ?_; rintro e w1 ⟨rfl, hn⟩; (first | with_reducible replace hB := (hB).keep hn | with_reducible replace hB := (hB.alloc).keep hn | with_reducible replace hB := (hB.alloc.alloc).keep hn | with_reducible replace hB := (hB.alloc.alloc.alloc).keep hn | with_reducible replace hB := (hB.alloc.alloc.alloc.alloc).keep hn | with_reducible replace hB := (hB.alloc.alloc.alloc.alloc.alloc).keep hn | with_reducible replace hB := (hB.alloc.alloc.alloc.alloc.alloc.alloc).keep hn | with_reducible replace hB := (((hB.set1 hb1 hb2).set1 hb1 hb2)).keep hn | with_reducible replace hB := (((((hB.set1 hb1 hb2).set1 hb1 hb2).set1 hb1 hb2).set1 hb1 hb2)).keep hn); clear hn; (try clear hR); have hR := hB.rules; simp only [Rules, World.size_alloc, Nat.add_one_le_iff, List.setIfInBounds_toArray, List.set_cons_zero, List.set_cons_succ] at hR) | (go_at_call 27; refine (sLess _ _ _).mono ?_; rintro e w1 ⟨rfl, hn⟩; (first | with_reducible replace hB := (hB).keep hn | with_reducible replace hB := (hB.alloc).keep hn | with_reducible replace hB := (hB.alloc.alloc).keep hn | with_reducible replace hB := (hB.alloc.alloc.alloc).keep hn | with_reducible replace hB := (hB.alloc.alloc.alloc.alloc).keep hn | with_reducible replace hB := (hB.alloc.alloc.alloc.alloc.alloc).keep hn | with_reducible replace hB := (hB.alloc.alloc.alloc.alloc.alloc.alloc).keep hn | with_reducible replace hB := (((hB.set1 hb1 hb2).set1 hb1 hb2)).keep hn | with_reducible replace hB := (((((hB.set1 hb1 hb2).set1 hb1 hb2).set1 hb1 hb2).set1 hb1 hb2)).keep hn); clear hn; (try clear hR); have hR := hB.rules; simp only [Rules, World.size_alloc, Nat.add_one_le_iff, List.setIfInBounds_toArray, List.set_cons_zero, List.set_cons_succ] at hR) | (go_at_call 25; refine (sNone _ _ _ _ _).mono ?_; rintro e w1 ⟨rfl, hn⟩; (first | with_reducible replace hB := (hB).keep hn | with_reducible replace hB := (hB.alloc).keep hn | with_reducible replace hB := (hB.alloc.alloc).keep hn | with_reducible replace hB := (hB.alloc.alloc.alloc).keep hn | with_reducible replace hB := (hB.alloc.alloc.alloc.alloc).keep hn | with_reducible replace hB := (hB.alloc.alloc.alloc.alloc.alloc).keep hn | with_reducible replace hB := (hB.alloc.alloc.alloc.alloc.alloc.alloc).keep hn | with_reducible replace hB := (((hB.set1 hb1 hb2).set1 hb1 hb2)).keep hn | with_reducible replace hB := (((((hB.set1 hb1 hb2).set1 hb1 hb2).set1 hb1 hb2).set1 hb1 hb2)).keep hn); clear hn; (try clear hR); have hR := hB.rules; simp only [Rules, World.size_alloc, Nat.add_one_le_iff, List.setIfInBounds_toArray, List.set_cons_zero, List.set_cons_succ] at hR))
    all_goals
      refine bodyPost_ret (v := .tuple #[.agg #[.int .i64 (smodV (smodOk x y a b c d) x a c), .int .i64 (smodV (smodOk x y a b c d) y b d)], .bool (smodOk x y a b c d)]) ?_ rfl ⟨rfl, ?_⟩
      · (simp [results, Try.results23, go_sem, hR, smodV, hk]; done)
      · repeat (first | exact ext_refl _ | exact hB.below | apply ext_alloc | apply ext_drew | (refine ext_set ?_ ?_; · first | (dsimp only; omega) | (simp; omega) | (simp; done)))
  have hk : smodOk x y a b c d = true := by simp [smodOk, h1, h2, h3, h4]
  have k2 := h2
  simp only [Bool.and_eq_true] at k2
  have hm : (lessV c a == 0) = false := lessV_nz oa oc (emptyB_lt h1).1 k2.1
  have hn : (lessV d b == 0) = false := lessV_nz ob od (emptyB_lt h1).2 k2.2
  have hm' : ¬ lessV c a = 0 := by simpa using hm
  have hn' : ¬ lessV d b = 0 := by simpa using hn
  clear k2
  have hB := Known.start w
  go_enter Try.func23, Try.ntmps23
  go_wp2_with (first | (go_at_call 15; refine (sWide _ _ _ _ _).mono ?_; rintro e w1 ⟨rfl, hn⟩; (first | with_reducible replace hB := (hB).keep hn | with_reducible replace hB := (hB.alloc).keep hn | with_reducible replace hB := (hB.alloc.alloc).keep hn | with_reducible replace hB := (hB.alloc.alloc.alloc).keep hn | with_reducible replace hB := (hB.alloc.alloc.alloc.alloc).keep hn | with_reducible replace hB := (hB.alloc.alloc.alloc.alloc.alloc).keep hn | with_reducible replace hB := (hB.alloc.alloc.alloc.alloc.alloc.alloc).keep hn | with_reducible replace hB := (((hB.set1 hb1 hb2).set1 hb1 hb2)).keep hn | with_reducible replace hB := (((((hB.set1 hb1 hb2).set1 hb1 hb2).set1 hb1 hb2).set1 hb1 hb2)).keep hn); clear hn; (try clear hR); have hR := hB.rules; simp only [Rules, World.size_alloc, Nat.add_one_le_iff, List.setIfInBounds_toArray, List.set_cons_zero, List.set_cons_succ] at hR) | (go_at_call 27; refine (sLess _ _ _).mono ?_; rintro e w1 ⟨rfl, hn⟩; (first | with_reducible replace hB := (hB).keep hn | with_reducible replace hB := (hB.alloc).keep hn | with_reducible replace hB := (hB.alloc.alloc).keep hn | with_reducible replace hB := (hB.alloc.alloc.alloc).keep hn | with_reducible replace hB := (hB.alloc.alloc.alloc.alloc).keep hn | with_reducible replace hB := (hB.alloc.alloc.alloc.alloc.alloc).keep hn | with_reducible replace hB := (hB.alloc.alloc.alloc.alloc.alloc.alloc).keep hn | with_reducible replace hB := (((hB.set1 hb1 hb2).set1 hb1 hb2)).keep hn | with_reducible replace hB := (((((hB.set1 hb1 hb2).set1 hb1 hb2).set1 hb1 hb2).set1 hb1 hb2)).keep hn); clear hn; (try clear hR); have hR := hB.rules; simp only [Rules, World.size_alloc, Nat.add_one_le_iff, List.setIfInBounds_toArray, List.set_cons_zero, List.set_cons_succ] at hR) | (go_at_call 25; refine (sNone _ _ _ _ _).mono ?_; rintro e w1 ⟨rfl, hn⟩; (first | with_reducible replace hB := (hB).keep hn | with_reducible replace hB := (hB.alloc).keep hn | with_reducible replace hB := (hB.alloc.alloc).keep hn | with_reducible replace hB := (hB.alloc.alloc.alloc).keep hn | with_reducible replace hB := (hB.alloc.alloc.alloc.alloc).keep hn | with_reducible replace hB := (hB.alloc.alloc.alloc.alloc.alloc).keep hn | with_reducible replace hB := (hB.alloc.alloc.alloc.alloc.alloc.alloc).keep hn | with_reducible replace hB := (((hB.set1 hb1 hb2).set1 hb1 hb2)).keep hn | with_reducible replace hB := (((((hB.set1 hb1 hb2).set1 hb1 hb2).set1 hb1 hb2).set1 hb1 hb2)).keep hn); clear hn; (try clear hR); have hR := hB.rules; simp only [Rules, World.size_alloc, Nat.add_one_le_iff, List.setIfInBounds_toArray, List.set_cons_zero, List.set_cons_succ] at hR))
  (first | with_reducible refine wp_region_known_tail hB 35 ?hm ?hB ?_ | with_reducible refine wp_region_known_tail hB.alloc 35 ?hm ?hB ?_ | with_reducible refine wp_region_known_tail hB.alloc.alloc 35 ?hm ?hB ?_ | with_reducible refine wp_region_known_tail hB.alloc.alloc.alloc 35 ?hm ?hB ?_ | with_reducible refine wp_region_known_tail hB.alloc.alloc.alloc.alloc 35 ?hm ?hB ?_ | with_reducible refine wp_region_known_tail hB.alloc.alloc.alloc.alloc.alloc 35 ?hm ?hB ?_ | with_reducible refine wp_region_known_tail hB.alloc.alloc.alloc.alloc.alloc.alloc 35 ?hm ?hB ?_); (case hm => kernel_rfl); (case hB => kernel_rfl); (try clear hR); intro hov; simp only [Rules, World.size_alloc, Nat.add_one_le_iff, List.setIfInBounds_toArray, List.set_cons_zero, List.set_cons_succ] at hov; simp only [List.take_succ_cons, List.take_zero, List.drop_succ_cons, List.drop_zero]
  repeat (go_big_quiet_step (first | (go_at_call 46; exact Calls.over _ (sLift _ _ _ hm)) | (go_at_call 46; exact Calls.over _ (sLift _ _ _ hn))))
  refine wpQuiet_nil ?_; intro wx hB; clear hov; have hR := hB.rules; simp only [Rules, World.size_alloc, Nat.add_one_le_iff, List.setIfInBounds_toArray, List.set_cons_zero, List.set_cons_succ] at hR
  go_wp2
  refine bodyPost_ret (v := .tuple #[.agg #[.int .i64 (smodV (smodOk x y a b c d) x a c), .int .i64 (smodV (smodOk x y a b c d) y b d)], .bool (smodOk x y a b c d)]) ?_ rfl ⟨rfl, ?_⟩
  · (simp [results, Try.results23, go_sem, hR, smodV, smodC, hk]; done)
  · repeat (first | exact ext_refl _ | exact hB.below | apply ext_alloc | apply ext_drew | (refine ext_set ?_ ?_; · first | (dsimp only; omega) | (simp; omega) | (simp; done)))

theorem sSmall5 (x0 x1 x2 x3 x4 : Int) {w0 : World} (w : World) {b b' : Nat} {t : TypeId} {l : List (Nat × Array Value × TypeId)} (hk : Known w0 w ((b', #[.int .i64 x0, .int .i64 x1, .int .i64 x2, .int .i64 x3, .int .i64 x4], t) :: l)) (hb : b' = b) : Calls Try.prog 33 #[.slice (some ⟨b, 0, none⟩) 5 5] w (Gives (.bool (smallB x0 && smallB x1 && smallB x2 && smallB x3 && smallB x4)) w) := by
  subst hb
  have hR := hk.rules
  simp only [Rules, Nat.add_one_le_iff] at hR
  obtain ⟨hR1, hR2, hR3, hR4, _⟩ := hR
  clear hk
  have hB := Known.start w
  go_enter Try.func33, Try.ntmps33
  go_wp2
  refine wp_loop_rounds 6 ?_
  repeat any_goals (rw [rounds_succ]; go_wp2)
  all_goals
    refine bodyPost_ret (v := .bool (smallB x0 && smallB x1 && smallB x2 && smallB x3 && smallB x4)) ?_ rfl ⟨rfl, ?_⟩
    · first | (simp [results, Try.results33, go_sem, smallB, *]; done) | (simp [results, Try.results33, go_sem, smallB]; omega)
    · repeat (first | exact ext_refl _ | exact hB.below | apply ext_alloc | apply ext_drew | (refine ext_set ?_ ?_; · first | (dsimp only; omega) | (simp; omega) | (simp; done)))

theorem sSmall8 (x0 x1 x2 x3 x4 x5 x6 x7 : Int) {w0 : World} (w : World) {b b' : Nat} {t : TypeId} {l : List (Nat × Array Value × TypeId)} (hk : Known w0 w ((b', #[.int .i64 x0, .int .i64 x1, .int .i64 x2, .int .i64 x3, .int .i64 x4, .int .i64 x5, .int .i64 x6, .int .i64 x7], t) :: l)) (hb : b' = b) : Calls Try.prog 33 #[.slice (some ⟨b, 0, none⟩) 8 8] w (Gives (.bool (smallB x0 && smallB x1 && smallB x2 && smallB x3 && smallB x4 && smallB x5 && smallB x6 && smallB x7)) w) := by
  subst hb
  have hR := hk.rules
  simp only [Rules, Nat.add_one_le_iff] at hR
  obtain ⟨hR1, hR2, hR3, hR4, _⟩ := hR
  clear hk
  have hB := Known.start w
  go_enter Try.func33, Try.ntmps33
  go_wp2
  refine wp_loop_rounds 9 ?_
  repeat any_goals (rw [rounds_succ]; go_wp2)
  all_goals
    refine bodyPost_ret (v := .bool (smallB x0 && smallB x1 && smallB x2 && smallB x3 && smallB x4 && smallB x5 && smallB x6 && smallB x7)) ?_ rfl ⟨rfl, ?_⟩
    · first | (simp [results, Try.results33, go_sem, smallB, *]; done) | (simp [results, Try.results33, go_sem, smallB]; omega)
    · repeat (first | exact ext_refl _ | exact hB.below | apply ext_alloc | apply ext_drew | (refine ext_set ?_ ?_; · first | (dsimp only; omega) | (simp; omega) | (simp; done)))

end Go.Proofs.Ytfhimelhfckjdaa
