/-
  The contracts of the reference's functions and of the laws' own helpers that this seat reaches: what each hands back, and that it changes nothing that was there.
  Conditions: only those that a theorem writes out (a divisor that is not 0).
-/
import Derived.Test.YtngfknnlojadeaaImpl
import Derived.Test.YtngfknnlojadeaaAlloc
import Derived.Handy
namespace Go.Proofs.Ytngfknnlojadeaa
open Go.RowKit
set_option linter.unusedSimpArgs false
set_option linter.unusedVariables false
set_option maxHeartbeats 2000000

theorem sSum (a b : Int) (w : World) : Calls Try.prog 38 #[.int .i64 a, .int .i64 b] w (Gives (.tuple #[.int .i64 (sumV a b), .bool (sumOk a b)]) w) := by
  have hB := Known.start w
  go_enter Try.func38, Try.ntmps38
  go_wp2
  all_goals
    refine bodyPost_ret (v := .tuple #[.int .i64 (sumV a b), .bool (sumOk a b)]) ?_ rfl ⟨rfl, ?_⟩
    · first | (simp [results, Try.results38, go_sem, sumV, sumOk, *]; done) | (simp [results, Try.results38, go_sem, sumV, sumOk, *]; omega)
    · repeat (first | exact ext_refl _ | exact hB.below | apply ext_alloc | apply ext_drew | (refine ext_set ?_ ?_; · first | (dsimp only; omega) | (simp; omega) | (simp; done)))

theorem sLess (a b : Int) (w : World) : Calls Try.prog 41 #[.int .i64 a, .int .i64 b] w (Gives (.tuple #[.int .i64 (lessV a b), .bool (lessOk a b)]) w) := by
  have hB := Known.start w
  go_enter Try.func41, Try.ntmps41
  go_wp2
  all_goals
    refine bodyPost_ret (v := .tuple #[.int .i64 (lessV a b), .bool (lessOk a b)]) ?_ rfl ⟨rfl, ?_⟩
    · first | (simp [results, Try.results41, go_sem, lessV, lessOk, *]; done) | (simp [results, Try.results41, go_sem, lessV, lessOk, *]; omega)
    · repeat (first | exact ext_refl _ | exact hB.below | apply ext_alloc | apply ext_drew | (refine ext_set ?_ ?_; · first | (dsimp only; omega) | (simp; omega) | (simp; done)))

theorem sTimes (a b : Int) (w : World) : Calls Try.prog 26 #[.int .i64 a, .int .i64 b] w (Gives (.tuple #[.int .i64 (timesV a b), .bool (timesOk a b)]) w) := by
  cases ha : (a == 0) with
  | true =>
    have hB := Known.start w
    go_enter Try.func26, Try.ntmps26
    go_wp2
    refine bodyPost_ret (v := .tuple #[.int .i64 (timesV a b), .bool (timesOk a b)]) ?_ rfl ⟨rfl, ?_⟩
    · simp [results, Try.results26, go_sem, timesV, timesOk, timesNo, ha]
    · repeat (first | exact ext_refl _ | exact hB.below | apply ext_alloc | apply ext_drew | (refine ext_set ?_ ?_; · first | (dsimp only; omega) | (simp; omega) | (simp; done)))
  | false =>
    cases hb : (b == 0) with
    | true =>
      have hB := Known.start w
      go_enter Try.func26, Try.ntmps26
      go_wp2
      refine bodyPost_ret (v := .tuple #[.int .i64 (timesV a b), .bool (timesOk a b)]) ?_ rfl ⟨rfl, ?_⟩
      · simp [results, Try.results26, go_sem, timesV, timesOk, timesNo, ha, hb]
      · repeat (first | exact ext_refl _ | exact hB.below | apply ext_alloc | apply ext_drew | (refine ext_set ?_ ?_; · first | (dsimp only; omega) | (simp; omega) | (simp; done)))
    | false =>
      have hb' : ¬ b = 0 := by simpa using hb
      cases h1 : (a == -1) <;> cases h2 : (b == -9223372036854775808) <;> cases h3 : (b == -1) <;> cases h4 : (a == -9223372036854775808) <;> cases h5 : (wrap64 ((wrap64 (a * b)).tdiv b) != a)
      all_goals
        have hB := Known.start w
        go_enter Try.func26, Try.ntmps26
        go_wp2
        refine bodyPost_ret (v := .tuple #[.int .i64 (timesV a b), .bool (timesOk a b)]) ?_ rfl ⟨rfl, ?_⟩
        · simp [results, Try.results26, go_sem, timesV, timesOk, timesNo, ha, hb, h1, h2, h3, h4, h5]
        · repeat (first | exact ext_refl _ | exact hB.below | apply ext_alloc | apply ext_drew | (refine ext_set ?_ ?_; · first | (dsimp only; omega) | (simp; omega) | (simp; done)))

theorem sNone (a b c d : Int) (w : World) : Calls Try.prog 15 #[.agg #[.int .i64 a, .int .i64 b, .int .i64 c, .int .i64 d]] w (Gives (.bool (emptyB a b c d)) w) := by
  have hB := Known.start w
  go_enter Try.func15, Try.ntmps15
  go_wp2
  all_goals
    refine bodyPost_ret (v := .bool (emptyB a b c d)) ?_ rfl ⟨rfl, ?_⟩
    · first | (simp [results, Try.results15, go_sem, emptyB, *]; done) | (simp [results, Try.results15, go_sem, emptyB, *]; omega)
    · repeat (first | exact ext_refl _ | exact hB.below | apply ext_alloc | apply ext_drew | (refine ext_set ?_ ?_; · first | (dsimp only; omega) | (simp; omega) | (simp; done)))

theorem sWellFormed (a b c d : Int) (w : World) : Calls Try.prog 31 #[.agg #[.int .i64 a, .int .i64 b, .int .i64 c, .int .i64 d]] w (Gives (.bool (wfB a b c d)) w) := by
  have hB := Known.start w
  go_enter Try.func31, Try.ntmps31
  go_wp2
  all_goals
    refine bodyPost_ret (v := .bool (wfB a b c d)) ?_ rfl ⟨rfl, ?_⟩
    · first | (simp [results, Try.results31, go_sem, wfB, *]; done) | (simp [results, Try.results31, go_sem, wfB, *]; omega)
    · repeat (first | exact ext_refl _ | exact hB.below | apply ext_alloc | apply ext_drew | (refine ext_set ?_ ?_; · first | (dsimp only; omega) | (simp; omega) | (simp; done)))

theorem sHas (a b c d x y : Int) (w : World) : Calls Try.prog 29 #[.agg #[.int .i64 a, .int .i64 b, .int .i64 c, .int .i64 d], .agg #[.int .i64 x, .int .i64 y]] w (Gives (.bool (inB x y a b c d)) w) := by
  have hB := Known.start w
  go_enter Try.func29, Try.ntmps29
  go_wp2
  all_goals
    refine bodyPost_ret (v := .bool (inB x y a b c d)) ?_ rfl ⟨rfl, ?_⟩
    · first | (simp [results, Try.results29, go_sem, inB, *]; done) | (simp [results, Try.results29, go_sem, inB, *]; omega)
    · repeat (first | exact ext_refl _ | exact hB.below | apply ext_alloc | apply ext_drew | (refine ext_set ?_ ?_; · first | (dsimp only; omega) | (simp; omega) | (simp; done)))

theorem sPointIn (x y a b c d : Int) (w : World) : Calls Try.prog 17 #[.agg #[.int .i64 x, .int .i64 y], .agg #[.int .i64 a, .int .i64 b, .int .i64 c, .int .i64 d]] w (Gives (.bool (inB x y a b c d)) w) := by
  have hB := Known.start w
  go_enter Try.func17, Try.ntmps17
  go_wp2_with (first | (go_at_call 29; refine (sHas _ _ _ _ _ _ _).mono ?_; rintro e w1 ⟨rfl, hn⟩; (first | with_reducible replace hB := (hB).keep hn | with_reducible replace hB := (hB.alloc).keep hn | with_reducible replace hB := (hB.alloc.alloc).keep hn | with_reducible replace hB := (hB.alloc.alloc.alloc).keep hn | with_reducible replace hB := (hB.alloc.alloc.alloc.alloc).keep hn | with_reducible replace hB := (hB.alloc.alloc.alloc.alloc.alloc).keep hn | with_reducible replace hB := (hB.alloc.alloc.alloc.alloc.alloc.alloc).keep hn | with_reducible replace hB := (((hB.set1 hb1 hb2).set1 hb1 hb2)).keep hn | with_reducible replace hB := (((((hB.set1 hb1 hb2).set1 hb1 hb2).set1 hb1 hb2).set1 hb1 hb2)).keep hn); clear hn; (try clear hR); have hR := hB.rules; simp only [Rules, World.size_alloc, Nat.add_one_le_iff, List.setIfInBounds_toArray, List.set_cons_zero, List.set_cons_succ] at hR))
  all_goals
    refine bodyPost_ret (v := .bool (inB x y a b c d)) ?_ rfl ⟨rfl, ?_⟩
    · first | (simp [results, Try.results17, go_sem, hR, *]; done) | (simp [results, Try.results17, go_sem, hR, *]; omega)
    · repeat (first | exact ext_refl _ | exact hB.below | apply ext_alloc | apply ext_drew | (refine ext_set ?_ ?_; · first | (dsimp only; omega) | (simp; omega) | (simp; done)))

theorem sWide (a b c d : Int) (w : World) : Calls Try.prog 30 #[.agg #[.int .i64 a, .int .i64 b, .int .i64 c, .int .i64 d]] w (Gives (.tuple #[.agg #[.int .i64 (lessV c a), .int .i64 (lessV d b)], .bool (lessOk c a && lessOk d b)]) w) := by
  have hB := Known.start w
  go_enter Try.func30, Try.ntmps30
  go_wp2_with (first | (go_at_call 41; refine (sLess _ _ _).mono ?_; rintro e w1 ⟨rfl, hn⟩; (first | with_reducible replace hB := (hB).keep hn | with_reducible replace hB := (hB.alloc).keep hn | with_reducible replace hB := (hB.alloc.alloc).keep hn | with_reducible replace hB := (hB.alloc.alloc.alloc).keep hn | with_reducible replace hB := (hB.alloc.alloc.alloc.alloc).keep hn | with_reducible replace hB := (hB.alloc.alloc.alloc.alloc.alloc).keep hn | with_reducible replace hB := (hB.alloc.alloc.alloc.alloc.alloc.alloc).keep hn | with_reducible replace hB := (((hB.set1 hb1 hb2).set1 hb1 hb2)).keep hn | with_reducible replace hB := (((((hB.set1 hb1 hb2).set1 hb1 hb2).set1 hb1 hb2).set1 hb1 hb2)).keep hn); clear hn; (try clear hR); have hR := hB.rules; simp only [Rules, World.size_alloc, Nat.add_one_le_iff, List.setIfInBounds_toArray, List.set_cons_zero, List.set_cons_succ] at hR))
  all_goals
    refine bodyPost_ret (v := .tuple #[.agg #[.int .i64 (lessV c a), .int .i64 (lessV d b)], .bool (lessOk c a && lessOk d b)]) ?_ rfl ⟨rfl, ?_⟩
    · first | (simp [results, Try.results30, go_sem, hR, *]; done) | (simp [results, Try.results30, go_sem, hR, *]; omega)
    · repeat (first | exact ext_refl _ | exact hB.below | apply ext_alloc | apply ext_drew | (refine ext_set ?_ ?_; · first | (dsimp only; omega) | (simp; omega) | (simp; done)))

theorem toA2 (a b : Int) (w : World) : Calls Try.prog 18 #[.agg #[.int .i64 a, .int .i64 b]] w (Gives (.agg #[.int .i64 a, .int .i64 b]) w) := by
  have hB := Known.start w
  go_enter Try.func18, Try.ntmps18
  go_wp2
  go_rounds 3
  refine bodyPost_ret (v := .agg #[.int .i64 a, .int .i64 b]) ?_ rfl ⟨rfl, ?_⟩
  · simp [results, Try.results18, go_sem]
  · repeat (first | exact ext_refl _ | exact hB.below | apply ext_alloc | apply ext_drew | (refine ext_set ?_ ?_; · first | (dsimp only; omega) | (simp; omega) | (simp; done)))

theorem toA4 (a b c d : Int) (w : World) : Calls Try.prog 19 #[.agg #[.int .i64 a, .int .i64 b, .int .i64 c, .int .i64 d]] w (Gives (.agg #[.int .i64 a, .int .i64 b, .int .i64 c, .int .i64 d]) w) := by
  have hB := Known.start w
  go_enter Try.func19, Try.ntmps19
  go_wp2
  go_rounds 5
  refine bodyPost_ret (v := .agg #[.int .i64 a, .int .i64 b, .int .i64 c, .int .i64 d]) ?_ rfl ⟨rfl, ?_⟩
  · simp [results, Try.results19, go_sem]
  · repeat (first | exact ext_refl _ | exact hB.below | apply ext_alloc | apply ext_drew | (refine ext_set ?_ ?_; · first | (dsimp only; omega) | (simp; omega) | (simp; done)))

theorem sMoved (a b c d x y : Int) (w : World) : Calls Try.prog 20 #[.agg #[.int .i64 a, .int .i64 b, .int .i64 c, .int .i64 d], .agg #[.int .i64 x, .int .i64 y]] w (Gives (.tuple #[.agg #[.int .i64 (sumV a x), .int .i64 (sumV b y), .int .i64 (sumV c x), .int .i64 (sumV d y)], .bool (sumOk a x && sumOk b y && sumOk c x && sumOk d y)]) w) := by
  have hB := Known.start w
  go_enter Try.func20, Try.ntmps20
  go_wp2
  go_loopw [7, 8] (fun g i wr => ∃ j : Nat, j ≤ 4 ∧ i = .int .i64 j ∧ g = .bool (pre4 (sumOk a x) (sumOk b y) (sumOk c x) (sumOk d y) j) ∧ Known w wr [(w.heap.size + 1 + 1 + 1, (fill4 (sumV a x) (sumV b y) (sumV c x) (sumV d y) j), 22), (w.heap.size + 1 + 1, #[.int .i64 0, .int .i64 0, .int .i64 0, .int .i64 0], 22), (w.heap.size + 1, #[.int .i64 x, .int .i64 y], 25), (w.heap.size, #[.int .i64 a, .int .i64 b, .int .i64 c, .int .i64 d], 22)]) (fun _ i _ => 4 - (intOf i).toNat)
  case atStart => exact ⟨0, by omega, rfl, rfl, hB.alloc.alloc.alloc.alloc.same (by simp [fill4])⟩
  case round =>
    obtain ⟨j, hj, rfl, rfl, hK⟩ := hrel
    clear hB
    have hB := hK
    clear hK
    have hj5 : j = 0 ∨ j = 1 ∨ j = 2 ∨ j = 3 ∨ j = 4 := by omega
    rcases hj5 with rfl | rfl | rfl | rfl | rfl
    · simp only [pre4, fill4] at hB ⊢
      have hR := hB.rules
      simp only [Rules, Nat.add_one_le_iff] at hR
      go_wp2
      all_goals ((first | with_reducible refine wp_region_known hB ?hm ?hB ?_ | with_reducible refine wp_region_known hB.alloc ?hm ?hB ?_ | with_reducible refine wp_region_known hB.alloc.alloc ?hm ?hB ?_ | with_reducible refine wp_region_known hB.alloc.alloc.alloc ?hm ?hB ?_ | with_reducible refine wp_region_known hB.alloc.alloc.alloc.alloc ?hm ?hB ?_ | with_reducible refine wp_region_known hB.alloc.alloc.alloc.alloc.alloc ?hm ?hB ?_ | with_reducible refine wp_region_known hB.alloc.alloc.alloc.alloc.alloc.alloc ?hm ?hB ?_); (case hm => kernel_rfl); (case hB => kernel_rfl); (try clear hR); intro hov; simp only [Rules, World.size_alloc, Nat.add_one_le_iff, List.setIfInBounds_toArray, List.set_cons_zero, List.set_cons_succ] at hov; (repeat (go_big_quiet_step (first | (go_at_call 38; exact Calls.over _ (sSum _ _ _))))); refine wpQuiet_nil ?_; intro wx hB; clear hov; have hR := hB.rules; simp only [Rules, World.size_alloc, Nat.add_one_le_iff, List.setIfInBounds_toArray, List.set_cons_zero, List.set_cons_succ] at hR; go_wp2)
      all_goals
        go_roundw
        case rel => exact ⟨1, by omega, rfl, by simp [pre4, *], (hB.set1 (by omega) (by simp; omega)).same (by simp [fill4])⟩
        case measure => simp [intOf]
    · simp only [pre4, fill4] at hB ⊢
      have hR := hB.rules
      simp only [Rules, Nat.add_one_le_iff] at hR
      go_wp2
      all_goals ((first | with_reducible refine wp_region_known hB ?hm ?hB ?_ | with_reducible refine wp_region_known hB.alloc ?hm ?hB ?_ | with_reducible refine wp_region_known hB.alloc.alloc ?hm ?hB ?_ | with_reducible refine wp_region_known hB.alloc.alloc.alloc ?hm ?hB ?_ | with_reducible refine wp_region_known hB.alloc.alloc.alloc.alloc ?hm ?hB ?_ | with_reducible refine wp_region_known hB.alloc.alloc.alloc.alloc.alloc ?hm ?hB ?_ | with_reducible refine wp_region_known hB.alloc.alloc.alloc.alloc.alloc.alloc ?hm ?hB ?_); (case hm => kernel_rfl); (case hB => kernel_rfl); (try clear hR); intro hov; simp only [Rules, World.size_alloc, Nat.add_one_le_iff, List.setIfInBounds_toArray, List.set_cons_zero, List.set_cons_succ] at hov; (repeat (go_big_quiet_step (first | (go_at_call 38; exact Calls.over _ (sSum _ _ _))))); refine wpQuiet_nil ?_; intro wx hB; clear hov; have hR := hB.rules; simp only [Rules, World.size_alloc, Nat.add_one_le_iff, List.setIfInBounds_toArray, List.set_cons_zero, List.set_cons_succ] at hR; go_wp2)
      all_goals
        go_roundw
        case rel => exact ⟨2, by omega, rfl, by simp [pre4, *], (hB.set1 (by omega) (by simp; omega)).same (by simp [fill4])⟩
        case measure => simp [intOf]
    · simp only [pre4, fill4] at hB ⊢
      have hR := hB.rules
      simp only [Rules, Nat.add_one_le_iff] at hR
      go_wp2
      all_goals ((first | with_reducible refine wp_region_known hB ?hm ?hB ?_ | with_reducible refine wp_region_known hB.alloc ?hm ?hB ?_ | with_reducible refine wp_region_known hB.alloc.alloc ?hm ?hB ?_ | with_reducible refine wp_region_known hB.alloc.alloc.alloc ?hm ?hB ?_ | with_reducible refine wp_region_known hB.alloc.alloc.alloc.alloc ?hm ?hB ?_ | with_reducible refine wp_region_known hB.alloc.alloc.alloc.alloc.alloc ?hm ?hB ?_ | with_reducible refine wp_region_known hB.alloc.alloc.alloc.alloc.alloc.alloc ?hm ?hB ?_); (case hm => kernel_rfl); (case hB => kernel_rfl); (try clear hR); intro hov; simp only [Rules, World.size_alloc, Nat.add_one_le_iff, List.setIfInBounds_toArray, List.set_cons_zero, List.set_cons_succ] at hov; (repeat (go_big_quiet_step (first | (go_at_call 38; exact Calls.over _ (sSum _ _ _))))); refine wpQuiet_nil ?_; intro wx hB; clear hov; have hR := hB.rules; simp only [Rules, World.size_alloc, Nat.add_one_le_iff, List.setIfInBounds_toArray, List.set_cons_zero, List.set_cons_succ] at hR; go_wp2)
      all_goals
        go_roundw
        case rel => exact ⟨3, by omega, rfl, by simp [pre4, *], (hB.set1 (by omega) (by simp; omega)).same (by simp [fill4])⟩
        case measure => simp [intOf]
    · simp only [pre4, fill4] at hB ⊢
      have hR := hB.rules
      simp only [Rules, Nat.add_one_le_iff] at hR
      go_wp2
      all_goals ((first | with_reducible refine wp_region_known hB ?hm ?hB ?_ | with_reducible refine wp_region_known hB.alloc ?hm ?hB ?_ | with_reducible refine wp_region_known hB.alloc.alloc ?hm ?hB ?_ | with_reducible refine wp_region_known hB.alloc.alloc.alloc ?hm ?hB ?_ | with_reducible refine wp_region_known hB.alloc.alloc.alloc.alloc ?hm ?hB ?_ | with_reducible refine wp_region_known hB.alloc.alloc.alloc.alloc.alloc ?hm ?hB ?_ | with_reducible refine wp_region_known hB.alloc.alloc.alloc.alloc.alloc.alloc ?hm ?hB ?_); (case hm => kernel_rfl); (case hB => kernel_rfl); (try clear hR); intro hov; simp only [Rules, World.size_alloc, Nat.add_one_le_iff, List.setIfInBounds_toArray, List.set_cons_zero, List.set_cons_succ] at hov; (repeat (go_big_quiet_step (first | (go_at_call 38; exact Calls.over _ (sSum _ _ _))))); refine wpQuiet_nil ?_; intro wx hB; clear hov; have hR := hB.rules; simp only [Rules, World.size_alloc, Nat.add_one_le_iff, List.setIfInBounds_toArray, List.set_cons_zero, List.set_cons_succ] at hR; go_wp2)
      all_goals
        go_roundw
        case rel => exact ⟨4, by omega, rfl, by simp [pre4, *], (hB.set1 (by omega) (by simp; omega)).same (by simp [fill4])⟩
        case measure => simp [intOf]
    · simp only [pre4, fill4] at hB ⊢
      have hR := hB.rules
      simp only [Rules, Nat.add_one_le_iff] at hR
      go_wp2
      refine bodyPost_ret (v := .tuple #[.agg #[.int .i64 (sumV a x), .int .i64 (sumV b y), .int .i64 (sumV c x), .int .i64 (sumV d y)], .bool (sumOk a x && sumOk b y && sumOk c x && sumOk d y)]) ?_ rfl ⟨rfl, ?_⟩
      · simp [results, Try.results20, go_sem, hR]
      · repeat (first | exact ext_refl _ | exact hB.below | apply ext_alloc | apply ext_drew | (refine ext_set ?_ ?_; · first | (dsimp only; omega) | (simp; omega) | (simp; done)))

theorem sBack (a b c d x y : Int) (w : World) : Calls Try.prog 22 #[.agg #[.int .i64 a, .int .i64 b, .int .i64 c, .int .i64 d], .agg #[.int .i64 x, .int .i64 y]] w (Gives (.tuple #[.agg #[.int .i64 (lessV a x), .int .i64 (lessV b y), .int .i64 (lessV c x), .int .i64 (lessV d y)], .bool (lessOk a x && lessOk b y && lessOk c x && lessOk d y)]) w) := by
  have hB := Known.start w
  go_enter Try.func22, Try.ntmps22
  go_wp2
  go_loopw [7, 8] (fun g i wr => ∃ j : Nat, j ≤ 4 ∧ i = .int .i64 j ∧ g = .bool (pre4 (lessOk a x) (lessOk b y) (lessOk c x) (lessOk d y) j) ∧ Known w wr [(w.heap.size + 1 + 1 + 1, (fill4 (lessV a x) (lessV b y) (lessV c x) (lessV d y) j), 22), (w.heap.size + 1 + 1, #[.int .i64 0, .int .i64 0, .int .i64 0, .int .i64 0], 22), (w.heap.size + 1, #[.int .i64 x, .int .i64 y], 25), (w.heap.size, #[.int .i64 a, .int .i64 b, .int .i64 c, .int .i64 d], 22)]) (fun _ i _ => 4 - (intOf i).toNat)
  case atStart => exact ⟨0, by omega, rfl, rfl, hB.alloc.alloc.alloc.alloc.same (by simp [fill4])⟩
  case round =>
    obtain ⟨j, hj, rfl, rfl, hK⟩ := hrel
    clear hB
    have hB := hK
    clear hK
    have hj5 : j = 0 ∨ j = 1 ∨ j = 2 ∨ j = 3 ∨ j = 4 := by omega
    rcases hj5 with rfl | rfl | rfl | rfl | rfl
    · simp only [pre4, fill4] at hB ⊢
      have hR := hB.rules
      simp only [Rules, Nat.add_one_le_iff] at hR
      go_wp2
      all_goals ((first | with_reducible refine wp_region_known hB ?hm ?hB ?_ | with_reducible refine wp_region_known hB.alloc ?hm ?hB ?_ | with_reducible refine wp_region_known hB.alloc.alloc ?hm ?hB ?_ | with_reducible refine wp_region_known hB.alloc.alloc.alloc ?hm ?hB ?_ | with_reducible refine wp_region_known hB.alloc.alloc.alloc.alloc ?hm ?hB ?_ | with_reducible refine wp_region_known hB.alloc.alloc.alloc.alloc.alloc ?hm ?hB ?_ | with_reducible refine wp_region_known hB.alloc.alloc.alloc.alloc.alloc.alloc ?hm ?hB ?_); (case hm => kernel_rfl); (case hB => kernel_rfl); (try clear hR); intro hov; simp only [Rules, World.size_alloc, Nat.add_one_le_iff, List.setIfInBounds_toArray, List.set_cons_zero, List.set_cons_succ] at hov; (repeat (go_big_quiet_step (first | (go_at_call 41; exact Calls.over _ (sLess _ _ _))))); refine wpQuiet_nil ?_; intro wx hB; clear hov; have hR := hB.rules; simp only [Rules, World.size_alloc, Nat.add_one_le_iff, List.setIfInBounds_toArray, List.set_cons_zero, List.set_cons_succ] at hR; go_wp2)
      all_goals
        go_roundw
        case rel => exact ⟨1, by omega, rfl, by simp [pre4, *], (hB.set1 (by omega) (by simp; omega)).same (by simp [fill4])⟩
        case measure => simp [intOf]
    · simp only [pre4, fill4] at hB ⊢
      have hR := hB.rules
      simp only [Rules, Nat.add_one_le_iff] at hR
      go_wp2
      all_goals ((first | with_reducible refine wp_region_known hB ?hm ?hB ?_ | with_reducible refine wp_region_known hB.alloc ?hm ?hB ?_ | with_reducible refine wp_region_known hB.alloc.alloc ?hm ?hB ?_ | with_reducible refine wp_region_known hB.alloc.alloc.alloc ?hm ?hB ?_ | with_reducible refine wp_region_known hB.alloc.alloc.alloc.alloc ?hm ?hB ?_ | with_reducible refine wp_region_known hB.alloc.alloc.alloc.alloc.alloc ?hm ?hB ?_ | with_reducible refine wp_region_known hB.alloc.alloc.alloc.alloc.alloc.alloc ?hm ?hB ?_); (case hm => kernel_rfl); (case hB => kernel_rfl); (try clear hR); intro hov; simp only [Rules, World.size_alloc, Nat.add_one_le_iff, List.setIfInBounds_toArray, List.set_cons_zero, List.set_cons_succ] at hov; (repeat (go_big_quiet_step (first | (go_at_call 41; exact Calls.over _ (sLess _ _ _))))); refine wpQuiet_nil ?_; intro wx hB; clear hov; have hR := hB.rules; simp only [Rules, World.size_alloc, Nat.add_one_le_iff, List.setIfInBounds_toArray, List.set_cons_zero, List.set_cons_succ] at hR; go_wp2)
      all_goals
        go_roundw
        case rel => exact ⟨2, by omega, rfl, by simp [pre4, *], (hB.set1 (by omega) (by simp; omega)).same (by simp [fill4])⟩
        case measure => simp [intOf]
    · simp only [pre4, fill4] at hB ⊢
      have hR := hB.rules
      simp only [Rules, Nat.add_one_le_iff] at hR
      go_wp2
      all_goals ((first | with_reducible refine wp_region_known hB ?hm ?hB ?_ | with_reducible refine wp_region_known hB.alloc ?hm ?hB ?_ | with_reducible refine wp_region_known hB.alloc.alloc ?hm ?hB ?_ | with_reducible refine wp_region_known hB.alloc.alloc.alloc ?hm ?hB ?_ | with_reducible refine wp_region_known hB.alloc.alloc.alloc.alloc ?hm ?hB ?_ | with_reducible refine wp_region_known hB.alloc.alloc.alloc.alloc.alloc ?hm ?hB ?_ | with_reducible refine wp_region_known hB.alloc.alloc.alloc.alloc.alloc.alloc ?hm ?hB ?_); (case hm => kernel_rfl); (case hB => kernel_rfl); (try clear hR); intro hov; simp only [Rules, World.size_alloc, Nat.add_one_le_iff, List.setIfInBounds_toArray, List.set_cons_zero, List.set_cons_succ] at hov; (repeat (go_big_quiet_step (first | (go_at_call 41; exact Calls.over _ (sLess _ _ _))))); refine wpQuiet_nil ?_; intro wx hB; clear hov; have hR := hB.rules; simp only [Rules, World.size_alloc, Nat.add_one_le_iff, List.setIfInBounds_toArray, List.set_cons_zero, List.set_cons_succ] at hR; go_wp2)
      all_goals
        go_roundw
        case rel => exact ⟨3, by omega, rfl, by simp [pre4, *], (hB.set1 (by omega) (by simp; omega)).same (by simp [fill4])⟩
        case measure => simp [intOf]
    · simp only [pre4, fill4] at hB ⊢
      have hR := hB.rules
      simp only [Rules, Nat.add_one_le_iff] at hR
      go_wp2
      all_goals ((first | with_reducible refine wp_region_known hB ?hm ?hB ?_ | with_reducible refine wp_region_known hB.alloc ?hm ?hB ?_ | with_reducible refine wp_region_known hB.alloc.alloc ?hm ?hB ?_ | with_reducible refine wp_region_known hB.alloc.alloc.alloc ?hm ?hB ?_ | with_reducible refine wp_region_known hB.alloc.alloc.alloc.alloc ?hm ?hB ?_ | with_reducible refine wp_region_known hB.alloc.alloc.alloc.alloc.alloc ?hm ?hB ?_ | with_reducible refine wp_region_known hB.alloc.alloc.alloc.alloc.alloc.alloc ?hm ?hB ?_); (case hm => kernel_rfl); (case hB => kernel_rfl); (try clear hR); intro hov; simp only [Rules, World.size_alloc, Nat.add_one_le_iff, List.setIfInBounds_toArray, List.set_cons_zero, List.set_cons_succ] at hov; (repeat (go_big_quiet_step (first | (go_at_call 41; exact Calls.over _ (sLess _ _ _))))); refine wpQuiet_nil ?_; intro wx hB; clear hov; have hR := hB.rules; simp only [Rules, World.size_alloc, Nat.add_one_le_iff, List.setIfInBounds_toArray, List.set_cons_zero, List.set_cons_succ] at hR; go_wp2)
      all_goals
        go_roundw
        case rel => exact ⟨4, by omega, rfl, by simp [pre4, *], (hB.set1 (by omega) (by simp; omega)).same (by simp [fill4])⟩
        case measure => simp [intOf]
    · simp only [pre4, fill4] at hB ⊢
      have hR := hB.rules
      simp only [Rules, Nat.add_one_le_iff] at hR
      go_wp2
      refine bodyPost_ret (v := .tuple #[.agg #[.int .i64 (lessV a x), .int .i64 (lessV b y), .int .i64 (lessV c x), .int .i64 (lessV d y)], .bool (lessOk a x && lessOk b y && lessOk c x && lessOk d y)]) ?_ rfl ⟨rfl, ?_⟩
      · simp [results, Try.results22, go_sem, hR]
      · repeat (first | exact ext_refl _ | exact hB.below | apply ext_alloc | apply ext_drew | (refine ext_set ?_ ?_; · first | (dsimp only; omega) | (simp; omega) | (simp; done)))

end Go.Proofs.Ytngfknnlojadeaa
