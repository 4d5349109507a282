/-
  The contracts of the reference's functions and of the laws' own helpers that this seat reaches: what each hands back, and that it changes nothing that was there.
  Conditions: only those that a theorem writes out (a divisor that is not 0).
-/
import Derived.Test.YtockppelodnhlaaImpl
import Derived.Handy
namespace Go.Proofs.Ytockppelodnhlaa
open Go.RowKit
set_option linter.unusedSimpArgs false
set_option linter.unusedVariables false
set_option maxHeartbeats 2000000

theorem sSum (a b : Int) (w : World) : Calls Try.prog 26 #[.int .i64 a, .int .i64 b] w (Gives (.tuple #[.int .i64 (sumV a b), .bool (sumOk a b)]) w) := by
  have hB := Known.start w
  go_enter Try.func26, Try.ntmps26
  go_wp2
  all_goals
    refine bodyPost_ret (v := .tuple #[.int .i64 (sumV a b), .bool (sumOk a b)]) ?_ rfl ⟨rfl, ?_⟩
    · first | (simp [results, Try.results26, go_sem, sumV, sumOk, *]; done) | (simp [results, Try.results26, go_sem, sumV, sumOk, *]; omega)
    · repeat (first | exact ext_refl _ | exact hB.below | apply ext_alloc | apply ext_drew | (refine ext_set ?_ ?_; · first | (dsimp only; omega) | (simp; omega) | (simp; done)))

theorem sLess (a b : Int) (w : World) : Calls Try.prog 29 #[.int .i64 a, .int .i64 b] w (Gives (.tuple #[.int .i64 (lessV a b), .bool (lessOk a b)]) w) := by
  have hB := Known.start w
  go_enter Try.func29, Try.ntmps29
  go_wp2
  all_goals
    refine bodyPost_ret (v := .tuple #[.int .i64 (lessV a b), .bool (lessOk a b)]) ?_ rfl ⟨rfl, ?_⟩
    · first | (simp [results, Try.results29, go_sem, lessV, lessOk, *]; done) | (simp [results, Try.results29, go_sem, lessV, lessOk, *]; omega)
    · repeat (first | exact ext_refl _ | exact hB.below | apply ext_alloc | apply ext_drew | (refine ext_set ?_ ?_; · first | (dsimp only; omega) | (simp; omega) | (simp; done)))

theorem sTimes (a b : Int) (w : World) : Calls Try.prog 21 #[.int .i64 a, .int .i64 b] w (Gives (.tuple #[.int .i64 (timesV a b), .bool (timesOk a b)]) w) := by
  cases ha : (a == 0) with
  | true =>
    have hB := Known.start w
    go_enter Try.func21, Try.ntmps21
    go_wp2
    refine bodyPost_ret (v := .tuple #[.int .i64 (timesV a b), .bool (timesOk a b)]) ?_ rfl ⟨rfl, ?_⟩
    · simp [results, Try.results21, go_sem, timesV, timesOk, timesNo, ha]
    · repeat (first | exact ext_refl _ | exact hB.below | apply ext_alloc | apply ext_drew | (refine ext_set ?_ ?_; · first | (dsimp only; omega) | (simp; omega) | (simp; done)))
  | false =>
    cases hb : (b == 0) with
    | true =>
      have hB := Known.start w
      go_enter Try.func21, Try.ntmps21
      go_wp2
      refine bodyPost_ret (v := .tuple #[.int .i64 (timesV a b), .bool (timesOk a b)]) ?_ rfl ⟨rfl, ?_⟩
      · simp [results, Try.results21, go_sem, timesV, timesOk, timesNo, ha, hb]
      · repeat (first | exact ext_refl _ | exact hB.below | apply ext_alloc | apply ext_drew | (refine ext_set ?_ ?_; · first | (dsimp only; omega) | (simp; omega) | (simp; done)))
    | false =>
      have hb' : ¬ b = 0 := by simpa using hb
      cases h1 : (a == -1) <;> cases h2 : (b == -9223372036854775808) <;> cases h3 : (b == -1) <;> cases h4 : (a == -9223372036854775808) <;> cases h5 : (wrap64 ((wrap64 (a * b)).tdiv b) != a)
      all_goals
        have hB := Known.start w
        go_enter Try.func21, Try.ntmps21
        go_wp2
        refine bodyPost_ret (v := .tuple #[.int .i64 (timesV a b), .bool (timesOk a b)]) ?_ rfl ⟨rfl, ?_⟩
        · simp [results, Try.results21, go_sem, timesV, timesOk, timesNo, ha, hb, h1, h2, h3, h4, h5]
        · repeat (first | exact ext_refl _ | exact hB.below | apply ext_alloc | apply ext_drew | (refine ext_set ?_ ?_; · first | (dsimp only; omega) | (simp; omega) | (simp; done)))

theorem sNone (a b c d : Int) (w : World) : Calls Try.prog 36 #[.agg #[.int .i64 a, .int .i64 b, .int .i64 c, .int .i64 d]] w (Gives (.bool (emptyB a b c d)) w) := by
  have hB := Known.start w
  go_enter Try.func36, Try.ntmps36
  go_wp2
  all_goals
    refine bodyPost_ret (v := .bool (emptyB a b c d)) ?_ rfl ⟨rfl, ?_⟩
    · first | (simp [results, Try.results36, go_sem, emptyB, *]; done) | (simp [results, Try.results36, go_sem, emptyB, *]; omega)
    · repeat (first | exact ext_refl _ | exact hB.below | apply ext_alloc | apply ext_drew | (refine ext_set ?_ ?_; · first | (dsimp only; omega) | (simp; omega) | (simp; done)))

theorem sNewPoint (a b : Int) (w : World) : Calls Try.prog 15 #[.int .i64 a, .int .i64 b] w (Gives (.agg #[.int .i64 a, .int .i64 b]) w) := by
  have hB := Known.start w
  go_enter Try.func15, Try.ntmps15
  go_wp2
  all_goals
    refine bodyPost_ret (v := .agg #[.int .i64 a, .int .i64 b]) ?_ rfl ⟨rfl, ?_⟩
    · simp [results, Try.results15, go_sem]
    · repeat (first | exact ext_refl _ | exact hB.below | apply ext_alloc | apply ext_drew | (refine ext_set ?_ ?_; · first | (dsimp only; omega) | (simp; omega) | (simp; done)))

theorem sPointEq (a b c d : Int) (w : World) : Calls Try.prog 18 #[.agg #[.int .i64 a, .int .i64 b], .agg #[.int .i64 c, .int .i64 d]] w (Gives (.bool (eq2 a b c d)) w) := by
  have hB := Known.start w
  go_enter Try.func18, Try.ntmps18
  go_wp2
  all_goals
    refine bodyPost_ret (v := .bool (eq2 a b c d)) ?_ rfl ⟨rfl, ?_⟩
    · first | (simp [results, Try.results18, go_sem, eq2, *]; done) | (simp [results, Try.results18, go_sem, eq2, *]; omega)
    · repeat (first | exact ext_refl _ | exact hB.below | apply ext_alloc | apply ext_drew | (refine ext_set ?_ ?_; · first | (dsimp only; omega) | (simp; omega) | (simp; done)))

theorem sRectEmpty (a b c d : Int) (w : World) : Calls Try.prog 23 #[.agg #[.int .i64 a, .int .i64 b, .int .i64 c, .int .i64 d]] w (Gives (.bool (emptyB a b c d)) w) := by
  have hB := Known.start w
  go_enter Try.func23, Try.ntmps23
  go_wp2_with (first | (go_at_call 36; refine (sNone _ _ _ _ _).mono ?_; rintro e w1 ⟨rfl, hn⟩; (first | replace hB := (hB).keep hn | replace hB := (hB.alloc).keep hn | replace hB := (hB.alloc.alloc).keep hn | replace hB := (hB.alloc.alloc.alloc).keep hn | replace hB := (hB.alloc.alloc.alloc.alloc).keep hn | replace hB := (hB.alloc.alloc.alloc.alloc.alloc).keep hn | replace hB := (hB.alloc.alloc.alloc.alloc.alloc.alloc).keep hn); clear hn; (try clear hR); have hR := hB.rules; simp only [Rules, World.size_alloc, Nat.add_one_le_iff] at hR))
  all_goals
    refine bodyPost_ret (v := .bool (emptyB a b c d)) ?_ rfl ⟨rfl, ?_⟩
    · first | (simp [results, Try.results23, go_sem, hR, *]; done) | (simp [results, Try.results23, go_sem, hR, *]; omega)
    · repeat (first | exact ext_refl _ | exact hB.below | apply ext_alloc | apply ext_drew | (refine ext_set ?_ ?_; · first | (dsimp only; omega) | (simp; omega) | (simp; done)))

theorem toA2 (a b : Int) (w : World) : Calls Try.prog 19 #[.agg #[.int .i64 a, .int .i64 b]] w (Gives (.agg #[.int .i64 a, .int .i64 b]) w) := by
  have hB := Known.start w
  go_enter Try.func19, Try.ntmps19
  go_wp2
  go_rounds 3
  refine bodyPost_ret (v := .agg #[.int .i64 a, .int .i64 b]) ?_ rfl ⟨rfl, ?_⟩
  · simp [results, Try.results19, go_sem]
  · repeat (first | exact ext_refl _ | exact hB.below | apply ext_alloc | apply ext_drew | (refine ext_set ?_ ?_; · first | (dsimp only; omega) | (simp; omega) | (simp; done)))

theorem eqA2 (a b c d : Int) (w : World) : Calls Try.prog 17 #[.agg #[.int .i64 a, .int .i64 b], .agg #[.int .i64 c, .int .i64 d]] w (Gives (.bool (eq2 a b c d)) w) := by
  have hB := Known.start w
  go_enter Try.func17, Try.ntmps17
  go_wp2
  refine wp_loop_rounds 3 ?_
  repeat any_goals (rw [rounds_succ]; go_wp2; (try ((first | refine wp_region_known hB (by kernel_rfl) (by kernel_rfl) ?_ | refine wp_region_known hB.alloc (by kernel_rfl) (by kernel_rfl) ?_ | refine wp_region_known hB.alloc.alloc (by kernel_rfl) (by kernel_rfl) ?_ | refine wp_region_known hB.alloc.alloc.alloc (by kernel_rfl) (by kernel_rfl) ?_ | refine wp_region_known hB.alloc.alloc.alloc.alloc (by kernel_rfl) (by kernel_rfl) ?_ | refine wp_region_known hB.alloc.alloc.alloc.alloc.alloc (by kernel_rfl) (by kernel_rfl) ?_ | refine wp_region_known hB.alloc.alloc.alloc.alloc.alloc.alloc (by kernel_rfl) (by kernel_rfl) ?_); (try clear hR); intro hov; simp only [Rules, World.size_alloc, Nat.add_one_le_iff] at hov; (repeat (go_big_quiet_step (fail))); refine wpQuiet_nil ?_; intro wx hB; clear hov; have hR := hB.rules; simp only [Rules, World.size_alloc, Nat.add_one_le_iff] at hR; go_wp2)))
  all_goals
    refine bodyPost_ret (v := .bool (eq2 a b c d)) ?_ rfl ⟨rfl, ?_⟩
    · first | (simp [results, Try.results17, go_sem, eq2, *]; done) | (simp_all [results, Try.results17, go_sem, eq2]; done)
    · repeat (first | exact ext_refl _ | exact hB.below | apply ext_alloc | apply ext_drew | (refine ext_set ?_ ?_; · first | (dsimp only; omega) | (simp; omega) | (simp; done)))

theorem toA4 (a b c d : Int) (w : World) : Calls Try.prog 24 #[.agg #[.int .i64 a, .int .i64 b, .int .i64 c, .int .i64 d]] w (Gives (.agg #[.int .i64 a, .int .i64 b, .int .i64 c, .int .i64 d]) w) := by
  have hB := Known.start w
  go_enter Try.func24, Try.ntmps24
  go_wp2
  go_rounds 5
  refine bodyPost_ret (v := .agg #[.int .i64 a, .int .i64 b, .int .i64 c, .int .i64 d]) ?_ rfl ⟨rfl, ?_⟩
  · simp [results, Try.results24, go_sem]
  · repeat (first | exact ext_refl _ | exact hB.below | apply ext_alloc | apply ext_drew | (refine ext_set ?_ ?_; · first | (dsimp only; omega) | (simp; omega) | (simp; done)))

end Go.Proofs.Ytockppelodnhlaa
