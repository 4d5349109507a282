/-
  The contracts of Point.Mod and Rectangle.Inset, if this seat reaches them.
  Conditions: only those that a theorem writes out (a divisor that is not 0).
-/
import Derived.Test.YtfhimelhfckjdaaLib
namespace Go.Proofs.Ytfhimelhfckjdaa
open Go.RowKit
set_option linter.unusedSimpArgs false
set_option linter.unusedVariables false
set_option maxHeartbeats 2000000

theorem mod_any (x y a b c d : Int) (w : World) (hw : (wrap64 (c - a) == 0) = false) (hh : (wrap64 (d - b) == 0) = false) : Calls Try.prog 45 #[.agg #[.int .i64 x, .int .i64 y], .agg #[.int .i64 a, .int .i64 b, .int .i64 c, .int .i64 d]] w (Gives (.agg #[.int .i64 (modC x a c), .int .i64 (modC y b d)]) w) := by
  have hw' : ¬ wrap64 (c - a) = 0 := by simpa using hw
  have hh' : ¬ wrap64 (d - b) = 0 := by simpa using hh
  have hB := Known.start w
  go_enter Try.func45, Try.ntmps45
  go_wp2
  (first | with_reducible refine wp_region_known hB ?hm ?hB ?_ | with_reducible refine wp_region_known hB.alloc ?hm ?hB ?_ | with_reducible refine wp_region_known hB.alloc.alloc ?hm ?hB ?_ | with_reducible refine wp_region_known hB.alloc.alloc.alloc ?hm ?hB ?_ | with_reducible refine wp_region_known hB.alloc.alloc.alloc.alloc ?hm ?hB ?_ | with_reducible refine wp_region_known hB.alloc.alloc.alloc.alloc.alloc ?hm ?hB ?_ | with_reducible refine wp_region_known hB.alloc.alloc.alloc.alloc.alloc.alloc ?hm ?hB ?_); (case hm => kernel_rfl); (case hB => kernel_rfl); (try clear hR); intro hov; simp only [Rules, World.size_alloc, Nat.add_one_le_iff, List.setIfInBounds_toArray, List.set_cons_zero, List.set_cons_succ] at hov
  repeat (go_big_quiet_step (first | (go_at_call 47; exact Calls.over _ (dx_any _ _ _ _ _)) | (go_at_call 51; exact Calls.over _ (dy_any _ _ _ _ _))))
  refine wpQuiet_nil ?_; intro wx hB; clear hov; have hR := hB.rules; simp only [Rules, World.size_alloc, Nat.add_one_le_iff, List.setIfInBounds_toArray, List.set_cons_zero, List.set_cons_succ] at hR
  go_upto_if 22 with ((go_at_call 52; refine (psub_any _ _ _ _ _).mono ?_; rintro e w1 ⟨rfl, hn⟩; (first | with_reducible replace hB := (hB).keep hn | with_reducible replace hB := (hB.alloc).keep hn | with_reducible replace hB := (hB.alloc.alloc).keep hn | with_reducible replace hB := (hB.alloc.alloc.alloc).keep hn | with_reducible replace hB := (hB.alloc.alloc.alloc.alloc).keep hn | with_reducible replace hB := (hB.alloc.alloc.alloc.alloc.alloc).keep hn | with_reducible replace hB := (hB.alloc.alloc.alloc.alloc.alloc.alloc).keep hn | with_reducible replace hB := (((hB.set1 hb1 hb2).set1 hb1 hb2)).keep hn | with_reducible replace hB := (((((hB.set1 hb1 hb2).set1 hb1 hb2).set1 hb1 hb2).set1 hb1 hb2)).keep hn); clear hn; (try clear hR); have hR := hB.rules; simp only [Rules, World.size_alloc, Nat.add_one_le_iff, List.setIfInBounds_toArray, List.set_cons_zero, List.set_cons_succ] at hR))
  go_cut [] from 7 (fun wx => Known w wx [(w.heap.size + 1 + 1, #[.int .i64 0, .int .i64 0], 51), (w.heap.size + 1, #[.int .i64 a, .int .i64 b, .int .i64 c, .int .i64 d], 53), (w.heap.size, #[.int .i64 (modUp ((wrap64 (x - a)).tmod (wrap64 (c - a))) (wrap64 (c - a))), .int .i64 (wrap64 (y - b))], 51)])
  case first =>
    go_wp2
    · go_meet
      first | exact ((((hB.set3 (Nat.le_refl _) (by (first | (simp [World.size_alloc]; done) | (simp [World.size_alloc]; omega) | (dsimp only; omega))) (by (first | (simp [World.size_alloc]; done) | (simp [World.size_alloc]; omega) | (dsimp only; omega)))).set3 (Nat.le_refl _) (by (first | (simp [World.size_alloc]; done) | (simp [World.size_alloc]; omega) | (dsimp only; omega))) (by (first | (simp [World.size_alloc]; done) | (simp [World.size_alloc]; omega) | (dsimp only; omega)))).set3 (Nat.le_refl _) (by (first | (simp [World.size_alloc]; done) | (simp [World.size_alloc]; omega) | (dsimp only; omega))) (by (first | (simp [World.size_alloc]; done) | (simp [World.size_alloc]; omega) | (dsimp only; omega)))).set3 (Nat.le_refl _) (by (first | (simp [World.size_alloc]; done) | (simp [World.size_alloc]; omega) | (dsimp only; omega))) (by (first | (simp [World.size_alloc]; done) | (simp [World.size_alloc]; omega) | (dsimp only; omega)))).same (by first | (simp [modUp, World.size_alloc, *]; done) | (rename_i hx; simp [modUp, World.size_alloc, hx]; done) | (rename_i hx; simp [modUp, World.size_alloc, Int.not_lt.2 hx]; done))
    · go_meet
      first | exact (((hB.set3 (Nat.le_refl _) (by (first | (simp [World.size_alloc]; done) | (simp [World.size_alloc]; omega) | (dsimp only; omega))) (by (first | (simp [World.size_alloc]; done) | (simp [World.size_alloc]; omega) | (dsimp only; omega)))).set3 (Nat.le_refl _) (by (first | (simp [World.size_alloc]; done) | (simp [World.size_alloc]; omega) | (dsimp only; omega))) (by (first | (simp [World.size_alloc]; done) | (simp [World.size_alloc]; omega) | (dsimp only; omega)))).set3 (Nat.le_refl _) (by (first | (simp [World.size_alloc]; done) | (simp [World.size_alloc]; omega) | (dsimp only; omega))) (by (first | (simp [World.size_alloc]; done) | (simp [World.size_alloc]; omega) | (dsimp only; omega)))).same (by first | (simp [modUp, World.size_alloc, *]; done) | (rename_i hx; simp [modUp, World.size_alloc, hx]; done) | (rename_i hx; simp [modUp, World.size_alloc, Int.not_lt.2 hx]; done))
  case rest =>
    clear hB; (try clear hR)
    have hB := hcut
    clear hcut
    have hR := hB.rules
    simp only [Rules, Nat.add_one_le_iff] at hR
    go_upto_if 35 with ((go_at_call 52; refine (psub_any _ _ _ _ _).mono ?_; rintro e w1 ⟨rfl, hn⟩; (first | with_reducible replace hB := (hB).keep hn | with_reducible replace hB := (hB.alloc).keep hn | with_reducible replace hB := (hB.alloc.alloc).keep hn | with_reducible replace hB := (hB.alloc.alloc.alloc).keep hn | with_reducible replace hB := (hB.alloc.alloc.alloc.alloc).keep hn | with_reducible replace hB := (hB.alloc.alloc.alloc.alloc.alloc).keep hn | with_reducible replace hB := (hB.alloc.alloc.alloc.alloc.alloc.alloc).keep hn | with_reducible replace hB := (((hB.set1 hb1 hb2).set1 hb1 hb2)).keep hn | with_reducible replace hB := (((((hB.set1 hb1 hb2).set1 hb1 hb2).set1 hb1 hb2).set1 hb1 hb2)).keep hn); clear hn; (try clear hR); have hR := hB.rules; simp only [Rules, World.size_alloc, Nat.add_one_le_iff, List.setIfInBounds_toArray, List.set_cons_zero, List.set_cons_succ] at hR))
    go_cut [] from 7 (fun wx => Known w wx [(w.heap.size + 1 + 1, #[.int .i64 0, .int .i64 0], 51), (w.heap.size + 1, #[.int .i64 a, .int .i64 b, .int .i64 c, .int .i64 d], 53), (w.heap.size, #[.int .i64 (modUp ((wrap64 (x - a)).tmod (wrap64 (c - a))) (wrap64 (c - a))), .int .i64 (modUp ((wrap64 (y - b)).tmod (wrap64 (d - b))) (wrap64 (d - b)))], 51)])
    case first =>
      go_wp2
      · go_meet
        first | exact ((hB.set3 (Nat.le_refl _) (by (first | (simp [World.size_alloc]; done) | (simp [World.size_alloc]; omega) | (dsimp only; omega))) (by (first | (simp [World.size_alloc]; done) | (simp [World.size_alloc]; omega) | (dsimp only; omega)))).set3 (Nat.le_refl _) (by (first | (simp [World.size_alloc]; done) | (simp [World.size_alloc]; omega) | (dsimp only; omega))) (by (first | (simp [World.size_alloc]; done) | (simp [World.size_alloc]; omega) | (dsimp only; omega)))).same (by first | (simp [modUp, World.size_alloc, *]; done) | (rename_i hx; simp [modUp, World.size_alloc, hx]; done) | (rename_i hx; simp [modUp, World.size_alloc, Int.not_lt.2 hx]; done))
      · go_meet
        first | exact (hB.set3 (Nat.le_refl _) (by (first | (simp [World.size_alloc]; done) | (simp [World.size_alloc]; omega) | (dsimp only; omega))) (by (first | (simp [World.size_alloc]; done) | (simp [World.size_alloc]; omega) | (dsimp only; omega)))).same (by first | (simp [modUp, World.size_alloc, *]; done) | (rename_i hx; simp [modUp, World.size_alloc, hx]; done) | (rename_i hx; simp [modUp, World.size_alloc, Int.not_lt.2 hx]; done))
    case rest =>
      clear hB; (try clear hR)
      have hB := hcut
      clear hcut
      have hR := hB.rules
      simp only [Rules, Nat.add_one_le_iff] at hR
      go_wp2_with ((go_at_call 53; refine (padd_any _ _ _ _ _).mono ?_; rintro e w1 ⟨rfl, hn⟩; (first | with_reducible replace hB := (hB).keep hn | with_reducible replace hB := (hB.alloc).keep hn | with_reducible replace hB := (hB.alloc.alloc).keep hn | with_reducible replace hB := (hB.alloc.alloc.alloc).keep hn | with_reducible replace hB := (hB.alloc.alloc.alloc.alloc).keep hn | with_reducible replace hB := (hB.alloc.alloc.alloc.alloc.alloc).keep hn | with_reducible replace hB := (hB.alloc.alloc.alloc.alloc.alloc.alloc).keep hn | with_reducible replace hB := (((hB.set1 hb1 hb2).set1 hb1 hb2)).keep hn | with_reducible replace hB := (((((hB.set1 hb1 hb2).set1 hb1 hb2).set1 hb1 hb2).set1 hb1 hb2)).keep hn); clear hn; (try clear hR); have hR := hB.rules; simp only [Rules, World.size_alloc, Nat.add_one_le_iff, List.setIfInBounds_toArray, List.set_cons_zero, List.set_cons_succ] at hR))
      refine bodyPost_ret (v := .agg #[.int .i64 (modC x a c), .int .i64 (modC y b d)]) ?_ rfl ⟨rfl, ?_⟩
      · (simp [results, Try.results45, go_sem, hR, modC]; done)
      · repeat (first | exact ext_refl _ | exact hB.below | apply ext_alloc | apply ext_drew | (refine ext_set ?_ ?_; · first | (dsimp only; omega) | (simp; omega) | (simp; done)))

end Go.Proofs.Ytfhimelhfckjdaa
