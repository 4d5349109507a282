/-
  The contract of Rectangle.Inset, if this seat reaches it.
  Conditions: only those that a theorem writes out (a divisor that is not 0).
-/
import Derived.Test.YtfhimelhfckjdaaLibTwo
namespace Go.Proofs.Ytfhimelhfckjdaa
open Go.RowKit
set_option linter.unusedSimpArgs false
set_option linter.unusedVariables false
set_option maxHeartbeats 2000000

theorem inset_any (a b c d n : Int) (w : World) : Calls Try.prog 42 #[.agg #[.int .i64 a, .int .i64 b, .int .i64 c, .int .i64 d], .int .i64 n] w (Gives (.agg #[.int .i64 (insLo a c n), .int .i64 (insLo b d n), .int .i64 (insHi a c n), .int .i64 (insHi b d n)]) w) := by
  have hB := Known.start w
  go_enter Try.func42, Try.ntmps42
  go_upto_if 9 with ((go_at_call 47; refine (dx_any _ _ _ _ _).mono ?_; rintro e w1 ⟨rfl, hn⟩; (first | with_reducible replace hB := (hB).keep hn | with_reducible replace hB := (hB.alloc).keep hn | with_reducible replace hB := (hB.alloc.alloc).keep hn | with_reducible replace hB := (hB.alloc.alloc.alloc).keep hn | with_reducible replace hB := (hB.alloc.alloc.alloc.alloc).keep hn | with_reducible replace hB := (hB.alloc.alloc.alloc.alloc.alloc).keep hn | with_reducible replace hB := (hB.alloc.alloc.alloc.alloc.alloc.alloc).keep hn | with_reducible replace hB := (((hB.set1 hb1 hb2).set1 hb1 hb2)).keep hn | with_reducible replace hB := (((((hB.set1 hb1 hb2).set1 hb1 hb2).set1 hb1 hb2).set1 hb1 hb2)).keep hn); clear hn; (try clear hR); have hR := hB.rules; simp only [Rules, World.size_alloc, Nat.add_one_le_iff, List.setIfInBounds_toArray, List.set_cons_zero, List.set_cons_succ] at hR))
  go_cut [] from 5 (fun wx => Known w wx [(w.heap.size + 1, #[.int .i64 0, .int .i64 0, .int .i64 0, .int .i64 0], 53), (w.heap.size, #[.int .i64 (insLo a c n), .int .i64 b, .int .i64 (insHi a c n), .int .i64 d], 53)])
  case first =>
    go_wp2
    all_goals
      go_meet
      exact ((hB.set2 (Nat.le_refl _) (by first | (simp; done) | (simp; omega))).set2 (Nat.le_refl _) (by first | (simp; done) | (simp; omega))).same (by first | (simp [insLo, insHi, *]; done) | (have hx : ¬ wrap64 (c - a) < wrap64 (2 * n) := (by omega); simp [insLo, insHi, hx]))
  case rest =>
    clear hB; (try clear hR)
    have hB := hcut
    clear hcut
    have hR := hB.rules
    simp only [Rules, Nat.add_one_le_iff] at hR
    go_upto_if 43 with ((go_at_call 51; refine (dy_any _ _ _ _ _).mono ?_; rintro e w1 ⟨rfl, hn⟩; (first | with_reducible replace hB := (hB).keep hn | with_reducible replace hB := (hB.alloc).keep hn | with_reducible replace hB := (hB.alloc.alloc).keep hn | with_reducible replace hB := (hB.alloc.alloc.alloc).keep hn | with_reducible replace hB := (hB.alloc.alloc.alloc.alloc).keep hn | with_reducible replace hB := (hB.alloc.alloc.alloc.alloc.alloc).keep hn | with_reducible replace hB := (hB.alloc.alloc.alloc.alloc.alloc.alloc).keep hn | with_reducible replace hB := (((hB.set1 hb1 hb2).set1 hb1 hb2)).keep hn | with_reducible replace hB := (((((hB.set1 hb1 hb2).set1 hb1 hb2).set1 hb1 hb2).set1 hb1 hb2)).keep hn); clear hn; (try clear hR); have hR := hB.rules; simp only [Rules, World.size_alloc, Nat.add_one_le_iff, List.setIfInBounds_toArray, List.set_cons_zero, List.set_cons_succ] at hR))
    go_cut [] from 5 (fun wx => Known w wx [(w.heap.size + 1, #[.int .i64 0, .int .i64 0, .int .i64 0, .int .i64 0], 53), (w.heap.size, #[.int .i64 (insLo a c n), .int .i64 (insLo b d n), .int .i64 (insHi a c n), .int .i64 (insHi b d n)], 53)])
    case first =>
      go_wp2
      all_goals
        go_meet
        exact ((hB.set2 (Nat.le_refl _) (by first | (simp; done) | (simp; omega))).set2 (Nat.le_refl _) (by first | (simp; done) | (simp; omega))).same (by first | (simp [insLo, insHi, *]; done) | (have hx : ¬ wrap64 (d - b) < wrap64 (2 * n) := (by omega); simp [insLo, insHi, hx]))
    case rest =>
      clear hB; (try clear hR)
      have hB := hcut
      clear hcut
      have hR := hB.rules
      simp only [Rules, Nat.add_one_le_iff] at hR
      go_wp2
      refine bodyPost_ret (v := .agg #[.int .i64 (insLo a c n), .int .i64 (insLo b d n), .int .i64 (insHi a c n), .int .i64 (insHi b d n)]) ?_ rfl ⟨rfl, ?_⟩
      · simp [results, Try.results42, go_sem, hR]
      · repeat (first | exact ext_refl _ | exact hB.below | apply ext_alloc | apply ext_drew | (refine ext_set ?_ ?_; · first | (dsimp only; omega) | (simp; omega) | (simp; done)))

end Go.Proofs.Ytfhimelhfckjdaa
