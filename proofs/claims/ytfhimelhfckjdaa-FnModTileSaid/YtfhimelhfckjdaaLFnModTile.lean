/-
  Proved: the statement Rows.FnModTileSaid: The rectangle that is moved by a point less Mod of it has the point; and the point less Mod of it is the same for all points of this rectangle (no number is greater than 1000000000000 in size, and r has points).
  Conditions: none: for every input.
-/
import Derived.Test.YtfhimelhfckjdaaSpec
import Derived.Test.YtfhimelhfckjdaaSmall
import Derived.Test.YtfhimelhfckjdaaRow
namespace Go.Proofs.Ytfhimelhfckjdaa.fnModTile
open Go.ChangeShapes Go.WideShapes Go.ChangeAt Go.RowKit
set_option linter.unusedSimpArgs false
set_option linter.unusedVariables false
set_option maxHeartbeats 2000000
set_option maxRecDepth 100000

/-- A call that answers a Bool, of which it is known what it is. -/
theorem Calls.overB {P : Program} {f : FuncId} {args : Array Value} {w : World} {x b : Bool} {y : Over w} (hx : x = b) (h : Calls P f args y.wd (Gives (.bool x) y.wd)) :
    Calls P f args y.wd fun e w'' => e = .returned (.bool b) ∧ ∃ z : Over w, w'' = z.wd := by subst hx; exact Calls.over _ h

theorem in12_of {x : Int} (h : smallB x = true) : In12 x := by simpa [smallB, In12] using h
theorem has {x y a b c d : Int} (bx : In12 x) (byy : In12 y) (ba : In12 a) (bb : In12 b) (bc : In12 c) (bd : In12 d) (h1 : a < c) (h2 : b < d) :
    inB x y (wrap64 (a + byC x a c)) (wrap64 (b + byC y b d)) (wrap64 (c + byC x a c)) (wrap64 (d + byC y b d)) = true := by
  have u := tile_self bx ba bc h1
  have v := tile_self byy bb bd h2
  exact inB_iff.2 ⟨u.1, u.2, v.1, v.2⟩
theorem other {x y z v a b c d : Int} (bx : In12 x) (byy : In12 y) (bz : In12 z) (bv : In12 v) (ba : In12 a) (bb : In12 b) (bc : In12 c) (bd : In12 d) (h1 : a < c) (h2 : b < d) :
    (inB z v (wrap64 (a + byC x a c)) (wrap64 (b + byC y b d)) (wrap64 (c + byC x a c)) (wrap64 (d + byC y b d)) == eq2 (byC z a c) (byC v b d) (byC x a c) (byC y b d)) = true := by
  have u := tile_in bx bz ba bc h1
  have w := tile_in byy bv bb bd h2
  rw [beq_iff_eq]
  apply bool_eq
  rw [inB_iff, eq2_iff, ← u, ← w]
  exact ⟨fun ⟨a, b, c, d⟩ => ⟨⟨a, b⟩, c, d⟩, fun ⟨⟨a, b⟩, c, d⟩ => ⟨a, b, c, d⟩⟩

theorem walk (p0 p1 : Int) (q0 q1 : Int) (r0 r1 r2 r3 : Int) (op0 : Ok p0) (op1 : Ok p1) (oq0 : Ok q0) (oq1 : Ok q1) (or0 : Ok r0) (or1 : Ok r1) (or2 : Ok r2) (or3 : Ok r3) (w : World) :
    Calls Try.prog 13 #[.agg #[.int .i64 p0, .int .i64 p1], .agg #[.int .i64 q0, .int .i64 q1], .agg #[.int .i64 r0, .int .i64 r1, .int .i64 r2, .int .i64 r3]] w (Gives (.bool true) w) := by
  have heq := eql_a2
  cases h1 : (smallB p0 && smallB p1 && smallB q0 && smallB q1 && smallB r0 && smallB r1 && smallB r2 && smallB r3)
  · skip
    have hB := Known.start w
    go_enter Try.func13, Try.ntmps13
    go_wp2_with (first | (go_at_call 33; refine (sSmall8 _ _ _ _ _ _ _ _ _ hB.alloc.alloc.alloc.alloc ?hb).mono ?_; (case hb => simp only [World.size_alloc]); rintro e w1 ⟨rfl, hn⟩; (first | with_reducible replace hB := (hB).keep hn | with_reducible replace hB := (hB.alloc).keep hn | with_reducible replace hB := (hB.alloc.alloc).keep hn | with_reducible replace hB := (hB.alloc.alloc.alloc).keep hn | with_reducible replace hB := (hB.alloc.alloc.alloc.alloc).keep hn | with_reducible replace hB := (hB.alloc.alloc.alloc.alloc.alloc).keep hn | with_reducible replace hB := (hB.alloc.alloc.alloc.alloc.alloc.alloc).keep hn | with_reducible replace hB := (((hB.set1 hb1 hb2).set1 hb1 hb2)).keep hn | with_reducible replace hB := (((((hB.set1 hb1 hb2).set1 hb1 hb2).set1 hb1 hb2).set1 hb1 hb2)).keep hn); clear hn; (try clear hR); have hR := hB.rules; simp only [Rules, World.size_alloc, Nat.add_one_le_iff, List.setIfInBounds_toArray, List.set_cons_zero, List.set_cons_succ] at hR) | (first | (go_at_call 25; refine (sNone _ _ _ _ _).mono ?_; rintro e w1 ⟨rfl, hn⟩; (first | with_reducible replace hB := (hB).keep hn | with_reducible replace hB := (hB.alloc).keep hn | with_reducible replace hB := (hB.alloc.alloc).keep hn | with_reducible replace hB := (hB.alloc.alloc.alloc).keep hn | with_reducible replace hB := (hB.alloc.alloc.alloc.alloc).keep hn | with_reducible replace hB := (hB.alloc.alloc.alloc.alloc.alloc).keep hn | with_reducible replace hB := (hB.alloc.alloc.alloc.alloc.alloc.alloc).keep hn | with_reducible replace hB := (((hB.set1 hb1 hb2).set1 hb1 hb2)).keep hn | with_reducible replace hB := (((((hB.set1 hb1 hb2).set1 hb1 hb2).set1 hb1 hb2).set1 hb1 hb2)).keep hn); clear hn; (try clear hR); have hR := hB.rules; simp only [Rules, World.size_alloc, Nat.add_one_le_iff, List.setIfInBounds_toArray, List.set_cons_zero, List.set_cons_succ] at hR)))
    all_goals
      refine bodyPost_ret (results_tmp rfl _ _ _) rfl ?_
      refine ⟨ret_true ?_, ?_⟩
      · rfl
      · repeat (first | exact ext_refl _ | exact hB.below | apply ext_alloc | apply ext_drew | (refine ext_set ?_ ?_; · first | (dsimp only; omega) | (simp; omega) | (simp; done)))
  rcases Bool.eq_false_or_eq_true (emptyB r0 r1 r2 r3) with h2 | h2
  · skip
    have hB := Known.start w
    go_enter Try.func13, Try.ntmps13
    go_wp2_with (first | (go_at_call 33; refine (sSmall8 _ _ _ _ _ _ _ _ _ hB.alloc.alloc.alloc.alloc ?hb).mono ?_; (case hb => simp only [World.size_alloc]); rintro e w1 ⟨rfl, hn⟩; (first | with_reducible replace hB := (hB).keep hn | with_reducible replace hB := (hB.alloc).keep hn | with_reducible replace hB := (hB.alloc.alloc).keep hn | with_reducible replace hB := (hB.alloc.alloc.alloc).keep hn | with_reducible replace hB := (hB.alloc.alloc.alloc.alloc).keep hn | with_reducible replace hB := (hB.alloc.alloc.alloc.alloc.alloc).keep hn | with_reducible replace hB := (hB.alloc.alloc.alloc.alloc.alloc.alloc).keep hn | with_reducible replace hB := (((hB.set1 hb1 hb2).set1 hb1 hb2)).keep hn | with_reducible replace hB := (((((hB.set1 hb1 hb2).set1 hb1 hb2).set1 hb1 hb2).set1 hb1 hb2)).keep hn); clear hn; (try clear hR); have hR := hB.rules; simp only [Rules, World.size_alloc, Nat.add_one_le_iff, List.setIfInBounds_toArray, List.set_cons_zero, List.set_cons_succ] at hR) | (first | (go_at_call 25; refine (sNone _ _ _ _ _).mono ?_; rintro e w1 ⟨rfl, hn⟩; (first | with_reducible replace hB := (hB).keep hn | with_reducible replace hB := (hB.alloc).keep hn | with_reducible replace hB := (hB.alloc.alloc).keep hn | with_reducible replace hB := (hB.alloc.alloc.alloc).keep hn | with_reducible replace hB := (hB.alloc.alloc.alloc.alloc).keep hn | with_reducible replace hB := (hB.alloc.alloc.alloc.alloc.alloc).keep hn | with_reducible replace hB := (hB.alloc.alloc.alloc.alloc.alloc.alloc).keep hn | with_reducible replace hB := (((hB.set1 hb1 hb2).set1 hb1 hb2)).keep hn | with_reducible replace hB := (((((hB.set1 hb1 hb2).set1 hb1 hb2).set1 hb1 hb2).set1 hb1 hb2)).keep hn); clear hn; (try clear hR); have hR := hB.rules; simp only [Rules, World.size_alloc, Nat.add_one_le_iff, List.setIfInBounds_toArray, List.set_cons_zero, List.set_cons_succ] at hR)))
    all_goals
      refine bodyPost_ret (results_tmp rfl _ _ _) rfl ?_
      refine ⟨ret_true ?_, ?_⟩
      · rfl
      · repeat (first | exact ext_refl _ | exact hB.below | apply ext_alloc | apply ext_drew | (refine ext_set ?_ ?_; · first | (dsimp only; omega) | (simp; omega) | (simp; done)))
  have k1 := h1
  simp only [Bool.and_eq_true] at k1
  obtain ⟨⟨⟨⟨⟨⟨⟨c0, c1⟩, c2⟩, c3⟩, c4⟩, c5⟩, c6⟩, c7⟩ := k1
  obtain ⟨l1, l2⟩ := emptyB_lt h2
  have hw := wid_any l1 or0 or2
  have hh := wid_any l2 or1 or3
  have hw' : ¬ wrap64 (r2 - r0) = 0 := by simpa using hw
  have hh' : ¬ wrap64 (r3 - r1) = 0 := by simpa using hh
  have e1 := has (in12_of c0) (in12_of c1) (in12_of c4) (in12_of c5) (in12_of c6) (in12_of c7) l1 l2
  have e2 := byC_tmod (in12_of c0) (in12_of c4) (in12_of c6) l1
  have e3 := byC_tmod (in12_of c1) (in12_of c5) (in12_of c7) l2
  have e4 := other (in12_of c0) (in12_of c1) (in12_of c2) (in12_of c3) (in12_of c4) (in12_of c5) (in12_of c6) (in12_of c7) l1 l2
  unfold byC at e1 e2 e3 e4
  clear c0 c1 c2 c3 c4 c5 c6 c7 l1 l2
  have hB := Known.start w
  go_enter Try.func13, Try.ntmps13
  go_wp2_with (first | (go_at_call 33; refine (sSmall8 _ _ _ _ _ _ _ _ _ hB.alloc.alloc.alloc.alloc ?hb).mono ?_; (case hb => simp only [World.size_alloc]); rintro e w1 ⟨rfl, hn⟩; (first | with_reducible replace hB := (hB).keep hn | with_reducible replace hB := (hB.alloc).keep hn | with_reducible replace hB := (hB.alloc.alloc).keep hn | with_reducible replace hB := (hB.alloc.alloc.alloc).keep hn | with_reducible replace hB := (hB.alloc.alloc.alloc.alloc).keep hn | with_reducible replace hB := (hB.alloc.alloc.alloc.alloc.alloc).keep hn | with_reducible replace hB := (hB.alloc.alloc.alloc.alloc.alloc.alloc).keep hn | with_reducible replace hB := (((hB.set1 hb1 hb2).set1 hb1 hb2)).keep hn | with_reducible replace hB := (((((hB.set1 hb1 hb2).set1 hb1 hb2).set1 hb1 hb2).set1 hb1 hb2)).keep hn); clear hn; (try clear hR); have hR := hB.rules; simp only [Rules, World.size_alloc, Nat.add_one_le_iff, List.setIfInBounds_toArray, List.set_cons_zero, List.set_cons_succ] at hR) | (first | (go_at_call 25; refine (sNone _ _ _ _ _).mono ?_; rintro e w1 ⟨rfl, hn⟩; (first | with_reducible replace hB := (hB).keep hn | with_reducible replace hB := (hB.alloc).keep hn | with_reducible replace hB := (hB.alloc.alloc).keep hn | with_reducible replace hB := (hB.alloc.alloc.alloc).keep hn | with_reducible replace hB := (hB.alloc.alloc.alloc.alloc).keep hn | with_reducible replace hB := (hB.alloc.alloc.alloc.alloc.alloc).keep hn | with_reducible replace hB := (hB.alloc.alloc.alloc.alloc.alloc.alloc).keep hn | with_reducible replace hB := (((hB.set1 hb1 hb2).set1 hb1 hb2)).keep hn | with_reducible replace hB := (((((hB.set1 hb1 hb2).set1 hb1 hb2).set1 hb1 hb2).set1 hb1 hb2)).keep hn); clear hn; (try clear hR); have hR := hB.rules; simp only [Rules, World.size_alloc, Nat.add_one_le_iff, List.setIfInBounds_toArray, List.set_cons_zero, List.set_cons_succ] at hR)))
  (first | with_reducible refine wp_region_known_alloc hB 5 7 23 #[.int .i64 0, .int .i64 0] (g := 0) Try.func0 ?hr ?hi ?hm ?hB ?hz ?_ | with_reducible refine wp_region_known_alloc hB.alloc 5 7 23 #[.int .i64 0, .int .i64 0] (g := 0) Try.func0 ?hr ?hi ?hm ?hB ?hz ?_ | with_reducible refine wp_region_known_alloc hB.alloc.alloc 5 7 23 #[.int .i64 0, .int .i64 0] (g := 0) Try.func0 ?hr ?hi ?hm ?hB ?hz ?_ | with_reducible refine wp_region_known_alloc hB.alloc.alloc.alloc 5 7 23 #[.int .i64 0, .int .i64 0] (g := 0) Try.func0 ?hr ?hi ?hm ?hB ?hz ?_ | with_reducible refine wp_region_known_alloc hB.alloc.alloc.alloc.alloc 5 7 23 #[.int .i64 0, .int .i64 0] (g := 0) Try.func0 ?hr ?hi ?hm ?hB ?hz ?_ | with_reducible refine wp_region_known_alloc hB.alloc.alloc.alloc.alloc.alloc 5 7 23 #[.int .i64 0, .int .i64 0] (g := 0) Try.func0 ?hr ?hi ?hm ?hB ?hz ?_ | with_reducible refine wp_region_known_alloc hB.alloc.alloc.alloc.alloc.alloc.alloc 5 7 23 #[.int .i64 0, .int .i64 0] (g := 0) Try.func0 ?hr ?hi ?hm ?hB ?hz ?_); (case hr => kernel_rfl); (case hi => kernel_rfl); (case hm => kernel_rfl); (case hB => kernel_rfl); (case hz => (intro o ho; simp only [List.getElem?_cons_succ, List.getElem?_cons_zero, Option.some.injEq] at ho; subst ho; intro ρ wz; go_simp)); (try clear hR); (try clear hb3 hb4); (try clear hb1 hb2); intro W hW hov; simp only [Rules, World.size_alloc, Nat.add_one_le_iff, List.setIfInBounds_toArray, List.set_cons_zero, List.set_cons_succ] at hov; simp only [List.take_succ_cons, List.take_zero, List.drop_succ_cons, List.drop_zero]; (repeat (go_big_quiet_step (first | (go_at_call 22; exact Calls.over _ (iPointMod _ _ _ _ _ _ _ hw hh)) | (go_at_call 31; exact Calls.over _ (iPointSub _ _ _ _ _))))); refine wpQuiet_nil ?_; intro bn wx hb1 hb2 hB; clear hov hW; have hb3 := hb2; simp only [List.mem_cons, List.not_mem_nil, or_false, forall_eq_or_imp, forall_eq, World.size_alloc, ne_eq] at hb3; have hb4 := hb3; simp only [@eq_comm Nat _ bn] at hb4; have hR := hB.rules; simp only [Rules, World.size_alloc, Nat.add_one_le_iff, List.setIfInBounds_toArray, List.set_cons_zero, List.set_cons_succ] at hR; simp only [Act.put, List.setIfInBounds_toArray, List.set_cons_zero, List.set_cons_succ]
  go_wp2_with (first | (go_at_call 34; refine (iRectAdd _ _ _ _ _ _ _).mono ?_; rintro e w1 ⟨rfl, hn⟩; (first | with_reducible replace hB := (hB).keep hn | with_reducible replace hB := (hB.alloc).keep hn | with_reducible replace hB := (hB.alloc.alloc).keep hn | with_reducible replace hB := (hB.alloc.alloc.alloc).keep hn | with_reducible replace hB := (hB.alloc.alloc.alloc.alloc).keep hn | with_reducible replace hB := (hB.alloc.alloc.alloc.alloc.alloc).keep hn | with_reducible replace hB := (hB.alloc.alloc.alloc.alloc.alloc.alloc).keep hn | with_reducible replace hB := (((hB.set1 hb1 hb2).set1 hb1 hb2)).keep hn | with_reducible replace hB := (((((hB.set1 hb1 hb2).set1 hb1 hb2).set1 hb1 hb2).set1 hb1 hb2)).keep hn); clear hn; (try clear hR); have hR := hB.rules; simp only [Rules, World.size_alloc, Nat.add_one_le_iff, List.setIfInBounds_toArray, List.set_cons_zero, List.set_cons_succ] at hR) | (go_at_call 28; refine (iPointIn _ _ _ _ _ _ _).mono ?_; rintro e w1 ⟨rfl, hn⟩; (first | with_reducible replace hB := (hB).keep hn | with_reducible replace hB := (hB.alloc).keep hn | with_reducible replace hB := (hB.alloc.alloc).keep hn | with_reducible replace hB := (hB.alloc.alloc.alloc).keep hn | with_reducible replace hB := (hB.alloc.alloc.alloc.alloc).keep hn | with_reducible replace hB := (hB.alloc.alloc.alloc.alloc.alloc).keep hn | with_reducible replace hB := (hB.alloc.alloc.alloc.alloc.alloc.alloc).keep hn | with_reducible replace hB := (((hB.set1 hb1 hb2).set1 hb1 hb2)).keep hn | with_reducible replace hB := (((((hB.set1 hb1 hb2).set1 hb1 hb2).set1 hb1 hb2).set1 hb1 hb2)).keep hn); clear hn; (try clear hR); have hR := hB.rules; simp only [Rules, World.size_alloc, Nat.add_one_le_iff, List.setIfInBounds_toArray, List.set_cons_zero, List.set_cons_succ] at hR))
  (first | with_reducible refine wp_region_known_alloc hB 5 9 23 #[.int .i64 0, .int .i64 0] (g := 0) Try.func0 ?hr ?hi ?hm ?hB ?hz ?_ | with_reducible refine wp_region_known_alloc hB.alloc 5 9 23 #[.int .i64 0, .int .i64 0] (g := 0) Try.func0 ?hr ?hi ?hm ?hB ?hz ?_ | with_reducible refine wp_region_known_alloc hB.alloc.alloc 5 9 23 #[.int .i64 0, .int .i64 0] (g := 0) Try.func0 ?hr ?hi ?hm ?hB ?hz ?_ | with_reducible refine wp_region_known_alloc hB.alloc.alloc.alloc 5 9 23 #[.int .i64 0, .int .i64 0] (g := 0) Try.func0 ?hr ?hi ?hm ?hB ?hz ?_ | with_reducible refine wp_region_known_alloc hB.alloc.alloc.alloc.alloc 5 9 23 #[.int .i64 0, .int .i64 0] (g := 0) Try.func0 ?hr ?hi ?hm ?hB ?hz ?_ | with_reducible refine wp_region_known_alloc hB.alloc.alloc.alloc.alloc.alloc 5 9 23 #[.int .i64 0, .int .i64 0] (g := 0) Try.func0 ?hr ?hi ?hm ?hB ?hz ?_ | with_reducible refine wp_region_known_alloc hB.alloc.alloc.alloc.alloc.alloc.alloc 5 9 23 #[.int .i64 0, .int .i64 0] (g := 0) Try.func0 ?hr ?hi ?hm ?hB ?hz ?_); (case hr => kernel_rfl); (case hi => kernel_rfl); (case hm => kernel_rfl); (case hB => kernel_rfl); (case hz => (intro o ho; simp only [List.getElem?_cons_succ, List.getElem?_cons_zero, Option.some.injEq] at ho; subst ho; intro ρ wz; go_simp)); (try clear hR); (try clear hb3 hb4); (try clear hb1 hb2); intro W hW hov; simp only [Rules, World.size_alloc, Nat.add_one_le_iff, List.setIfInBounds_toArray, List.set_cons_zero, List.set_cons_succ] at hov; simp only [List.take_succ_cons, List.take_zero, List.drop_succ_cons, List.drop_zero]; (repeat (go_big_quiet_step (first | (go_at_call 22; exact Calls.over _ (iPointMod _ _ _ _ _ _ _ hw hh)) | (go_at_call 31; exact Calls.over _ (iPointSub _ _ _ _ _))))); refine wpQuiet_nil ?_; intro bn wx hb1 hb2 hB; clear hov hW; have hb3 := hb2; simp only [List.mem_cons, List.not_mem_nil, or_false, forall_eq_or_imp, forall_eq, World.size_alloc, ne_eq] at hb3; have hb4 := hb3; simp only [@eq_comm Nat _ bn] at hb4; have hR := hB.rules; simp only [Rules, World.size_alloc, Nat.add_one_le_iff, List.setIfInBounds_toArray, List.set_cons_zero, List.set_cons_succ] at hR; simp only [Act.put, List.setIfInBounds_toArray, List.set_cons_zero, List.set_cons_succ]
  go_wp2
  (with_reducible refine wp_region_known ((hB.set1 hb1 hb2).set1 hb1 hb2) ?hm ?hB ?_); (case hm => kernel_rfl); (case hB => kernel_rfl); (try clear hR); intro hov; simp only [Rules, World.size_alloc, Nat.add_one_le_iff, List.setIfInBounds_toArray, List.set_cons_zero, List.set_cons_succ] at hov; (repeat (go_big_quiet_step (first | (go_at_call 28; exact Calls.overB (by assumption) (iPointIn _ _ _ _ _ _ _)) | (go_at_call 28; exact Calls.over _ (iPointIn _ _ _ _ _ _ _))))); refine wpQuiet_nil ?_; intro wx hB; clear hov; have hR := hB.rules; simp only [Rules, World.size_alloc, Nat.add_one_le_iff, List.setIfInBounds_toArray, List.set_cons_zero, List.set_cons_succ] at hR
  go_wp2
  all_goals
    refine bodyPost_ret (results_tmp rfl _ _ _) rfl ?_
    refine ⟨ret_true ?_, ?_⟩
    · first | rfl | exact e4
    · repeat (first | exact ext_refl _ | exact hB.below | apply ext_alloc | apply ext_drew | (refine ext_set ?_ ?_; · first | (dsimp only; omega) | (simp; omega) | (simp; done)))

theorem lifted (os : Os) (started : os.Started) (H : Type) (enc : TypeId × Value → H) :
    ReturnsInHanded {} Try.checked os 13 .any (Rows.fnModTileSpec.pre6 enc Try.prog Try.f13 Rows.fnModTileRow.domain false) (Rows.fnModTileSpec.post enc Try.prog Try.f13 false true false false) := by
  refine returnsInHanded_of_change (C := Try.checked) own started (by kernel_rfl) Try.func13
    (ChangeSpec.witness6 (enc := enc) (C := Try.checked) false ⟨#[], #[.agg #[.int .i64 0, .int .i64 0], .agg #[.int .i64 0, .int .i64 0], .agg #[.int .i64 0, .int .i64 0, .int .i64 0, .int .i64 0]], []⟩ 8 (by kernel_rfl) (by kernel_rfl) (by kernel_rfl) (by kernel_rfl)) ?_
  intro W base args ds gs before hval0 hW hcnd _
  have hval : ∀ (j : Nat) t v, Try.f13.params[j]? = some t → args[j]? = some v → Value.okWide Try.prog W .any base t v := hval0
  have hW' := hW
  obtain ⟨p, q, hA0, hV, rfl, hfz, hnd⟩ := hW
  have hA : DataW.TrodAll enc Try.prog W 0 (fun _ => true) true Try.f13.params.toList args.toList ds p := hA0
  rw [Try.params13] at hA hval
  obtain ⟨v0, vs0, d0, ds0, p0, q0, hargs, rfl, rfl, h0, r0⟩ := trodAll_cons hA
  obtain ⟨v1, vs1, d1, ds1, p1, q1, rfl, rfl, rfl, h1, r1⟩ := trodAll_cons r0
  obtain ⟨v2, vs2, d2, ds2, p2, q2, rfl, rfl, rfl, h2, r2⟩ := trodAll_cons r1
  obtain ⟨rfl, rfl, rfl⟩ := trodAll_nil r2
  obtain rfl : args = #[v0, v1, v2] := by cases args; simp_all
  obtain ⟨rfl, rfl⟩ := trodVars_none hV
  obtain ⟨xp0, xp1, rfl, rfl, rfl, wxp0, wxp1⟩ := open_arr2 Try.underlying23 Try.underlying2 (by kernel_rfl) (by kernel_rfl) (hval 0 23 v0 rfl rfl) h0
  obtain ⟨xq0, xq1, rfl, rfl, rfl, wxq0, wxq1⟩ := open_arr2 Try.underlying23 Try.underlying2 (by kernel_rfl) (by kernel_rfl) (hval 1 23 v1 rfl rfl) h1
  obtain ⟨xr0, xr1, xr2, xr3, rfl, rfl, rfl, wxr0, wxr1, wxr2, wxr3⟩ := open_arr4 Try.underlying22 Try.underlying2 (by kernel_rfl) (by kernel_rfl) (hval 2 22 v2 rfl rfl) h2
  clear hA0 hval0
  refine (walk xp0 xp1 xq0 xq1 xr0 xr1 xr2 xr3 (bounds_i64 wxp0) (bounds_i64 wxp1) (bounds_i64 wxq0) (bounds_i64 wxq1) (bounds_i64 wxr0) (bounds_i64 wxr1) (bounds_i64 wxr2) (bounds_i64 wxr3) W).mono fun e W' ⟨he, bel⟩ => ?_
  subst he
  exact ⟨_, rfl, _, _, _, [], _, [], hW', trodAll_mk1 (shut_bool Try.underlying4 _), (trodAll_cons_mk (shut_arr2 Try.underlying23 Try.underlying2 (by kernel_rfl) (by kernel_rfl) wxp0 wxp1) (trodAll_cons_mk (shut_arr2 Try.underlying23 Try.underlying2 (by kernel_rfl) (by kernel_rfl) wxq0 wxq1) (trodAll_cons_mk (shut_arr4 Try.underlying22 Try.underlying2 (by kernel_rfl) (by kernel_rfl) wxr0 wxr1 wxr2 wxr3) trodAll_mk0))), rfl, bel.frame _, fun h => by cases h⟩

/-- THE STATEMENT. -/
theorem proved : Rows.FnModTileSaid :=
  OpenClaim.holds_of_wide 13 Try.f13 rfl rfl rfl rfl rfl rfl rfl ⟨rfl, rfl, rfl, rfl, rfl⟩ rfl rfl rfl rfl rfl (by kernel_rfl) Try.func13 (by kernel_rfl)
    (of_decide_eq_true (by kernel_rfl)) (by unfold Func.isWrapper; first | (rw [if_pos (by decide +kernel)]; kernel_rfl) | (rw [if_neg (by decide +kernel)]; exact ⟨rfl, rfl⟩))
    (fun os started H enc _ => lifted os started H enc)
#print axioms proved
end Go.Proofs.Ytfhimelhfckjdaa.fnModTile
