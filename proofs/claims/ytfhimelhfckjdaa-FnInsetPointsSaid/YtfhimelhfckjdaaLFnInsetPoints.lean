/-
  Proved: the statement Rows.FnInsetPointsSaid: For n from 0 on, a point is in the rectangle that is inset just if the points n to the left and above, and n to the right and below, are in r (width and height are at least 2*n; no number is greater than 1000000000000 in size).
  Conditions: none: for every input.
-/
import Derived.Test.YtfhimelhfckjdaaSpec
import Derived.Test.YtfhimelhfckjdaaSmall
import Derived.Test.YtfhimelhfckjdaaRow
namespace Go.Proofs.Ytfhimelhfckjdaa.fnInsetPoints
open Go.ChangeShapes Go.WideShapes Go.ChangeAt Go.RowKit
set_option linter.unusedSimpArgs false
set_option linter.unusedVariables false
set_option maxHeartbeats 2000000
set_option maxRecDepth 100000

/-- A call that answers a Bool, of which it is known what it is. -/
theorem Calls.overB {P : Program} {f : FuncId} {args : Array Value} {w : World} {x b : Bool} {y : Over w} (hx : x = b) (h : Calls P f args y.wd (Gives (.bool x) y.wd)) :
    Calls P f args y.wd fun e w'' => e = .returned (.bool b) ∧ ∃ z : Over w, w'' = z.wd := by subst hx; exact Calls.over _ h

theorem both {x y a b c d n : Int} (bx : In12 x) (byy : In12 y) (ba : In12 a) (bb : In12 b) (bc : In12 c) (bd : In12 d) (bn : In12 n) (n0 : ¬ n < 0) (h1 : ¬ wrap64 (c - a) < wrap64 (2 * n)) (h2 : ¬ wrap64 (d - b) < wrap64 (2 * n)) :
    inB x y (insLo a c n) (insLo b d n) (insHi a c n) (insHi b d n) = (inB (wrap64 (x - n)) (wrap64 (y - n)) a b c d && inB (wrap64 (x + n)) (wrap64 (y + n)) a b c d) := by
  rw [less_in ba.lim bc.lim bn.lim] at h1
  rw [less_in bb.lim bd.lim bn.lim] at h2
  obtain ⟨e1, e2⟩ := ins_in ba.lim bc.lim bn.lim (Int.not_lt.1 h1)
  obtain ⟨e3, e4⟩ := ins_in bb.lim bd.lim bn.lim (Int.not_lt.1 h2)
  rw [e1, e2, e3, e4]
  apply bool_eq
  unfold In12 at *
  rw [Bool.and_eq_true, inB_iff, inB_iff, inB_iff, wrap_in (x := x - n) (by omega) (by omega), wrap_in (x := y - n) (by omega) (by omega), wrap_in (x := x + n) (by omega) (by omega), wrap_in (x := y + n) (by omega) (by omega)]
  omega
theorem zero {a b c d n : Int} (ba : In12 a) (bb : In12 b) (bc : In12 c) (bd : In12 d) (bn : In12 n) (n0 : ¬ n < 0) (n1 : ¬ 0 < n) (h1 : ¬ wrap64 (c - a) < wrap64 (2 * n)) (h2 : ¬ wrap64 (d - b) < wrap64 (2 * n)) :
    eq4 (insLo a c n) (insLo b d n) (insHi a c n) (insHi b d n) a b c d = true := by
  rw [less_in ba.lim bc.lim bn.lim] at h1
  rw [less_in bb.lim bd.lim bn.lim] at h2
  obtain ⟨e1, e2⟩ := ins_in ba.lim bc.lim bn.lim (Int.not_lt.1 h1)
  obtain ⟨e3, e4⟩ := ins_in bb.lim bd.lim bn.lim (Int.not_lt.1 h2)
  rw [eq4_iff, e1, e2, e3, e4]
  omega

theorem walk (a0 a1 : Int) (r0 r1 r2 r3 : Int) (n : Int) (oa0 : Ok a0) (oa1 : Ok a1) (or0 : Ok r0) (or1 : Ok r1) (or2 : Ok r2) (or3 : Ok r3) (on : Ok n) (w : World) :
    Calls Try.prog 12 #[.agg #[.int .i64 a0, .int .i64 a1], .agg #[.int .i64 r0, .int .i64 r1, .int .i64 r2, .int .i64 r3], .int .i64 n] w (Gives (.bool true) w) := by
  have heq := eql_a4
  have hB := Known.start w
  go_enter Try.func12, Try.ntmps12
  go_wp2
  refine wp_loop_rounds 8 ?_
  rw [rounds_succ]
  go_wp2
  any_goals
    refine bodyPost_ret (results_tmp rfl _ _ _) rfl ?_
    refine ⟨ret_true ?_, ?_⟩
    · rfl
    · repeat (first | exact ext_refl _ | exact hB.below | apply ext_alloc | apply ext_drew | (refine ext_set ?_ ?_; · first | (dsimp only; omega) | (simp; omega) | (simp; done)))
  rename_i hx hy
  have b_a0 : In12 a0 := ⟨hy.2, hy.1⟩
  clear hx hy
  rw [rounds_succ]
  go_wp2
  any_goals
    refine bodyPost_ret (results_tmp rfl _ _ _) rfl ?_
    refine ⟨ret_true ?_, ?_⟩
    · rfl
    · repeat (first | exact ext_refl _ | exact hB.below | apply ext_alloc | apply ext_drew | (refine ext_set ?_ ?_; · first | (dsimp only; omega) | (simp; omega) | (simp; done)))
  rename_i hx hy
  have b_a1 : In12 a1 := ⟨hy.2, hy.1⟩
  clear hx hy
  rw [rounds_succ]
  go_wp2
  any_goals
    refine bodyPost_ret (results_tmp rfl _ _ _) rfl ?_
    refine ⟨ret_true ?_, ?_⟩
    · rfl
    · repeat (first | exact ext_refl _ | exact hB.below | apply ext_alloc | apply ext_drew | (refine ext_set ?_ ?_; · first | (dsimp only; omega) | (simp; omega) | (simp; done)))
  rename_i hx hy
  have b_r0 : In12 r0 := ⟨hy.2, hy.1⟩
  clear hx hy
  rw [rounds_succ]
  go_wp2
  any_goals
    refine bodyPost_ret (results_tmp rfl _ _ _) rfl ?_
    refine ⟨ret_true ?_, ?_⟩
    · rfl
    · repeat (first | exact ext_refl _ | exact hB.below | apply ext_alloc | apply ext_drew | (refine ext_set ?_ ?_; · first | (dsimp only; omega) | (simp; omega) | (simp; done)))
  rename_i hx hy
  have b_r1 : In12 r1 := ⟨hy.2, hy.1⟩
  clear hx hy
  rw [rounds_succ]
  go_wp2
  any_goals
    refine bodyPost_ret (results_tmp rfl _ _ _) rfl ?_
    refine ⟨ret_true ?_, ?_⟩
    · rfl
    · repeat (first | exact ext_refl _ | exact hB.below | apply ext_alloc | apply ext_drew | (refine ext_set ?_ ?_; · first | (dsimp only; omega) | (simp; omega) | (simp; done)))
  rename_i hx hy
  have b_r2 : In12 r2 := ⟨hy.2, hy.1⟩
  clear hx hy
  rw [rounds_succ]
  go_wp2
  any_goals
    refine bodyPost_ret (results_tmp rfl _ _ _) rfl ?_
    refine ⟨ret_true ?_, ?_⟩
    · rfl
    · repeat (first | exact ext_refl _ | exact hB.below | apply ext_alloc | apply ext_drew | (refine ext_set ?_ ?_; · first | (dsimp only; omega) | (simp; omega) | (simp; done)))
  rename_i hx hy
  have b_r3 : In12 r3 := ⟨hy.2, hy.1⟩
  clear hx hy
  rw [rounds_succ]
  go_wp2
  any_goals
    refine bodyPost_ret (results_tmp rfl _ _ _) rfl ?_
    refine ⟨ret_true ?_, ?_⟩
    · rfl
    · repeat (first | exact ext_refl _ | exact hB.below | apply ext_alloc | apply ext_drew | (refine ext_set ?_ ?_; · first | (dsimp only; omega) | (simp; omega) | (simp; done)))
  rename_i hx hy
  have b_n : In12 n := ⟨hy.2, hy.1⟩
  clear hx hy
  by_cases h1 : n < 0
  · rw [rounds_succ]
    go_wp2
    all_goals
      refine bodyPost_ret (results_tmp rfl _ _ _) rfl ?_
      refine ⟨ret_true ?_, ?_⟩
      · rfl
      · repeat (first | exact ext_refl _ | exact hB.below | apply ext_alloc | apply ext_drew | (refine ext_set ?_ ?_; · first | (dsimp only; omega) | (simp; omega) | (simp; done)))
  by_cases h2 : wrap64 (r2 - r0) < wrap64 (2 * n)
  · rw [rounds_succ]
    go_wp2
    all_goals
      refine bodyPost_ret (results_tmp rfl _ _ _) rfl ?_
      refine ⟨ret_true ?_, ?_⟩
      · rfl
      · repeat (first | exact ext_refl _ | exact hB.below | apply ext_alloc | apply ext_drew | (refine ext_set ?_ ?_; · first | (dsimp only; omega) | (simp; omega) | (simp; done)))
  by_cases h3 : wrap64 (r3 - r1) < wrap64 (2 * n)
  · rw [rounds_succ]
    go_wp2
    all_goals
      refine bodyPost_ret (results_tmp rfl _ _ _) rfl ?_
      refine ⟨ret_true ?_, ?_⟩
      · rfl
      · repeat (first | exact ext_refl _ | exact hB.below | apply ext_alloc | apply ext_drew | (refine ext_set ?_ ?_; · first | (dsimp only; omega) | (simp; omega) | (simp; done)))
  have e1 := both b_a0 b_a1 b_r0 b_r1 b_r2 b_r3 b_n h1 h2 h3
  have e2 : ¬ 0 < n → eq4 (insLo r0 r2 n) (insLo r1 r3 n) (insHi r0 r2 n) (insHi r1 r3 n) r0 r1 r2 r3 = true := fun n1 => zero b_r0 b_r1 b_r2 b_r3 b_n h1 n1 h2 h3
  cases h4 : inB (wrap64 (a0 - n)) (wrap64 (a1 - n)) r0 r1 r2 r3 <;> cases h5 : inB (wrap64 (a0 + n)) (wrap64 (a1 + n)) r0 r1 r2 r3 <;> cases h6 : emptyB r0 r1 r2 r3 <;> cases h7 : decide (0 < n)
  all_goals
    rw [h4, h5] at e1
    simp only [Bool.and_true, Bool.and_false, Bool.and_self] at e1
    (try (have e3 := e2 (by simpa using h7))); clear e2
    rw [rounds_succ]
    go_wp2
    (first | with_reducible refine wp_region_known hB ?hm ?hB ?_ | with_reducible refine wp_region_known hB.alloc ?hm ?hB ?_ | with_reducible refine wp_region_known hB.alloc.alloc ?hm ?hB ?_ | with_reducible refine wp_region_known hB.alloc.alloc.alloc ?hm ?hB ?_ | with_reducible refine wp_region_known hB.alloc.alloc.alloc.alloc ?hm ?hB ?_ | with_reducible refine wp_region_known hB.alloc.alloc.alloc.alloc.alloc ?hm ?hB ?_ | with_reducible refine wp_region_known hB.alloc.alloc.alloc.alloc.alloc.alloc ?hm ?hB ?_); (case hm => kernel_rfl); (case hB => kernel_rfl); (try clear hR); intro hov; simp only [Rules, World.size_alloc, Nat.add_one_le_iff, List.setIfInBounds_toArray, List.set_cons_zero, List.set_cons_succ] at hov; (repeat (go_big_quiet_step (first | (go_at_call 31; exact Calls.over _ (iPointSub _ _ _ _ _)) | (go_at_call 32; exact Calls.over _ (iPointAdd _ _ _ _ _)) | (go_at_call 28; exact Calls.overB (by assumption) (iPointIn _ _ _ _ _ _ _)) | (go_at_call 28; exact Calls.over _ (iPointIn _ _ _ _ _ _ _))))); refine wpQuiet_nil ?_; intro wx hB; clear hov; have hR := hB.rules; simp only [Rules, World.size_alloc, Nat.add_one_le_iff, List.setIfInBounds_toArray, List.set_cons_zero, List.set_cons_succ] at hR
    go_wp2_with (first | (go_at_call 20; refine (iRectInset _ _ _ _ _ _).mono ?_; rintro e w1 ⟨rfl, hn⟩; (first | with_reducible replace hB := (hB).keep hn | with_reducible replace hB := (hB.alloc).keep hn | with_reducible replace hB := (hB.alloc.alloc).keep hn | with_reducible replace hB := (hB.alloc.alloc.alloc).keep hn | with_reducible replace hB := (hB.alloc.alloc.alloc.alloc).keep hn | with_reducible replace hB := (hB.alloc.alloc.alloc.alloc.alloc).keep hn | with_reducible replace hB := (hB.alloc.alloc.alloc.alloc.alloc.alloc).keep hn | with_reducible replace hB := (((hB.set1 hb1 hb2).set1 hb1 hb2)).keep hn | with_reducible replace hB := (((((hB.set1 hb1 hb2).set1 hb1 hb2).set1 hb1 hb2).set1 hb1 hb2)).keep hn); clear hn; (try clear hR); have hR := hB.rules; simp only [Rules, World.size_alloc, Nat.add_one_le_iff, List.setIfInBounds_toArray, List.set_cons_zero, List.set_cons_succ] at hR) | (go_at_call 28; refine (iPointIn _ _ _ _ _ _ _).mono ?_; rintro e w1 ⟨rfl, hn⟩; (first | with_reducible replace hB := (hB).keep hn | with_reducible replace hB := (hB.alloc).keep hn | with_reducible replace hB := (hB.alloc.alloc).keep hn | with_reducible replace hB := (hB.alloc.alloc.alloc).keep hn | with_reducible replace hB := (hB.alloc.alloc.alloc.alloc).keep hn | with_reducible replace hB := (hB.alloc.alloc.alloc.alloc.alloc).keep hn | with_reducible replace hB := (hB.alloc.alloc.alloc.alloc.alloc.alloc).keep hn | with_reducible replace hB := (((hB.set1 hb1 hb2).set1 hb1 hb2)).keep hn | with_reducible replace hB := (((((hB.set1 hb1 hb2).set1 hb1 hb2).set1 hb1 hb2).set1 hb1 hb2)).keep hn); clear hn; (try clear hR); have hR := hB.rules; simp only [Rules, World.size_alloc, Nat.add_one_le_iff, List.setIfInBounds_toArray, List.set_cons_zero, List.set_cons_succ] at hR) | (go_at_call 25; refine (sNone _ _ _ _ _).mono ?_; rintro e w1 ⟨rfl, hn⟩; (first | with_reducible replace hB := (hB).keep hn | with_reducible replace hB := (hB.alloc).keep hn | with_reducible replace hB := (hB.alloc.alloc).keep hn | with_reducible replace hB := (hB.alloc.alloc.alloc).keep hn | with_reducible replace hB := (hB.alloc.alloc.alloc.alloc).keep hn | with_reducible replace hB := (hB.alloc.alloc.alloc.alloc.alloc).keep hn | with_reducible replace hB := (hB.alloc.alloc.alloc.alloc.alloc.alloc).keep hn | with_reducible replace hB := (((hB.set1 hb1 hb2).set1 hb1 hb2)).keep hn | with_reducible replace hB := (((((hB.set1 hb1 hb2).set1 hb1 hb2).set1 hb1 hb2).set1 hb1 hb2)).keep hn); clear hn; (try clear hR); have hR := hB.rules; simp only [Rules, World.size_alloc, Nat.add_one_le_iff, List.setIfInBounds_toArray, List.set_cons_zero, List.set_cons_succ] at hR))
    all_goals
      refine bodyPost_ret (results_tmp rfl _ _ _) rfl ?_
      refine ⟨ret_true ?_, ?_⟩
      · first | rfl | (simp [*]; done)
      · repeat (first | exact ext_refl _ | exact hB.below | apply ext_alloc | apply ext_drew | (refine ext_set ?_ ?_; · first | (dsimp only; omega) | (simp; omega) | (simp; done)))

theorem lifted (os : Os) (started : os.Started) (H : Type) (enc : TypeId × Value → H) :
    ReturnsInHanded {} Try.checked os 12 .any (Rows.fnInsetPointsSpec.pre6 enc Try.prog Try.f12 Rows.fnInsetPointsRow.domain false) (Rows.fnInsetPointsSpec.post enc Try.prog Try.f12 false true false false) := by
  refine returnsInHanded_of_change (C := Try.checked) own started (by kernel_rfl) Try.func12
    (ChangeSpec.witness6 (enc := enc) (C := Try.checked) false ⟨#[], #[.agg #[.int .i64 0, .int .i64 0], .agg #[.int .i64 0, .int .i64 0, .int .i64 0, .int .i64 0], .int .i64 0], []⟩ 8 (by kernel_rfl) (by kernel_rfl) (by kernel_rfl) (by kernel_rfl)) ?_
  intro W base args ds gs before hval0 hW hcnd _
  have hval : ∀ (j : Nat) t v, Try.f12.params[j]? = some t → args[j]? = some v → Value.okWide Try.prog W .any base t v := hval0
  have hW' := hW
  obtain ⟨p, q, hA0, hV, rfl, hfz, hnd⟩ := hW
  have hA : DataW.TrodAll enc Try.prog W 0 (fun _ => true) true Try.f12.params.toList args.toList ds p := hA0
  rw [Try.params12] at hA hval
  obtain ⟨v0, vs0, d0, ds0, p0, q0, hargs, rfl, rfl, h0, r0⟩ := trodAll_cons hA
  obtain ⟨v1, vs1, d1, ds1, p1, q1, rfl, rfl, rfl, h1, r1⟩ := trodAll_cons r0
  obtain ⟨v2, vs2, d2, ds2, p2, q2, rfl, rfl, rfl, h2, r2⟩ := trodAll_cons r1
  obtain ⟨rfl, rfl, rfl⟩ := trodAll_nil r2
  obtain rfl : args = #[v0, v1, v2] := by cases args; simp_all
  obtain ⟨rfl, rfl⟩ := trodVars_none hV
  obtain ⟨xa0, xa1, rfl, rfl, rfl, wxa0, wxa1⟩ := open_arr2 Try.underlying23 Try.underlying2 (by kernel_rfl) (by kernel_rfl) (hval 0 23 v0 rfl rfl) h0
  obtain ⟨xr0, xr1, xr2, xr3, rfl, rfl, rfl, wxr0, wxr1, wxr2, wxr3⟩ := open_arr4 Try.underlying22 Try.underlying2 (by kernel_rfl) (by kernel_rfl) (hval 1 22 v1 rfl rfl) h1
  obtain ⟨xn, rfl, rfl, rfl, wxn⟩ := open_int Try.underlying2 (hval 2 2 v2 rfl rfl) h2
  clear hA0 hval0
  refine (walk xa0 xa1 xr0 xr1 xr2 xr3 xn (bounds_i64 wxa0) (bounds_i64 wxa1) (bounds_i64 wxr0) (bounds_i64 wxr1) (bounds_i64 wxr2) (bounds_i64 wxr3) (bounds_i64 wxn) W).mono fun e W' ⟨he, bel⟩ => ?_
  subst he
  exact ⟨_, rfl, _, _, _, [], _, [], hW', trodAll_mk1 (shut_bool Try.underlying4 _), (trodAll_cons_mk (shut_arr2 Try.underlying23 Try.underlying2 (by kernel_rfl) (by kernel_rfl) wxa0 wxa1) (trodAll_cons_mk (shut_arr4 Try.underlying22 Try.underlying2 (by kernel_rfl) (by kernel_rfl) wxr0 wxr1 wxr2 wxr3) (trodAll_cons_mk (shut_int Try.underlying2 wxn) trodAll_mk0))), rfl, bel.frame _, fun h => by cases h⟩

/-- THE STATEMENT. -/
theorem proved : Rows.FnInsetPointsSaid :=
  OpenClaim.holds_of_wide 12 Try.f12 rfl rfl rfl rfl rfl rfl rfl ⟨rfl, rfl, rfl, rfl, rfl⟩ rfl rfl rfl rfl rfl (by kernel_rfl) Try.func12 (by kernel_rfl)
    (of_decide_eq_true (by kernel_rfl)) (by unfold Func.isWrapper; first | (rw [if_pos (by decide +kernel)]; kernel_rfl) | (rw [if_neg (by decide +kernel)]; exact ⟨rfl, rfl⟩))
    (fun os started H enc _ => lifted os started H enc)
#print axioms proved
end Go.Proofs.Ytfhimelhfckjdaa.fnInsetPoints
