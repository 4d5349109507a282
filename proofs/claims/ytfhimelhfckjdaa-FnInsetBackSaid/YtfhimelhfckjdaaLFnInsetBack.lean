/-
  Proved: the statement Rows.FnInsetBackSaid: What is inset, and then as much the other way, is the rectangle itself (it is well-formed, width and height are at least 2*n; no number is greater than 1000000000000 in size).
  Conditions: none: for every input.
-/
import Derived.Test.YtfhimelhfckjdaaSpec
import Derived.Test.YtfhimelhfckjdaaSmall
import Derived.Test.YtfhimelhfckjdaaRow
namespace Go.Proofs.Ytfhimelhfckjdaa.fnInsetBack
open Go.ChangeShapes Go.WideShapes Go.ChangeAt Go.RowKit
set_option linter.unusedSimpArgs false
set_option linter.unusedVariables false
set_option maxHeartbeats 2000000
set_option maxRecDepth 100000

/-- A call that answers a Bool, of which it is known what it is. -/
theorem Calls.overB {P : Program} {f : FuncId} {args : Array Value} {w : World} {x b : Bool} {y : Over w} (hx : x = b) (h : Calls P f args y.wd (Gives (.bool x) y.wd)) :
    Calls P f args y.wd fun e w'' => e = .returned (.bool b) ∧ ∃ z : Over w, w'' = z.wd := by subst hx; exact Calls.over _ h

theorem side {a c n : Int} (ba : In12 a) (bc : In12 c) (bn : In12 n) (h1 : a ≤ c) (h2 : ¬ wrap64 (c - a) < wrap64 (2 * n)) :
    insLo (insLo a c n) (insHi a c n) (wrap64 (-n)) = a ∧ insHi (insLo a c n) (insHi a c n) (wrap64 (-n)) = c ∧ insLo a c 0 = a ∧ insHi a c 0 = c ∧
    wrap64 (insHi a c n - insLo a c n) = wrap64 (wrap64 (c - a) - wrap64 (2 * n)) := by
  rw [less_in ba.lim bc.lim bn.lim] at h2
  obtain ⟨e1, e2⟩ := ins_in ba.lim bc.lim bn.lim (by omega)
  obtain ⟨e3, e4⟩ := ins_in (n := 0) ba.lim bc.lim (by unfold Lim; omega) (by omega)
  rw [e1, e2, e3, e4]
  unfold In12 at *
  rw [wrap_in (x := -n) (by omega) (by omega), wrap_in (x := c - a) (by omega) (by omega), wrap_in (x := 2 * n) (by omega) (by omega)]
  obtain ⟨e5, e6⟩ := ins_in (a := a + n) (c := c - n) (n := -n) (by unfold Lim; omega) (by unfold Lim; omega) (by unfold Lim; omega) (by omega)
  rw [e5, e6]
  refine ⟨by omega, by omega, by omega, by omega, ?_⟩
  rw [show c - n - (a + n) = c - a - 2 * n by omega]

theorem walk (r0 r1 r2 r3 : Int) (n : Int) (or0 : Ok r0) (or1 : Ok r1) (or2 : Ok r2) (or3 : Ok r3) (on : Ok n) (w : World) :
    Calls Try.prog 7 #[.agg #[.int .i64 r0, .int .i64 r1, .int .i64 r2, .int .i64 r3], .int .i64 n] w (Gives (.bool true) w) := by
  have heq := eql_a4
  have hB := Known.start w
  go_enter Try.func7, Try.ntmps7
  go_wp2
  refine wp_loop_rounds 6 ?_
  rw [rounds_succ]
  go_wp2
  any_goals
    refine bodyPost_ret (results_tmp rfl _ _ _) rfl ?_
    refine ⟨ret_true ?_, ?_⟩
    · rfl
    · repeat (first | exact ext_refl _ | exact hB.below | apply ext_alloc | apply ext_drew | (refine ext_set ?_ ?_; · first | (dsimp only; omega) | (simp; omega) | (simp; done)))
  rename_i hx hy
  have b_r0 : In12 r0 := ⟨hy.2, hy.1⟩
  clear hx hy
  rw [rounds_succ]
  go_wp2
  any_goals
    refine bodyPost_ret (results_tmp rfl _ _ _) rfl ?_
    refine ⟨ret_true ?_, ?_⟩
    · rfl
    · repeat (first | exact ext_refl _ | exact hB.below | apply ext_alloc | apply ext_drew | (refine ext_set ?_ ?_; · first | (dsimp only; omega) | (simp; omega) | (simp; done)))
  rename_i hx hy
  have b_r1 : In12 r1 := ⟨hy.2, hy.1⟩
  clear hx hy
  rw [rounds_succ]
  go_wp2
  any_goals
    refine bodyPost_ret (results_tmp rfl _ _ _) rfl ?_
    refine ⟨ret_true ?_, ?_⟩
    · rfl
    · repeat (first | exact ext_refl _ | exact hB.below | apply ext_alloc | apply ext_drew | (refine ext_set ?_ ?_; · first | (dsimp only; omega) | (simp; omega) | (simp; done)))
  rename_i hx hy
  have b_r2 : In12 r2 := ⟨hy.2, hy.1⟩
  clear hx hy
  rw [rounds_succ]
  go_wp2
  any_goals
    refine bodyPost_ret (results_tmp rfl _ _ _) rfl ?_
    refine ⟨ret_true ?_, ?_⟩
    · rfl
    · repeat (first | exact ext_refl _ | exact hB.below | apply ext_alloc | apply ext_drew | (refine ext_set ?_ ?_; · first | (dsimp only; omega) | (simp; omega) | (simp; done)))
  rename_i hx hy
  have b_r3 : In12 r3 := ⟨hy.2, hy.1⟩
  clear hx hy
  rw [rounds_succ]
  go_wp2
  any_goals
    refine bodyPost_ret (results_tmp rfl _ _ _) rfl ?_
    refine ⟨ret_true ?_, ?_⟩
    · rfl
    · repeat (first | exact ext_refl _ | exact hB.below | apply ext_alloc | apply ext_drew | (refine ext_set ?_ ?_; · first | (dsimp only; omega) | (simp; omega) | (simp; done)))
  rename_i hx hy
  have b_n : In12 n := ⟨hy.2, hy.1⟩
  clear hx hy
  cases h1 : wfB r0 r1 r2 r3
  · rw [rounds_succ]
    go_wp2_with (first | (go_at_call 17; refine (sWellFormed _ _ _ _ _).mono ?_; rintro e w1 ⟨rfl, hn⟩; (first | with_reducible replace hB := (hB).keep hn | with_reducible replace hB := (hB.alloc).keep hn | with_reducible replace hB := (hB.alloc.alloc).keep hn | with_reducible replace hB := (hB.alloc.alloc.alloc).keep hn | with_reducible replace hB := (hB.alloc.alloc.alloc.alloc).keep hn | with_reducible replace hB := (hB.alloc.alloc.alloc.alloc.alloc).keep hn | with_reducible replace hB := (hB.alloc.alloc.alloc.alloc.alloc.alloc).keep hn | with_reducible replace hB := (((hB.set1 hb1 hb2).set1 hb1 hb2)).keep hn | with_reducible replace hB := (((((hB.set1 hb1 hb2).set1 hb1 hb2).set1 hb1 hb2).set1 hb1 hb2)).keep hn); clear hn; (try clear hR); have hR := hB.rules; simp only [Rules, World.size_alloc, Nat.add_one_le_iff, List.setIfInBounds_toArray, List.set_cons_zero, List.set_cons_succ] at hR))
    all_goals
      refine bodyPost_ret (results_tmp rfl _ _ _) rfl ?_
      refine ⟨ret_true ?_, ?_⟩
      · rfl
      · repeat (first | exact ext_refl _ | exact hB.below | apply ext_alloc | apply ext_drew | (refine ext_set ?_ ?_; · first | (dsimp only; omega) | (simp; omega) | (simp; done)))
  by_cases h2 : wrap64 (r2 - r0) < wrap64 (2 * n)
  · rw [rounds_succ]
    go_wp2_with (first | (go_at_call 17; refine (sWellFormed _ _ _ _ _).mono ?_; rintro e w1 ⟨rfl, hn⟩; (first | with_reducible replace hB := (hB).keep hn | with_reducible replace hB := (hB.alloc).keep hn | with_reducible replace hB := (hB.alloc.alloc).keep hn | with_reducible replace hB := (hB.alloc.alloc.alloc).keep hn | with_reducible replace hB := (hB.alloc.alloc.alloc.alloc).keep hn | with_reducible replace hB := (hB.alloc.alloc.alloc.alloc.alloc).keep hn | with_reducible replace hB := (hB.alloc.alloc.alloc.alloc.alloc.alloc).keep hn | with_reducible replace hB := (((hB.set1 hb1 hb2).set1 hb1 hb2)).keep hn | with_reducible replace hB := (((((hB.set1 hb1 hb2).set1 hb1 hb2).set1 hb1 hb2).set1 hb1 hb2)).keep hn); clear hn; (try clear hR); have hR := hB.rules; simp only [Rules, World.size_alloc, Nat.add_one_le_iff, List.setIfInBounds_toArray, List.set_cons_zero, List.set_cons_succ] at hR))
    all_goals
      refine bodyPost_ret (results_tmp rfl _ _ _) rfl ?_
      refine ⟨ret_true ?_, ?_⟩
      · rfl
      · repeat (first | exact ext_refl _ | exact hB.below | apply ext_alloc | apply ext_drew | (refine ext_set ?_ ?_; · first | (dsimp only; omega) | (simp; omega) | (simp; done)))
  by_cases h3 : wrap64 (r3 - r1) < wrap64 (2 * n)
  · rw [rounds_succ]
    go_wp2_with (first | (go_at_call 17; refine (sWellFormed _ _ _ _ _).mono ?_; rintro e w1 ⟨rfl, hn⟩; (first | with_reducible replace hB := (hB).keep hn | with_reducible replace hB := (hB.alloc).keep hn | with_reducible replace hB := (hB.alloc.alloc).keep hn | with_reducible replace hB := (hB.alloc.alloc.alloc).keep hn | with_reducible replace hB := (hB.alloc.alloc.alloc.alloc).keep hn | with_reducible replace hB := (hB.alloc.alloc.alloc.alloc.alloc).keep hn | with_reducible replace hB := (hB.alloc.alloc.alloc.alloc.alloc.alloc).keep hn | with_reducible replace hB := (((hB.set1 hb1 hb2).set1 hb1 hb2)).keep hn | with_reducible replace hB := (((((hB.set1 hb1 hb2).set1 hb1 hb2).set1 hb1 hb2).set1 hb1 hb2)).keep hn); clear hn; (try clear hR); have hR := hB.rules; simp only [Rules, World.size_alloc, Nat.add_one_le_iff, List.setIfInBounds_toArray, List.set_cons_zero, List.set_cons_succ] at hR))
    all_goals
      refine bodyPost_ret (results_tmp rfl _ _ _) rfl ?_
      refine ⟨ret_true ?_, ?_⟩
      · rfl
      · repeat (first | exact ext_refl _ | exact hB.below | apply ext_alloc | apply ext_drew | (refine ext_set ?_ ?_; · first | (dsimp only; omega) | (simp; omega) | (simp; done)))
  obtain ⟨k1, k2⟩ := wfB_iff.1 h1
  obtain ⟨s1, s2, s3, s4, s5⟩ := side b_r0 b_r2 b_n k1 h2
  obtain ⟨t1, t2, t3, t4, t5⟩ := side b_r1 b_r3 b_n k2 h3
  have e1 : eq4 (insLo (insLo r0 r2 n) (insHi r0 r2 n) (wrap64 (-n))) (insLo (insLo r1 r3 n) (insHi r1 r3 n) (wrap64 (-n))) (insHi (insLo r0 r2 n) (insHi r0 r2 n) (wrap64 (-n))) (insHi (insLo r1 r3 n) (insHi r1 r3 n) (wrap64 (-n))) r0 r1 r2 r3 = true := eq4_iff.2 ⟨s1, t1, s2, t2⟩
  have e2 : eq4 (insLo r0 r2 0) (insLo r1 r3 0) (insHi r0 r2 0) (insHi r1 r3 0) r0 r1 r2 r3 = true := eq4_iff.2 ⟨s3, t3, s4, t4⟩
  have e3 : (wrap64 (insHi r0 r2 n - insLo r0 r2 n) == wrap64 (wrap64 (r2 - r0) - wrap64 (2 * n))) = true := by rw [s5]; simp
  clear s1 s2 s3 s4 s5 t1 t2 t3 t4 t5 k1 k2
  rw [rounds_succ]
  go_wp2_with (first | (go_at_call 17; refine (sWellFormed _ _ _ _ _).mono ?_; rintro e w1 ⟨rfl, hn⟩; (first | with_reducible replace hB := (hB).keep hn | with_reducible replace hB := (hB.alloc).keep hn | with_reducible replace hB := (hB.alloc.alloc).keep hn | with_reducible replace hB := (hB.alloc.alloc.alloc).keep hn | with_reducible replace hB := (hB.alloc.alloc.alloc.alloc).keep hn | with_reducible replace hB := (hB.alloc.alloc.alloc.alloc.alloc).keep hn | with_reducible replace hB := (hB.alloc.alloc.alloc.alloc.alloc.alloc).keep hn | with_reducible replace hB := (((hB.set1 hb1 hb2).set1 hb1 hb2)).keep hn | with_reducible replace hB := (((((hB.set1 hb1 hb2).set1 hb1 hb2).set1 hb1 hb2).set1 hb1 hb2)).keep hn); clear hn; (try clear hR); have hR := hB.rules; simp only [Rules, World.size_alloc, Nat.add_one_le_iff, List.setIfInBounds_toArray, List.set_cons_zero, List.set_cons_succ] at hR) | (go_at_call 20; refine (iRectInset _ _ _ _ _ _).mono ?_; rintro e w1 ⟨rfl, hn⟩; (first | with_reducible replace hB := (hB).keep hn | with_reducible replace hB := (hB.alloc).keep hn | with_reducible replace hB := (hB.alloc.alloc).keep hn | with_reducible replace hB := (hB.alloc.alloc.alloc).keep hn | with_reducible replace hB := (hB.alloc.alloc.alloc.alloc).keep hn | with_reducible replace hB := (hB.alloc.alloc.alloc.alloc.alloc).keep hn | with_reducible replace hB := (hB.alloc.alloc.alloc.alloc.alloc.alloc).keep hn | with_reducible replace hB := (((hB.set1 hb1 hb2).set1 hb1 hb2)).keep hn | with_reducible replace hB := (((((hB.set1 hb1 hb2).set1 hb1 hb2).set1 hb1 hb2).set1 hb1 hb2)).keep hn); clear hn; (try clear hR); have hR := hB.rules; simp only [Rules, World.size_alloc, Nat.add_one_le_iff, List.setIfInBounds_toArray, List.set_cons_zero, List.set_cons_succ] at hR))
  (first | with_reducible refine wp_region_known hB ?hm ?hB ?_ | with_reducible refine wp_region_known hB.alloc ?hm ?hB ?_ | with_reducible refine wp_region_known hB.alloc.alloc ?hm ?hB ?_ | with_reducible refine wp_region_known hB.alloc.alloc.alloc ?hm ?hB ?_ | with_reducible refine wp_region_known hB.alloc.alloc.alloc.alloc ?hm ?hB ?_ | with_reducible refine wp_region_known hB.alloc.alloc.alloc.alloc.alloc ?hm ?hB ?_ | with_reducible refine wp_region_known hB.alloc.alloc.alloc.alloc.alloc.alloc ?hm ?hB ?_); (case hm => kernel_rfl); (case hB => kernel_rfl); (try clear hR); intro hov; simp only [Rules, World.size_alloc, Nat.add_one_le_iff, List.setIfInBounds_toArray, List.set_cons_zero, List.set_cons_succ] at hov; (repeat (go_big_quiet_step (first | (go_at_call 20; exact Calls.over _ (iRectInset _ _ _ _ _ _)) | (go_at_call 24; exact Calls.over _ (iRectDx _ _ _ _ _))))); refine wpQuiet_nil ?_; intro wx hB; clear hov; have hR := hB.rules; simp only [Rules, World.size_alloc, Nat.add_one_le_iff, List.setIfInBounds_toArray, List.set_cons_zero, List.set_cons_succ] at hR
  go_wp2
  all_goals
    refine bodyPost_ret (results_tmp rfl _ _ _) rfl ?_
    refine ⟨ret_true ?_, ?_⟩
    · first | rfl | exact e3
    · repeat (first | exact ext_refl _ | exact hB.below | apply ext_alloc | apply ext_drew | (refine ext_set ?_ ?_; · first | (dsimp only; omega) | (simp; omega) | (simp; done)))

theorem lifted (os : Os) (started : os.Started) (H : Type) (enc : TypeId × Value → H) :
    ReturnsInHanded {} Try.checked os 7 .any (Rows.fnInsetBackSpec.pre6 enc Try.prog Try.f7 Rows.fnInsetBackRow.domain false) (Rows.fnInsetBackSpec.post enc Try.prog Try.f7 false true false false) := by
  refine returnsInHanded_of_change (C := Try.checked) own started (by kernel_rfl) Try.func7
    (ChangeSpec.witness6 (enc := enc) (C := Try.checked) false ⟨#[], #[.agg #[.int .i64 0, .int .i64 0, .int .i64 0, .int .i64 0], .int .i64 0], []⟩ 8 (by kernel_rfl) (by kernel_rfl) (by kernel_rfl) (by kernel_rfl)) ?_
  intro W base args ds gs before hval0 hW hcnd _
  have hval : ∀ (j : Nat) t v, Try.f7.params[j]? = some t → args[j]? = some v → Value.okWide Try.prog W .any base t v := hval0
  have hW' := hW
  obtain ⟨p, q, hA0, hV, rfl, hfz, hnd⟩ := hW
  have hA : DataW.TrodAll enc Try.prog W 0 (fun _ => true) true Try.f7.params.toList args.toList ds p := hA0
  rw [Try.params7] at hA hval
  obtain ⟨v0, vs0, d0, ds0, p0, q0, hargs, rfl, rfl, h0, r0⟩ := trodAll_cons hA
  obtain ⟨v1, vs1, d1, ds1, p1, q1, rfl, rfl, rfl, h1, r1⟩ := trodAll_cons r0
  obtain ⟨rfl, rfl, rfl⟩ := trodAll_nil r1
  obtain rfl : args = #[v0, v1] := by cases args; simp_all
  obtain ⟨rfl, rfl⟩ := trodVars_none hV
  obtain ⟨xr0, xr1, xr2, xr3, rfl, rfl, rfl, wxr0, wxr1, wxr2, wxr3⟩ := open_arr4 Try.underlying22 Try.underlying2 (by kernel_rfl) (by kernel_rfl) (hval 0 22 v0 rfl rfl) h0
  obtain ⟨xn, rfl, rfl, rfl, wxn⟩ := open_int Try.underlying2 (hval 1 2 v1 rfl rfl) h1
  clear hA0 hval0
  refine (walk xr0 xr1 xr2 xr3 xn (bounds_i64 wxr0) (bounds_i64 wxr1) (bounds_i64 wxr2) (bounds_i64 wxr3) (bounds_i64 wxn) W).mono fun e W' ⟨he, bel⟩ => ?_
  subst he
  exact ⟨_, rfl, _, _, _, [], _, [], hW', trodAll_mk1 (shut_bool Try.underlying4 _), (trodAll_cons_mk (shut_arr4 Try.underlying22 Try.underlying2 (by kernel_rfl) (by kernel_rfl) wxr0 wxr1 wxr2 wxr3) (trodAll_cons_mk (shut_int Try.underlying2 wxn) trodAll_mk0)), rfl, bel.frame _, fun h => by cases h⟩

/-- THE STATEMENT. -/
theorem proved : Rows.FnInsetBackSaid :=
  OpenClaim.holds_of_wide 7 Try.f7 rfl rfl rfl rfl rfl rfl rfl ⟨rfl, rfl, rfl, rfl, rfl⟩ rfl rfl rfl rfl rfl (by kernel_rfl) Try.func7 (by kernel_rfl)
    (of_decide_eq_true (by kernel_rfl)) (by unfold Func.isWrapper; first | (rw [if_pos (by decide +kernel)]; kernel_rfl) | (rw [if_neg (by decide +kernel)]; exact ⟨rfl, rfl⟩))
    (fun os started H enc _ => lifted os started H enc)
#print axioms proved
end Go.Proofs.Ytfhimelhfckjdaa.fnInsetBack
