/-
  Proved: the statement Rows.FnInsetStepsSaid: Two insets, none of which is negative, are one by the sum (width and height are at least twice this; no number is greater than 1000000000000 in size).
  Conditions: none: for every input.
-/
import Derived.Test.YtfhimelhfckjdaaSpec
import Derived.Test.YtfhimelhfckjdaaSmall
import Derived.Test.YtfhimelhfckjdaaRow
namespace Go.Proofs.Ytfhimelhfckjdaa.fnInsetSteps
open Go.ChangeShapes Go.WideShapes Go.ChangeAt Go.RowKit
set_option linter.unusedSimpArgs false
set_option linter.unusedVariables false
set_option maxHeartbeats 2000000
set_option maxRecDepth 100000

/-- A call that answers a Bool, of which it is known what it is. -/
theorem Calls.overB {P : Program} {f : FuncId} {args : Array Value} {w : World} {x b : Bool} {y : Over w} (hx : x = b) (h : Calls P f args y.wd (Gives (.bool x) y.wd)) :
    Calls P f args y.wd fun e w'' => e = .returned (.bool b) ∧ ∃ z : Over w, w'' = z.wd := by subst hx; exact Calls.over _ h

theorem side {a c m n : Int} (ba : In12 a) (bc : In12 c) (bm : In12 m) (bn : In12 n) (m0 : ¬ m < 0) (n0 : ¬ n < 0) (h : ¬ wrap64 (c - a) < wrap64 (2 * wrap64 (m + n))) :
    insLo (insLo a c m) (insHi a c m) n = a + m + n ∧ insHi (insLo a c m) (insHi a c m) n = c - m - n ∧ insLo a c (wrap64 (m + n)) = a + m + n ∧ insHi a c (wrap64 (m + n)) = c - m - n ∧ 2 * (m + n) ≤ c - a ∧
    wrap64 (c - a) = c - a ∧ wrap64 (2 * wrap64 (m + n)) = 2 * (m + n) := by
  have k : wrap64 (m + n) = m + n := by unfold In12 at *; exact wrap_in (by omega) (by omega)
  rw [k] at h ⊢
  have hs : Lim (m + n) := by unfold In12 at *; unfold Lim; omega
  rw [less_in ba.lim bc.lim hs] at h
  obtain ⟨e1, e2⟩ := ins_in ba.lim bc.lim bm.lim (by omega)
  obtain ⟨e3, e4⟩ := ins_in ba.lim bc.lim hs (by omega)
  obtain ⟨e5, e6⟩ := ins_in (a := a + m) (c := c - m) (n := n) (by unfold In12 at *; unfold Lim; omega) (by unfold In12 at *; unfold Lim; omega) bn.lim (by omega)
  rw [e1, e2, e3, e4, e5, e6]
  unfold In12 at *
  rw [wrap_in (x := c - a) (by omega) (by omega), wrap_in (x := 2 * (m + n)) (by omega) (by omega)]
  omega

theorem walk (r0 r1 r2 r3 : Int) (m : Int) (n : Int) (or0 : Ok r0) (or1 : Ok r1) (or2 : Ok r2) (or3 : Ok r3) (om : Ok m) (on : Ok n) (w : World) :
    Calls Try.prog 11 #[.agg #[.int .i64 r0, .int .i64 r1, .int .i64 r2, .int .i64 r3], .int .i64 m, .int .i64 n] w (Gives (.bool true) w) := by
  have heq := eql_a4
  have hB := Known.start w
  go_enter Try.func11, Try.ntmps11
  go_wp2
  refine wp_loop_rounds 7 ?_
  rw [rounds_succ]
  go_wp2
  any_goals
    refine bodyPost_ret (results_tmp rfl _ _ _) rfl ?_
    refine ⟨ret_true ?_, ?_⟩
    · rfl
    · repeat (first | exact ext_refl _ | exact hB.below | apply ext_alloc | apply ext_drew | (refine ext_set ?_ ?_; · first | (dsimp only; omega) | (simp; omega) | (simp; done)))
  rename_i hx hy
  have b_r0 : In12 r0 := ⟨hy.2, hy.1⟩
  clear hx hy
  rw [rounds_succ]
  go_wp2
  any_goals
    refine bodyPost_ret (results_tmp rfl _ _ _) rfl ?_
    refine ⟨ret_true ?_, ?_⟩
    · rfl
    · repeat (first | exact ext_refl _ | exact hB.below | apply ext_alloc | apply ext_drew | (refine ext_set ?_ ?_; · first | (dsimp only; omega) | (simp; omega) | (simp; done)))
  rename_i hx hy
  have b_r1 : In12 r1 := ⟨hy.2, hy.1⟩
  clear hx hy
  rw [rounds_succ]
  go_wp2
  any_goals
    refine bodyPost_ret (results_tmp rfl _ _ _) rfl ?_
    refine ⟨ret_true ?_, ?_⟩
    · rfl
    · repeat (first | exact ext_refl _ | exact hB.below | apply ext_alloc | apply ext_drew | (refine ext_set ?_ ?_; · first | (dsimp only; omega) | (simp; omega) | (simp; done)))
  rename_i hx hy
  have b_r2 : In12 r2 := ⟨hy.2, hy.1⟩
  clear hx hy
  rw [rounds_succ]
  go_wp2
  any_goals
    refine bodyPost_ret (results_tmp rfl _ _ _) rfl ?_
    refine ⟨ret_true ?_, ?_⟩
    · rfl
    · repeat (first | exact ext_refl _ | exact hB.below | apply ext_alloc | apply ext_drew | (refine ext_set ?_ ?_; · first | (dsimp only; omega) | (simp; omega) | (simp; done)))
  rename_i hx hy
  have b_r3 : In12 r3 := ⟨hy.2, hy.1⟩
  clear hx hy
  rw [rounds_succ]
  go_wp2
  any_goals
    refine bodyPost_ret (results_tmp rfl _ _ _) rfl ?_
    refine ⟨ret_true ?_, ?_⟩
    · rfl
    · repeat (first | exact ext_refl _ | exact hB.below | apply ext_alloc | apply ext_drew | (refine ext_set ?_ ?_; · first | (dsimp only; omega) | (simp; omega) | (simp; done)))
  rename_i hx hy
  have b_m : In12 m := ⟨hy.2, hy.1⟩
  clear hx hy
  rw [rounds_succ]
  go_wp2
  any_goals
    refine bodyPost_ret (results_tmp rfl _ _ _) rfl ?_
    refine ⟨ret_true ?_, ?_⟩
    · rfl
    · repeat (first | exact ext_refl _ | exact hB.below | apply ext_alloc | apply ext_drew | (refine ext_set ?_ ?_; · first | (dsimp only; omega) | (simp; omega) | (simp; done)))
  rename_i hx hy
  have b_n : In12 n := ⟨hy.2, hy.1⟩
  clear hx hy
  by_cases h1 : m < 0
  · rw [rounds_succ]
    go_wp2
    all_goals
      refine bodyPost_ret (results_tmp rfl _ _ _) rfl ?_
      refine ⟨ret_true ?_, ?_⟩
      · rfl
      · repeat (first | exact ext_refl _ | exact hB.below | apply ext_alloc | apply ext_drew | (refine ext_set ?_ ?_; · first | (dsimp only; omega) | (simp; omega) | (simp; done)))
  by_cases h2 : n < 0
  · rw [rounds_succ]
    go_wp2
    all_goals
      refine bodyPost_ret (results_tmp rfl _ _ _) rfl ?_
      refine ⟨ret_true ?_, ?_⟩
      · rfl
      · repeat (first | exact ext_refl _ | exact hB.below | apply ext_alloc | apply ext_drew | (refine ext_set ?_ ?_; · first | (dsimp only; omega) | (simp; omega) | (simp; done)))
  by_cases h3 : wrap64 (r2 - r0) < wrap64 (2 * wrap64 (m + n))
  · rw [rounds_succ]
    go_wp2
    all_goals
      refine bodyPost_ret (results_tmp rfl _ _ _) rfl ?_
      refine ⟨ret_true ?_, ?_⟩
      · rfl
      · repeat (first | exact ext_refl _ | exact hB.below | apply ext_alloc | apply ext_drew | (refine ext_set ?_ ?_; · first | (dsimp only; omega) | (simp; omega) | (simp; done)))
  by_cases h4 : wrap64 (r3 - r1) < wrap64 (2 * wrap64 (m + n))
  · rw [rounds_succ]
    go_wp2
    all_goals
      refine bodyPost_ret (results_tmp rfl _ _ _) rfl ?_
      refine ⟨ret_true ?_, ?_⟩
      · rfl
      · repeat (first | exact ext_refl _ | exact hB.below | apply ext_alloc | apply ext_drew | (refine ext_set ?_ ?_; · first | (dsimp only; omega) | (simp; omega) | (simp; done)))
  obtain ⟨s1, s2, s3, s4, s5, s6, s7⟩ := side b_r0 b_r2 b_m b_n h1 h2 h3
  obtain ⟨t1, t2, t3, t4, t5, t6, t7⟩ := side b_r1 b_r3 b_m b_n h1 h2 h4
  have e1 : eq4 (insLo (insLo r0 r2 m) (insHi r0 r2 m) n) (insLo (insLo r1 r3 m) (insHi r1 r3 m) n) (insHi (insLo r0 r2 m) (insHi r0 r2 m) n) (insHi (insLo r1 r3 m) (insHi r1 r3 m) n) (insLo r0 r2 (wrap64 (m + n))) (insLo r1 r3 (wrap64 (m + n))) (insHi r0 r2 (wrap64 (m + n))) (insHi r1 r3 (wrap64 (m + n))) = true := by
    rw [eq4_iff, s1, s2, s3, s4, t1, t2, t3, t4]; exact ⟨rfl, rfl, rfl, rfl⟩
  have e2 : rinB (insLo (insLo r0 r2 m) (insHi r0 r2 m) n) (insLo (insLo r1 r3 m) (insHi r1 r3 m) n) (insHi (insLo r0 r2 m) (insHi r0 r2 m) n) (insHi (insLo r1 r3 m) (insHi r1 r3 m) n) r0 r1 r2 r3 = true := by
    rw [rinB_iff, s1, s2, t1, t2]; omega
  have e3 : (wrap64 (insHi (insLo r1 r3 m) (insHi r1 r3 m) n - insLo (insLo r1 r3 m) (insHi r1 r3 m) n) == wrap64 (wrap64 (r3 - r1) - wrap64 (2 * wrap64 (m + n)))) = true := by
    rw [t1, t2, t6, t7, show r3 - m - n - (r1 + m + n) = r3 - r1 - 2 * (m + n) by omega]; simp
  clear s1 s2 s3 s4 s5 s6 s7 t1 t2 t3 t4 t5 t6 t7
  rw [rounds_succ]
  go_wp2_with (first | (go_at_call 20; refine (iRectInset _ _ _ _ _ _).mono ?_; rintro e w1 ⟨rfl, hn⟩; (first | with_reducible replace hB := (hB).keep hn | with_reducible replace hB := (hB.alloc).keep hn | with_reducible replace hB := (hB.alloc.alloc).keep hn | with_reducible replace hB := (hB.alloc.alloc.alloc).keep hn | with_reducible replace hB := (hB.alloc.alloc.alloc.alloc).keep hn | with_reducible replace hB := (hB.alloc.alloc.alloc.alloc.alloc).keep hn | with_reducible replace hB := (hB.alloc.alloc.alloc.alloc.alloc.alloc).keep hn | with_reducible replace hB := (((hB.set1 hb1 hb2).set1 hb1 hb2)).keep hn | with_reducible replace hB := (((((hB.set1 hb1 hb2).set1 hb1 hb2).set1 hb1 hb2).set1 hb1 hb2)).keep hn); clear hn; (try clear hR); have hR := hB.rules; simp only [Rules, World.size_alloc, Nat.add_one_le_iff, List.setIfInBounds_toArray, List.set_cons_zero, List.set_cons_succ] at hR))
  (first | with_reducible refine wp_region_known hB ?hm ?hB ?_ | with_reducible refine wp_region_known hB.alloc ?hm ?hB ?_ | with_reducible refine wp_region_known hB.alloc.alloc ?hm ?hB ?_ | with_reducible refine wp_region_known hB.alloc.alloc.alloc ?hm ?hB ?_ | with_reducible refine wp_region_known hB.alloc.alloc.alloc.alloc ?hm ?hB ?_ | with_reducible refine wp_region_known hB.alloc.alloc.alloc.alloc.alloc ?hm ?hB ?_ | with_reducible refine wp_region_known hB.alloc.alloc.alloc.alloc.alloc.alloc ?hm ?hB ?_); (case hm => kernel_rfl); (case hB => kernel_rfl); (try clear hR); intro hov; simp only [Rules, World.size_alloc, Nat.add_one_le_iff, List.setIfInBounds_toArray, List.set_cons_zero, List.set_cons_succ] at hov; (repeat (go_big_quiet_step (first | (go_at_call 20; exact Calls.over _ (iRectInset _ _ _ _ _ _)) | (go_at_call 29; exact Calls.overB (by assumption) (iRectIn _ _ _ _ _ _ _ _ _)) | (go_at_call 29; exact Calls.over _ (iRectIn _ _ _ _ _ _ _ _ _)) | (go_at_call 30; exact Calls.over _ (iRectDy _ _ _ _ _))))); refine wpQuiet_nil ?_; intro wx hB; clear hov; have hR := hB.rules; simp only [Rules, World.size_alloc, Nat.add_one_le_iff, List.setIfInBounds_toArray, List.set_cons_zero, List.set_cons_succ] at hR
  go_wp2
  all_goals
    refine bodyPost_ret (results_tmp rfl _ _ _) rfl ?_
    refine ⟨ret_true ?_, ?_⟩
    · first | rfl | exact e3
    · repeat (first | exact ext_refl _ | exact hB.below | apply ext_alloc | apply ext_drew | (refine ext_set ?_ ?_; · first | (dsimp only; omega) | (simp; omega) | (simp; done)))

theorem lifted (os : Os) (started : os.Started) (H : Type) (enc : TypeId × Value → H) :
    ReturnsInHanded {} Try.checked os 11 .any (Rows.fnInsetStepsSpec.pre6 enc Try.prog Try.f11 Rows.fnInsetStepsRow.domain false) (Rows.fnInsetStepsSpec.post enc Try.prog Try.f11 false true false false) := by
  refine returnsInHanded_of_change (C := Try.checked) own started (by kernel_rfl) Try.func11
    (ChangeSpec.witness6 (enc := enc) (C := Try.checked) false ⟨#[], #[.agg #[.int .i64 0, .int .i64 0, .int .i64 0, .int .i64 0], .int .i64 0, .int .i64 0], []⟩ 8 (by kernel_rfl) (by kernel_rfl) (by kernel_rfl) (by kernel_rfl)) ?_
  intro W base args ds gs before hval0 hW hcnd _
  have hval : ∀ (j : Nat) t v, Try.f11.params[j]? = some t → args[j]? = some v → Value.okWide Try.prog W .any base t v := hval0
  have hW' := hW
  obtain ⟨p, q, hA0, hV, rfl, hfz, hnd⟩ := hW
  have hA : DataW.TrodAll enc Try.prog W 0 (fun _ => true) true Try.f11.params.toList args.toList ds p := hA0
  rw [Try.params11] at hA hval
  obtain ⟨v0, vs0, d0, ds0, p0, q0, hargs, rfl, rfl, h0, r0⟩ := trodAll_cons hA
  obtain ⟨v1, vs1, d1, ds1, p1, q1, rfl, rfl, rfl, h1, r1⟩ := trodAll_cons r0
  obtain ⟨v2, vs2, d2, ds2, p2, q2, rfl, rfl, rfl, h2, r2⟩ := trodAll_cons r1
  obtain ⟨rfl, rfl, rfl⟩ := trodAll_nil r2
  obtain rfl : args = #[v0, v1, v2] := by cases args; simp_all
  obtain ⟨rfl, rfl⟩ := trodVars_none hV
  obtain ⟨xr0, xr1, xr2, xr3, rfl, rfl, rfl, wxr0, wxr1, wxr2, wxr3⟩ := open_arr4 Try.underlying22 Try.underlying2 (by kernel_rfl) (by kernel_rfl) (hval 0 22 v0 rfl rfl) h0
  obtain ⟨xm, rfl, rfl, rfl, wxm⟩ := open_int Try.underlying2 (hval 1 2 v1 rfl rfl) h1
  obtain ⟨xn, rfl, rfl, rfl, wxn⟩ := open_int Try.underlying2 (hval 2 2 v2 rfl rfl) h2
  clear hA0 hval0
  refine (walk xr0 xr1 xr2 xr3 xm xn (bounds_i64 wxr0) (bounds_i64 wxr1) (bounds_i64 wxr2) (bounds_i64 wxr3) (bounds_i64 wxm) (bounds_i64 wxn) W).mono fun e W' ⟨he, bel⟩ => ?_
  subst he
  exact ⟨_, rfl, _, _, _, [], _, [], hW', trodAll_mk1 (shut_bool Try.underlying4 _), (trodAll_cons_mk (shut_arr4 Try.underlying22 Try.underlying2 (by kernel_rfl) (by kernel_rfl) wxr0 wxr1 wxr2 wxr3) (trodAll_cons_mk (shut_int Try.underlying2 wxm) (trodAll_cons_mk (shut_int Try.underlying2 wxn) trodAll_mk0))), rfl, bel.frame _, fun h => by cases h⟩

/-- THE STATEMENT. -/
theorem proved : Rows.FnInsetStepsSaid :=
  OpenClaim.holds_of_wide 11 Try.f11 rfl rfl rfl rfl rfl rfl rfl ⟨rfl, rfl, rfl, rfl, rfl⟩ rfl rfl rfl rfl rfl (by kernel_rfl) Try.func11 (by kernel_rfl)
    (of_decide_eq_true (by kernel_rfl)) (by unfold Func.isWrapper; first | (rw [if_pos (by decide +kernel)]; kernel_rfl) | (rw [if_neg (by decide +kernel)]; exact ⟨rfl, rfl⟩))
    (fun os started H enc _ => lifted os started H enc)
#print axioms proved
end Go.Proofs.Ytfhimelhfckjdaa.fnInsetSteps
