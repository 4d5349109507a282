/-
  Proved: the statement Rows.FnUnionWithPointSaid: The union with the rectangle of a single point is the rectangle itself if it has the point, and otherwise the smallest one that has it as well (the coordinates of the point are less than the greatest number, and r has points).
  Conditions: none: for every input.
-/
import Derived.Test.YtakfghkbdijbiaaSpec
import Derived.Test.YtakfghkbdijbiaaSets
import Derived.Test.YtakfghkbdijbiaaArith
import Derived.Test.YtakfghkbdijbiaaRow
namespace Go.Proofs.Ytakfghkbdijbiaa.fnUnionWithPoint
open Go.ChangeShapes Go.WideShapes Go.ChangeAt Go.RowKit
set_option linter.unusedSimpArgs false
set_option linter.unusedVariables false
set_option maxHeartbeats 2000000
set_option maxRecDepth 100000

/-- A call that answers a Bool, of which it is known what it is. -/
theorem Calls.overB {P : Program} {f : FuncId} {args : Array Value} {w : World} {x b : Bool} {y : Over w} (hx : x = b) (h : Calls P f args y.wd (Gives (.bool x) y.wd)) :
    Calls P f args y.wd fun e w'' => e = .returned (.bool b) ∧ ∃ z : Over w, w'' = z.wd := by subst hx; exact Calls.over _ h

theorem one {x : Int} (ox : Ok x) (h : (x == 9223372036854775807) = false) : wrap64 (x + 1) = x + 1 := by
  have : x ≠ 9223372036854775807 := by simpa using h
  unfold Ok at ox
  exact wrap_in (by omega) (by omega)
/-- The union with the rectangle of the point. -/
def U (a0 a1 r0 r1 r2 r3 : Int) : Rc := union r0 r1 r2 r3 (canon a0 a1 (wrap64 (a0 + 1)) (wrap64 (a1 + 1))).a (canon a0 a1 (wrap64 (a0 + 1)) (wrap64 (a1 + 1))).b (canon a0 a1 (wrap64 (a0 + 1)) (wrap64 (a1 + 1))).c (canon a0 a1 (wrap64 (a0 + 1)) (wrap64 (a1 + 1))).d
theorem U_eq {a0 a1 r0 r1 r2 r3 : Int} (oa0 : Ok a0) (oa1 : Ok a1) (h1 : (a0 == 9223372036854775807) = false) (h2 : (a1 == 9223372036854775807) = false) (h3 : emptyB r0 r1 r2 r3 = false) :
    U a0 a1 r0 r1 r2 r3 = ⟨min r0 a0, min r1 a1, max r2 (a0 + 1), max r3 (a1 + 1)⟩ := by
  unfold U
  rw [one oa0 h1, one oa1 h2]
  have c : canon a0 a1 (a0 + 1) (a1 + 1) = ⟨a0, a1, a0 + 1, a1 + 1⟩ := by unfold canon; rw [Rc.mk.injEq]; omega
  rw [c]
  rw [emptyB_not] at h3
  rcases union_cases r0 r1 r2 r3 a0 a1 (a0 + 1) (a1 + 1) with ⟨g1, g⟩ | ⟨g1, g2, g⟩ | ⟨g1, g2, g⟩
  · omega
  · omega
  · exact g
theorem lo (r a : Int) : (min r a == r) = true ∨ ((min r a == r) = false ∧ (min r a == a) = true) := by
  by_cases h : r ≤ a
  · exact .inl (by simp; omega)
  · exact .inr ⟨by simp; omega, by simp; omega⟩
theorem hi (r a : Int) : (max r a == r) = true ∨ ((max r a == r) = false ∧ (max r a == a) = true) := by
  by_cases h : a ≤ r
  · exact .inl (by simp; omega)
  · exact .inr ⟨by simp; omega, by simp; omega⟩

theorem walk (a0 a1 : Int) (r0 r1 r2 r3 : Int) (oa0 : Ok a0) (oa1 : Ok a1) (or0 : Ok r0) (or1 : Ok r1) (or2 : Ok r2) (or3 : Ok r3) (w : World) :
    Calls Try.prog 7 #[.agg #[.int .i64 a0, .int .i64 a1], .agg #[.int .i64 r0, .int .i64 r1, .int .i64 r2, .int .i64 r3]] w (Gives (.bool true) w) := by
  have heq := eql_a4
  rcases Bool.eq_false_or_eq_true (a0 == 9223372036854775807) with h1 | h1
  · skip
    have hB := Known.start w
    go_enter Try.func7, Try.ntmps7
    go_wp2_with (first | (go_at_call 27; refine (sNone _ _ _ _ _).mono ?_; rintro e w1 ⟨rfl, hn⟩; (first | with_reducible replace hB := (hB).keep hn | with_reducible replace hB := (hB.alloc).keep hn | with_reducible replace hB := (hB.alloc.alloc).keep hn | with_reducible replace hB := (hB.alloc.alloc.alloc).keep hn | with_reducible replace hB := (hB.alloc.alloc.alloc.alloc).keep hn | with_reducible replace hB := (hB.alloc.alloc.alloc.alloc.alloc).keep hn | with_reducible replace hB := (hB.alloc.alloc.alloc.alloc.alloc.alloc).keep hn | with_reducible replace hB := (((hB.set1 hb1 hb2).set1 hb1 hb2)).keep hn | with_reducible replace hB := (((((hB.set1 hb1 hb2).set1 hb1 hb2).set1 hb1 hb2).set1 hb1 hb2)).keep hn); clear hn; (try clear hR); have hR := hB.rules; simp only [Rules, World.size_alloc, Nat.add_one_le_iff, List.setIfInBounds_toArray, List.set_cons_zero, List.set_cons_succ] at hR))
    all_goals
      refine bodyPost_ret (results_tmp rfl _ _ _) rfl ?_
      refine ⟨ret_true ?_, ?_⟩
      · rfl
      · repeat (first | exact ext_refl _ | exact hB.below | apply ext_alloc | apply ext_drew | (refine ext_set ?_ ?_; · first | (dsimp only; omega) | (simp; omega) | (simp; done)))
  rcases Bool.eq_false_or_eq_true (a1 == 9223372036854775807) with h2 | h2
  · skip
    have hB := Known.start w
    go_enter Try.func7, Try.ntmps7
    go_wp2_with (first | (go_at_call 27; refine (sNone _ _ _ _ _).mono ?_; rintro e w1 ⟨rfl, hn⟩; (first | with_reducible replace hB := (hB).keep hn | with_reducible replace hB := (hB.alloc).keep hn | with_reducible replace hB := (hB.alloc.alloc).keep hn | with_reducible replace hB := (hB.alloc.alloc.alloc).keep hn | with_reducible replace hB := (hB.alloc.alloc.alloc.alloc).keep hn | with_reducible replace hB := (hB.alloc.alloc.alloc.alloc.alloc).keep hn | with_reducible replace hB := (hB.alloc.alloc.alloc.alloc.alloc.alloc).keep hn | with_reducible replace hB := (((hB.set1 hb1 hb2).set1 hb1 hb2)).keep hn | with_reducible replace hB := (((((hB.set1 hb1 hb2).set1 hb1 hb2).set1 hb1 hb2).set1 hb1 hb2)).keep hn); clear hn; (try clear hR); have hR := hB.rules; simp only [Rules, World.size_alloc, Nat.add_one_le_iff, List.setIfInBounds_toArray, List.set_cons_zero, List.set_cons_succ] at hR))
    all_goals
      refine bodyPost_ret (results_tmp rfl _ _ _) rfl ?_
      refine ⟨ret_true ?_, ?_⟩
      · rfl
      · repeat (first | exact ext_refl _ | exact hB.below | apply ext_alloc | apply ext_drew | (refine ext_set ?_ ?_; · first | (dsimp only; omega) | (simp; omega) | (simp; done)))
  rcases Bool.eq_false_or_eq_true (emptyB r0 r1 r2 r3) with h3 | h3
  · skip
    have hB := Known.start w
    go_enter Try.func7, Try.ntmps7
    go_wp2_with (first | (go_at_call 27; refine (sNone _ _ _ _ _).mono ?_; rintro e w1 ⟨rfl, hn⟩; (first | with_reducible replace hB := (hB).keep hn | with_reducible replace hB := (hB.alloc).keep hn | with_reducible replace hB := (hB.alloc.alloc).keep hn | with_reducible replace hB := (hB.alloc.alloc.alloc).keep hn | with_reducible replace hB := (hB.alloc.alloc.alloc.alloc).keep hn | with_reducible replace hB := (hB.alloc.alloc.alloc.alloc.alloc).keep hn | with_reducible replace hB := (hB.alloc.alloc.alloc.alloc.alloc.alloc).keep hn | with_reducible replace hB := (((hB.set1 hb1 hb2).set1 hb1 hb2)).keep hn | with_reducible replace hB := (((((hB.set1 hb1 hb2).set1 hb1 hb2).set1 hb1 hb2).set1 hb1 hb2)).keep hn); clear hn; (try clear hR); have hR := hB.rules; simp only [Rules, World.size_alloc, Nat.add_one_le_iff, List.setIfInBounds_toArray, List.set_cons_zero, List.set_cons_succ] at hR))
    all_goals
      refine bodyPost_ret (results_tmp rfl _ _ _) rfl ?_
      refine ⟨ret_true ?_, ?_⟩
      · rfl
      · repeat (first | exact ext_refl _ | exact hB.below | apply ext_alloc | apply ext_drew | (refine ext_set ?_ ?_; · first | (dsimp only; omega) | (simp; omega) | (simp; done)))
  have hU := U_eq (r0 := r0) (r1 := r1) (r2 := r2) (r3 := r3) oa0 oa1 h1 h2 h3
  have f1 : inB a0 a1 (U a0 a1 r0 r1 r2 r3).a (U a0 a1 r0 r1 r2 r3).b (U a0 a1 r0 r1 r2 r3).c (U a0 a1 r0 r1 r2 r3).d = true := by rw [hU, inB_iff]; dsimp only; omega
  have f2 : eq4 (U a0 a1 r0 r1 r2 r3).a (U a0 a1 r0 r1 r2 r3).b (U a0 a1 r0 r1 r2 r3).c (U a0 a1 r0 r1 r2 r3).d r0 r1 r2 r3 = inB a0 a1 r0 r1 r2 r3 := by
    apply bool_eq
    rw [hU, inB_iff, eq4_iff]; dsimp only; omega
  have f3 : rinB r0 r1 r2 r3 (U a0 a1 r0 r1 r2 r3).a (U a0 a1 r0 r1 r2 r3).b (U a0 a1 r0 r1 r2 r3).c (U a0 a1 r0 r1 r2 r3).d = true := by rw [hU, rinB_iff]; dsimp only; omega
  have g0 : ((U a0 a1 r0 r1 r2 r3).a == r0) = true ∨ (((U a0 a1 r0 r1 r2 r3).a == r0) = false ∧ ((U a0 a1 r0 r1 r2 r3).a == a0) = true) := by rw [hU]; exact lo _ _
  have g1 : ((U a0 a1 r0 r1 r2 r3).b == r1) = true ∨ (((U a0 a1 r0 r1 r2 r3).b == r1) = false ∧ ((U a0 a1 r0 r1 r2 r3).b == a1) = true) := by rw [hU]; exact lo _ _
  have g2 : ((U a0 a1 r0 r1 r2 r3).c == r2) = true ∨ (((U a0 a1 r0 r1 r2 r3).c == r2) = false ∧ ((U a0 a1 r0 r1 r2 r3).c == wrap64 (a0 + 1)) = true) := by rw [hU, one oa0 h1]; exact hi _ _
  have g3 : ((U a0 a1 r0 r1 r2 r3).d == r3) = true ∨ (((U a0 a1 r0 r1 r2 r3).d == r3) = false ∧ ((U a0 a1 r0 r1 r2 r3).d == wrap64 (a1 + 1)) = true) := by rw [hU, one oa1 h2]; exact hi _ _
  clear hU
  unfold U at f1 f2 f3 g0 g1 g2 g3
  generalize hc : canon a0 a1 (wrap64 (a0 + 1)) (wrap64 (a1 + 1)) = C at f1 f2 f3 g0 g1 g2 g3
  subst hc
  cases h4 : inB a0 a1 r0 r1 r2 r3
  all_goals
    rw [h4] at f2
    have hB := Known.start w
    go_enter Try.func7, Try.ntmps7
    go_wp2_with (first | (go_at_call 27; refine (sNone _ _ _ _ _).mono ?_; rintro e w1 ⟨rfl, hn⟩; (first | with_reducible replace hB := (hB).keep hn | with_reducible replace hB := (hB.alloc).keep hn | with_reducible replace hB := (hB.alloc.alloc).keep hn | with_reducible replace hB := (hB.alloc.alloc.alloc).keep hn | with_reducible replace hB := (hB.alloc.alloc.alloc.alloc).keep hn | with_reducible replace hB := (hB.alloc.alloc.alloc.alloc.alloc).keep hn | with_reducible replace hB := (hB.alloc.alloc.alloc.alloc.alloc.alloc).keep hn | with_reducible replace hB := (((hB.set1 hb1 hb2).set1 hb1 hb2)).keep hn | with_reducible replace hB := (((((hB.set1 hb1 hb2).set1 hb1 hb2).set1 hb1 hb2).set1 hb1 hb2)).keep hn); clear hn; (try clear hR); have hR := hB.rules; simp only [Rules, World.size_alloc, Nat.add_one_le_iff, List.setIfInBounds_toArray, List.set_cons_zero, List.set_cons_succ] at hR))
    (first | with_reducible refine wp_region_known_alloc hB 13 5 22 #[.int .i64 0, .int .i64 0, .int .i64 0, .int .i64 0] (g := 0) Try.func0 ?hr ?hi ?hm ?hB ?hz ?_ | with_reducible refine wp_region_known_alloc hB.alloc 13 5 22 #[.int .i64 0, .int .i64 0, .int .i64 0, .int .i64 0] (g := 0) Try.func0 ?hr ?hi ?hm ?hB ?hz ?_ | with_reducible refine wp_region_known_alloc hB.alloc.alloc 13 5 22 #[.int .i64 0, .int .i64 0, .int .i64 0, .int .i64 0] (g := 0) Try.func0 ?hr ?hi ?hm ?hB ?hz ?_ | with_reducible refine wp_region_known_alloc hB.alloc.alloc.alloc 13 5 22 #[.int .i64 0, .int .i64 0, .int .i64 0, .int .i64 0] (g := 0) Try.func0 ?hr ?hi ?hm ?hB ?hz ?_ | with_reducible refine wp_region_known_alloc hB.alloc.alloc.alloc.alloc 13 5 22 #[.int .i64 0, .int .i64 0, .int .i64 0, .int .i64 0] (g := 0) Try.func0 ?hr ?hi ?hm ?hB ?hz ?_ | with_reducible refine wp_region_known_alloc hB.alloc.alloc.alloc.alloc.alloc 13 5 22 #[.int .i64 0, .int .i64 0, .int .i64 0, .int .i64 0] (g := 0) Try.func0 ?hr ?hi ?hm ?hB ?hz ?_ | with_reducible refine wp_region_known_alloc hB.alloc.alloc.alloc.alloc.alloc.alloc 13 5 22 #[.int .i64 0, .int .i64 0, .int .i64 0, .int .i64 0] (g := 0) Try.func0 ?hr ?hi ?hm ?hB ?hz ?_); (case hr => kernel_rfl); (case hi => kernel_rfl); (case hm => kernel_rfl); (case hB => kernel_rfl); (case hz => (intro o ho; simp only [List.getElem?_cons_succ, List.getElem?_cons_zero, Option.some.injEq] at ho; subst ho; intro ρ wz; go_simp)); (try clear hR); (try clear hb3 hb4); (try clear hb1 hb2); intro W hW hov; simp only [Rules, World.size_alloc, Nat.add_one_le_iff, List.setIfInBounds_toArray, List.set_cons_zero, List.set_cons_succ] at hov; simp only [List.take_succ_cons, List.take_zero, List.drop_succ_cons, List.drop_zero]; (repeat (go_big_quiet_step (first | (go_at_call 22; exact Calls.over _ (iNewRect _ _ _ _ _)) | (go_at_call 29; exact Calls.over _ (iRectUnion _ _ _ _ _ _ _ _ _))))); refine wpQuiet_nil ?_; intro bn wx hb1 hb2 hB; clear hov hW; have hb3 := hb2; simp only [List.mem_cons, List.not_mem_nil, or_false, forall_eq_or_imp, forall_eq, World.size_alloc, ne_eq] at hb3; have hb4 := hb3; simp only [@eq_comm Nat _ bn] at hb4; have hR := hB.rules; simp only [Rules, World.size_alloc, Nat.add_one_le_iff, List.setIfInBounds_toArray, List.set_cons_zero, List.set_cons_succ] at hR; simp only [Act.put, List.setIfInBounds_toArray, List.set_cons_zero, List.set_cons_succ]
    go_wp2
    (with_reducible refine wp_region_known ((((hB.set1 hb1 hb2).set1 hb1 hb2).set1 hb1 hb2).set1 hb1 hb2) ?hm ?hB ?_); (case hm => kernel_rfl); (case hB => kernel_rfl); (try clear hR); intro hov; simp only [Rules, World.size_alloc, Nat.add_one_le_iff, List.setIfInBounds_toArray, List.set_cons_zero, List.set_cons_succ] at hov; (repeat (go_big_quiet_step (first | (go_at_call 23; exact Calls.overB (by assumption) (iPointIn _ _ _ _ _ _ _)) | (go_at_call 23; exact Calls.over _ (iPointIn _ _ _ _ _ _ _))))); refine wpQuiet_nil ?_; intro wx hB; clear hov; have hR := hB.rules; simp only [Rules, World.size_alloc, Nat.add_one_le_iff, List.setIfInBounds_toArray, List.set_cons_zero, List.set_cons_succ] at hR
    rcases g0 with g0 | ⟨g0, g0'⟩ <;> rcases g1 with g1 | ⟨g1, g1'⟩ <;> rcases g2 with g2 | ⟨g2, g2'⟩ <;> rcases g3 with g3 | ⟨g3, g3'⟩
    all_goals
      go_wp2_with (first | (go_at_call 24; refine (iRectIn _ _ _ _ _ _ _ _ _).mono ?_; rintro e w1 ⟨rfl, hn⟩; (first | with_reducible replace hB := (hB).keep hn | with_reducible replace hB := (hB.alloc).keep hn | with_reducible replace hB := (hB.alloc.alloc).keep hn | with_reducible replace hB := (hB.alloc.alloc.alloc).keep hn | with_reducible replace hB := (hB.alloc.alloc.alloc.alloc).keep hn | with_reducible replace hB := (hB.alloc.alloc.alloc.alloc.alloc).keep hn | with_reducible replace hB := (hB.alloc.alloc.alloc.alloc.alloc.alloc).keep hn | with_reducible replace hB := (((hB.set1 hb1 hb2).set1 hb1 hb2)).keep hn | with_reducible replace hB := (((((hB.set1 hb1 hb2).set1 hb1 hb2).set1 hb1 hb2).set1 hb1 hb2)).keep hn); clear hn; (try clear hR); have hR := hB.rules; simp only [Rules, World.size_alloc, Nat.add_one_le_iff, List.setIfInBounds_toArray, List.set_cons_zero, List.set_cons_succ] at hR))
      all_goals
        refine bodyPost_ret (results_tmp rfl _ _ _) rfl ?_
        refine ⟨ret_true ?_, ?_⟩
        · first | rfl | (simp [*]; done)
        · repeat (first | exact ext_refl _ | exact hB.below | apply ext_alloc | apply ext_drew | (refine ext_set ?_ ?_; · first | (dsimp only; omega) | (simp; omega) | (simp; done)))

theorem lifted (os : Os) (started : os.Started) (H : Type) (enc : TypeId × Value → H) :
    ReturnsInHanded {} Try.checked os 7 .any (Rows.fnUnionWithPointSpec.pre6 enc Try.prog Try.f7 Rows.fnUnionWithPointRow.domain false) (Rows.fnUnionWithPointSpec.post enc Try.prog Try.f7 false true false false) := by
  refine returnsInHanded_of_change (C := Try.checked) own started (by kernel_rfl) Try.func7
    (ChangeSpec.witness6 (enc := enc) (C := Try.checked) false ⟨#[], #[.agg #[.int .i64 0, .int .i64 0], .agg #[.int .i64 0, .int .i64 0, .int .i64 0, .int .i64 0]], []⟩ 8 (by kernel_rfl) (by kernel_rfl) (by kernel_rfl) (by kernel_rfl)) ?_
  intro W base args ds gs before hval0 hW hcnd _
  have hval : ∀ (j : Nat) t v, Try.f7.params[j]? = some t → args[j]? = some v → Value.okWide Try.prog W .any base t v := hval0
  have hW' := hW
  obtain ⟨p, q, hA0, hV, rfl, hfz, hnd⟩ := hW
  have hA : DataW.TrodAll enc Try.prog W 0 (fun _ => true) true Try.f7.params.toList args.toList ds p := hA0
  rw [Try.params7] at hA hval
  obtain ⟨v0, vs0, d0, ds0, p0, q0, hargs, rfl, rfl, h0, r0⟩ := trodAll_cons hA
  obtain ⟨v1, vs1, d1, ds1, p1, q1, rfl, rfl, rfl, h1, r1⟩ := trodAll_cons r0
  obtain ⟨rfl, rfl, rfl⟩ := trodAll_nil r1
  obtain rfl : args = #[v0, v1] := by cases args; simp_all
  obtain ⟨rfl, rfl⟩ := trodVars_none hV
  obtain ⟨xa0, xa1, rfl, rfl, rfl, wxa0, wxa1⟩ := open_arr2 Try.underlying23 Try.underlying2 (by kernel_rfl) (by kernel_rfl) (hval 0 23 v0 rfl rfl) h0
  obtain ⟨xr0, xr1, xr2, xr3, rfl, rfl, rfl, wxr0, wxr1, wxr2, wxr3⟩ := open_arr4 Try.underlying22 Try.underlying2 (by kernel_rfl) (by kernel_rfl) (hval 1 22 v1 rfl rfl) h1
  clear hA0 hval0
  refine (walk xa0 xa1 xr0 xr1 xr2 xr3 (bounds_i64 wxa0) (bounds_i64 wxa1) (bounds_i64 wxr0) (bounds_i64 wxr1) (bounds_i64 wxr2) (bounds_i64 wxr3) W).mono fun e W' ⟨he, bel⟩ => ?_
  subst he
  exact ⟨_, rfl, _, _, _, [], _, [], hW', trodAll_mk1 (shut_bool Try.underlying4 _), (trodAll_cons_mk (shut_arr2 Try.underlying23 Try.underlying2 (by kernel_rfl) (by kernel_rfl) wxa0 wxa1) (trodAll_cons_mk (shut_arr4 Try.underlying22 Try.underlying2 (by kernel_rfl) (by kernel_rfl) wxr0 wxr1 wxr2 wxr3) trodAll_mk0)), rfl, bel.frame _, fun h => by cases h⟩

/-- THE STATEMENT. -/
theorem proved : Rows.FnUnionWithPointSaid :=
  OpenClaim.holds_of_wide 7 Try.f7 rfl rfl rfl rfl rfl rfl rfl ⟨rfl, rfl, rfl, rfl, rfl⟩ rfl rfl rfl rfl rfl (by kernel_rfl) Try.func7 (by kernel_rfl)
    (of_decide_eq_true (by kernel_rfl)) (by unfold Func.isWrapper; first | (rw [if_pos (by decide +kernel)]; kernel_rfl) | (rw [if_neg (by decide +kernel)]; exact ⟨rfl, rfl⟩))
    (fun os started H enc _ => lifted os started H enc)
#print axioms proved
end Go.Proofs.Ytakfghkbdijbiaa.fnUnionWithPoint
