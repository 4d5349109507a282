/-
  Proved: the statement Rows.FnInRoadsSaid: One rectangle lies in another one just if the intersection is the first one, and just if the union is the other one, as sets of points.
  Conditions: none: for every input.
-/
import Derived.Test.YtakfghkbdijbiaaSpec
import Derived.Test.YtakfghkbdijbiaaSets
import Derived.Test.YtakfghkbdijbiaaRow
namespace Go.Proofs.Ytakfghkbdijbiaa.fnInRoads
open Go.ChangeShapes Go.WideShapes Go.ChangeAt Go.RowKit
set_option linter.unusedSimpArgs false
set_option linter.unusedVariables false
set_option maxHeartbeats 2000000
set_option maxRecDepth 100000

/-- A call that answers a Bool, of which it is known what it is. -/
theorem Calls.overB {P : Program} {f : FuncId} {args : Array Value} {w : World} {x b : Bool} {y : Over w} (hx : x = b) (h : Calls P f args y.wd (Gives (.bool x) y.wd)) :
    Calls P f args y.wd fun e w'' => e = .returned (.bool b) ∧ ∃ z : Over w, w'' = z.wd := by subst hx; exact Calls.over _ h

theorem byI (r0 r1 r2 r3 t0 t1 t2 t3 : Int) : reqB (isect r0 r1 r2 r3 t0 t1 t2 t3).a (isect r0 r1 r2 r3 t0 t1 t2 t3).b (isect r0 r1 r2 r3 t0 t1 t2 t3).c (isect r0 r1 r2 r3 t0 t1 t2 t3).d r0 r1 r2 r3 = rinB r0 r1 r2 r3 t0 t1 t2 t3 := by
  apply bool_eq
  rw [reqB_iff, rinB_iff]
  rcases isect_cases r0 r1 r2 r3 t0 t1 t2 t3 with ⟨h1, e1⟩ | ⟨h1, e1⟩ <;> simp only [e1] <;> omega
theorem byU (r0 r1 r2 r3 t0 t1 t2 t3 : Int) : reqB (union r0 r1 r2 r3 t0 t1 t2 t3).a (union r0 r1 r2 r3 t0 t1 t2 t3).b (union r0 r1 r2 r3 t0 t1 t2 t3).c (union r0 r1 r2 r3 t0 t1 t2 t3).d t0 t1 t2 t3 = rinB r0 r1 r2 r3 t0 t1 t2 t3 := by
  apply bool_eq
  rw [reqB_iff, rinB_iff]
  rcases union_cases r0 r1 r2 r3 t0 t1 t2 t3 with ⟨h1, e1⟩ | ⟨h1, h2, e1⟩ | ⟨h1, h2, e1⟩ <;> simp only [e1] <;> first | omega | (simp; omega)
theorem self (a b c d : Int) : rinB a b c d a b c d = true := by rw [rinB_iff]; omega

theorem walk (r0 r1 r2 r3 : Int) (t0 t1 t2 t3 : Int) (or0 : Ok r0) (or1 : Ok r1) (or2 : Ok r2) (or3 : Ok r3) (ot0 : Ok t0) (ot1 : Ok t1) (ot2 : Ok t2) (ot3 : Ok t3) (w : World) :
    Calls Try.prog 8 #[.agg #[.int .i64 r0, .int .i64 r1, .int .i64 r2, .int .i64 r3], .agg #[.int .i64 t0, .int .i64 t1, .int .i64 t2, .int .i64 t3]] w (Gives (.bool true) w) := by
  have e1 := byI r0 r1 r2 r3 t0 t1 t2 t3
  have e2 := byU r0 r1 r2 r3 t0 t1 t2 t3
  have e3 := self r0 r1 r2 r3
  cases h : rinB r0 r1 r2 r3 t0 t1 t2 t3
  all_goals
    rw [h] at e1 e2
    have hB := Known.start w
    go_enter Try.func8, Try.ntmps8
    go_wp2_with (first | (go_at_call 24; refine (iRectIn _ _ _ _ _ _ _ _ _).mono ?_; rintro e w1 ⟨rfl, hn⟩; (first | with_reducible replace hB := (hB).keep hn | with_reducible replace hB := (hB.alloc).keep hn | with_reducible replace hB := (hB.alloc.alloc).keep hn | with_reducible replace hB := (hB.alloc.alloc.alloc).keep hn | with_reducible replace hB := (hB.alloc.alloc.alloc.alloc).keep hn | with_reducible replace hB := (hB.alloc.alloc.alloc.alloc.alloc).keep hn | with_reducible replace hB := (hB.alloc.alloc.alloc.alloc.alloc.alloc).keep hn | with_reducible replace hB := (((hB.set1 hb1 hb2).set1 hb1 hb2)).keep hn | with_reducible replace hB := (((((hB.set1 hb1 hb2).set1 hb1 hb2).set1 hb1 hb2).set1 hb1 hb2)).keep hn); clear hn; (try clear hR); have hR := hB.rules; simp only [Rules, World.size_alloc, Nat.add_one_le_iff, List.setIfInBounds_toArray, List.set_cons_zero, List.set_cons_succ] at hR))
    (first | with_reducible refine wp_region_known hB ?hm ?hB ?_ | with_reducible refine wp_region_known hB.alloc ?hm ?hB ?_ | with_reducible refine wp_region_known hB.alloc.alloc ?hm ?hB ?_ | with_reducible refine wp_region_known hB.alloc.alloc.alloc ?hm ?hB ?_ | with_reducible refine wp_region_known hB.alloc.alloc.alloc.alloc ?hm ?hB ?_ | with_reducible refine wp_region_known hB.alloc.alloc.alloc.alloc.alloc ?hm ?hB ?_ | with_reducible refine wp_region_known hB.alloc.alloc.alloc.alloc.alloc.alloc ?hm ?hB ?_); (case hm => kernel_rfl); (case hB => kernel_rfl); (try clear hR); intro hov; simp only [Rules, World.size_alloc, Nat.add_one_le_iff, List.setIfInBounds_toArray, List.set_cons_zero, List.set_cons_succ] at hov; (repeat (go_big_quiet_step (first | (go_at_call 31; exact Calls.over _ (iRectIntersect _ _ _ _ _ _ _ _ _)) | (go_at_call 29; exact Calls.over _ (iRectUnion _ _ _ _ _ _ _ _ _)) | (go_at_call 30; exact Calls.overB (by assumption) (iRectEq _ _ _ _ _ _ _ _ _)) | (go_at_call 30; exact Calls.over _ (iRectEq _ _ _ _ _ _ _ _ _)) | (go_at_call 24; exact Calls.overB (by assumption) (iRectIn _ _ _ _ _ _ _ _ _)) | (go_at_call 24; exact Calls.over _ (iRectIn _ _ _ _ _ _ _ _ _))))); refine wpQuiet_nil ?_; intro wx hB; clear hov; have hR := hB.rules; simp only [Rules, World.size_alloc, Nat.add_one_le_iff, List.setIfInBounds_toArray, List.set_cons_zero, List.set_cons_succ] at hR
    go_wp2
    all_goals
      refine bodyPost_ret (results_tmp rfl _ _ _) rfl ?_
      refine ⟨ret_true ?_, ?_⟩
      · first | rfl | (simp [*]; done)
      · repeat (first | exact ext_refl _ | exact hB.below | apply ext_alloc | apply ext_drew | (refine ext_set ?_ ?_; · first | (dsimp only; omega) | (simp; omega) | (simp; done)))

theorem lifted (os : Os) (started : os.Started) (H : Type) (enc : TypeId × Value → H) :
    ReturnsInHanded {} Try.checked os 8 .any (Rows.fnInRoadsSpec.pre6 enc Try.prog Try.f8 Rows.fnInRoadsRow.domain false) (Rows.fnInRoadsSpec.post enc Try.prog Try.f8 false true false false) := by
  refine returnsInHanded_of_change (C := Try.checked) own started (by kernel_rfl) Try.func8
    (ChangeSpec.witness6 (enc := enc) (C := Try.checked) false ⟨#[], #[.agg #[.int .i64 0, .int .i64 0, .int .i64 0, .int .i64 0], .agg #[.int .i64 0, .int .i64 0, .int .i64 0, .int .i64 0]], []⟩ 8 (by kernel_rfl) (by kernel_rfl) (by kernel_rfl) (by kernel_rfl)) ?_
  intro W base args ds gs before hval0 hW hcnd _
  have hval : ∀ (j : Nat) t v, Try.f8.params[j]? = some t → args[j]? = some v → Value.okWide Try.prog W .any base t v := hval0
  have hW' := hW
  obtain ⟨p, q, hA0, hV, rfl, hfz, hnd⟩ := hW
  have hA : DataW.TrodAll enc Try.prog W 0 (fun _ => true) true Try.f8.params.toList args.toList ds p := hA0
  rw [Try.params8] at hA hval
  obtain ⟨v0, vs0, d0, ds0, p0, q0, hargs, rfl, rfl, h0, r0⟩ := trodAll_cons hA
  obtain ⟨v1, vs1, d1, ds1, p1, q1, rfl, rfl, rfl, h1, r1⟩ := trodAll_cons r0
  obtain ⟨rfl, rfl, rfl⟩ := trodAll_nil r1
  obtain rfl : args = #[v0, v1] := by cases args; simp_all
  obtain ⟨rfl, rfl⟩ := trodVars_none hV
  obtain ⟨xr0, xr1, xr2, xr3, rfl, rfl, rfl, wxr0, wxr1, wxr2, wxr3⟩ := open_arr4 Try.underlying22 Try.underlying2 (by kernel_rfl) (by kernel_rfl) (hval 0 22 v0 rfl rfl) h0
  obtain ⟨xt0, xt1, xt2, xt3, rfl, rfl, rfl, wxt0, wxt1, wxt2, wxt3⟩ := open_arr4 Try.underlying22 Try.underlying2 (by kernel_rfl) (by kernel_rfl) (hval 1 22 v1 rfl rfl) h1
  clear hA0 hval0
  refine (walk xr0 xr1 xr2 xr3 xt0 xt1 xt2 xt3 (bounds_i64 wxr0) (bounds_i64 wxr1) (bounds_i64 wxr2) (bounds_i64 wxr3) (bounds_i64 wxt0) (bounds_i64 wxt1) (bounds_i64 wxt2) (bounds_i64 wxt3) W).mono fun e W' ⟨he, bel⟩ => ?_
  subst he
  exact ⟨_, rfl, _, _, _, [], _, [], hW', trodAll_mk1 (shut_bool Try.underlying4 _), (trodAll_cons_mk (shut_arr4 Try.underlying22 Try.underlying2 (by kernel_rfl) (by kernel_rfl) wxr0 wxr1 wxr2 wxr3) (trodAll_cons_mk (shut_arr4 Try.underlying22 Try.underlying2 (by kernel_rfl) (by kernel_rfl) wxt0 wxt1 wxt2 wxt3) trodAll_mk0)), rfl, bel.frame _, fun h => by cases h⟩

/-- THE STATEMENT. -/
theorem proved : Rows.FnInRoadsSaid :=
  OpenClaim.holds_of_wide 8 Try.f8 rfl rfl rfl rfl rfl rfl rfl ⟨rfl, rfl, rfl, rfl, rfl⟩ rfl rfl rfl rfl rfl (by kernel_rfl) Try.func8 (by kernel_rfl)
    (of_decide_eq_true (by kernel_rfl)) (by unfold Func.isWrapper; first | (rw [if_pos (by decide +kernel)]; kernel_rfl) | (rw [if_neg (by decide +kernel)]; exact ⟨rfl, rfl⟩))
    (fun os started H enc _ => lifted os started H enc)
#print axioms proved
end Go.Proofs.Ytakfghkbdijbiaa.fnInRoads
