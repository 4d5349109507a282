/-
  Proved: the statement Rows.FnMoreUnionSaid: Where a rectangle lies in another one, its intersection and its union with a third one lie in those of the other one.
  Conditions: none: for every input.
-/
import Derived.Test.YtakfghkbdijbiaaSpec
import Derived.Test.YtakfghkbdijbiaaSets
import Derived.Test.YtakfghkbdijbiaaArith
import Derived.Test.YtakfghkbdijbiaaRow
namespace Go.Proofs.Ytakfghkbdijbiaa.fnMoreUnion
open Go.ChangeShapes Go.WideShapes Go.ChangeAt Go.RowKit
set_option linter.unusedSimpArgs false
set_option linter.unusedVariables false
set_option maxHeartbeats 2000000
set_option maxRecDepth 100000

/-- A call that answers a Bool, of which it is known what it is. -/
theorem Calls.overB {P : Program} {f : FuncId} {args : Array Value} {w : World} {x b : Bool} {y : Over w} (hx : x = b) (h : Calls P f args y.wd (Gives (.bool x) y.wd)) :
    Calls P f args y.wd fun e w'' => e = .returned (.bool b) ∧ ∃ z : Over w, w'' = z.wd := by subst hx; exact Calls.over _ h

theorem sin {a b c d : Int} (e f g h : Int) (oa : Ok a) (ob : Ok b) (oc : Ok c) (od : Ok d) : sinB a b c d e f g h = rinB a b c d e f g h := by
  unfold sinB
  cases hE : emptyB a b c d with
  | true => simp [rinB, hE]
  | false =>
    rw [emptyB_not] at hE
    unfold Ok at *
    rw [wrap_in (x := c - 1) (by omega) (by omega), wrap_in (x := d - 1) (by omega) (by omega)]
    apply bool_eq
    simp only [Bool.false_or, Bool.and_eq_true, inB_iff, rinB_iff]
    omega
theorem inI (r0 r1 r2 r3 t0 t1 t2 t3 u0 u1 u2 u3 : Int) (h : rinB r0 r1 r2 r3 t0 t1 t2 t3 = true) : rinB (isect r0 r1 r2 r3 u0 u1 u2 u3).a (isect r0 r1 r2 r3 u0 u1 u2 u3).b (isect r0 r1 r2 r3 u0 u1 u2 u3).c (isect r0 r1 r2 r3 u0 u1 u2 u3).d (isect t0 t1 t2 t3 u0 u1 u2 u3).a (isect t0 t1 t2 t3 u0 u1 u2 u3).b (isect t0 t1 t2 t3 u0 u1 u2 u3).c (isect t0 t1 t2 t3 u0 u1 u2 u3).d = true := by
  rw [rinB_iff] at h ⊢
  rcases isect_cases r0 r1 r2 r3 u0 u1 u2 u3 with ⟨h1, e1⟩ | ⟨h1, e1⟩ <;> simp only [e1]
  · omega
  · rcases isect_cases t0 t1 t2 t3 u0 u1 u2 u3 with ⟨h2, e2⟩ | ⟨h2, e2⟩ <;> simp only [e2] <;> omega
theorem inU (r0 r1 r2 r3 t0 t1 t2 t3 u0 u1 u2 u3 : Int) (h : rinB r0 r1 r2 r3 t0 t1 t2 t3 = true) : rinB (union r0 r1 r2 r3 u0 u1 u2 u3).a (union r0 r1 r2 r3 u0 u1 u2 u3).b (union r0 r1 r2 r3 u0 u1 u2 u3).c (union r0 r1 r2 r3 u0 u1 u2 u3).d (union t0 t1 t2 t3 u0 u1 u2 u3).a (union t0 t1 t2 t3 u0 u1 u2 u3).b (union t0 t1 t2 t3 u0 u1 u2 u3).c (union t0 t1 t2 t3 u0 u1 u2 u3).d = true := by
  rw [rinB_iff] at h ⊢
  rcases union_cases r0 r1 r2 r3 u0 u1 u2 u3 with ⟨h1, e1⟩ | ⟨h1, h2, e1⟩ | ⟨h1, h2, e1⟩ <;> simp only [e1] <;>
    rcases union_cases t0 t1 t2 t3 u0 u1 u2 u3 with ⟨h3, e2⟩ | ⟨h3, h4, e2⟩ | ⟨h3, h4, e2⟩ <;> simp only [e2] <;> omega
theorem inO (r0 r1 r2 r3 t0 t1 t2 t3 u0 u1 u2 u3 : Int) (h : rinB r0 r1 r2 r3 t0 t1 t2 t3 = true) (h2 : overB r0 r1 r2 r3 u0 u1 u2 u3 = true) : overB t0 t1 t2 t3 u0 u1 u2 u3 = true := by
  rw [rinB_iff] at h
  rw [overB_iff] at h2 ⊢
  omega

theorem walk (r0 r1 r2 r3 : Int) (t0 t1 t2 t3 : Int) (u0 u1 u2 u3 : Int) (or0 : Ok r0) (or1 : Ok r1) (or2 : Ok r2) (or3 : Ok r3) (ot0 : Ok t0) (ot1 : Ok t1) (ot2 : Ok t2) (ot3 : Ok t3) (ou0 : Ok u0) (ou1 : Ok u1) (ou2 : Ok u2) (ou3 : Ok u3) (w : World) :
    Calls Try.prog 9 #[.agg #[.int .i64 r0, .int .i64 r1, .int .i64 r2, .int .i64 r3], .agg #[.int .i64 t0, .int .i64 t1, .int .i64 t2, .int .i64 t3], .agg #[.int .i64 u0, .int .i64 u1, .int .i64 u2, .int .i64 u3]] w (Gives (.bool true) w) := by
  cases h1 : sinB r0 r1 r2 r3 t0 t1 t2 t3
  · skip
    have hB := Known.start w
    go_enter Try.func9, Try.ntmps9
    go_wp2_with (first | (go_at_call 32; refine (sRectIn _ _ _ _ _ _ _ _ _).mono ?_; rintro e w1 ⟨rfl, hn⟩; (first | with_reducible replace hB := (hB).keep hn | with_reducible replace hB := (hB.alloc).keep hn | with_reducible replace hB := (hB.alloc.alloc).keep hn | with_reducible replace hB := (hB.alloc.alloc.alloc).keep hn | with_reducible replace hB := (hB.alloc.alloc.alloc.alloc).keep hn | with_reducible replace hB := (hB.alloc.alloc.alloc.alloc.alloc).keep hn | with_reducible replace hB := (hB.alloc.alloc.alloc.alloc.alloc.alloc).keep hn | with_reducible replace hB := (((hB.set1 hb1 hb2).set1 hb1 hb2)).keep hn | with_reducible replace hB := (((((hB.set1 hb1 hb2).set1 hb1 hb2).set1 hb1 hb2).set1 hb1 hb2)).keep hn); clear hn; (try clear hR); have hR := hB.rules; simp only [Rules, World.size_alloc, Nat.add_one_le_iff, List.setIfInBounds_toArray, List.set_cons_zero, List.set_cons_succ] at hR))
    all_goals
      refine bodyPost_ret (results_tmp rfl _ _ _) rfl ?_
      refine ⟨ret_true ?_, ?_⟩
      · rfl
      · repeat (first | exact ext_refl _ | exact hB.below | apply ext_alloc | apply ext_drew | (refine ext_set ?_ ?_; · first | (dsimp only; omega) | (simp; omega) | (simp; done)))
  have k := h1
  rw [sin t0 t1 t2 t3 or0 or1 or2 or3] at k
  have e1 := inI r0 r1 r2 r3 t0 t1 t2 t3 u0 u1 u2 u3 k
  have e2 := inU r0 r1 r2 r3 t0 t1 t2 t3 u0 u1 u2 u3 k
  have e3 := inO r0 r1 r2 r3 t0 t1 t2 t3 u0 u1 u2 u3 k
  clear k
  cases h2 : overB r0 r1 r2 r3 u0 u1 u2 u3
  · clear e3
    have hB := Known.start w
    go_enter Try.func9, Try.ntmps9
    go_wp2_with (first | (go_at_call 32; refine (sRectIn _ _ _ _ _ _ _ _ _).mono ?_; rintro e w1 ⟨rfl, hn⟩; (first | with_reducible replace hB := (hB).keep hn | with_reducible replace hB := (hB.alloc).keep hn | with_reducible replace hB := (hB.alloc.alloc).keep hn | with_reducible replace hB := (hB.alloc.alloc.alloc).keep hn | with_reducible replace hB := (hB.alloc.alloc.alloc.alloc).keep hn | with_reducible replace hB := (hB.alloc.alloc.alloc.alloc.alloc).keep hn | with_reducible replace hB := (hB.alloc.alloc.alloc.alloc.alloc.alloc).keep hn | with_reducible replace hB := (((hB.set1 hb1 hb2).set1 hb1 hb2)).keep hn | with_reducible replace hB := (((((hB.set1 hb1 hb2).set1 hb1 hb2).set1 hb1 hb2).set1 hb1 hb2)).keep hn); clear hn; (try clear hR); have hR := hB.rules; simp only [Rules, World.size_alloc, Nat.add_one_le_iff, List.setIfInBounds_toArray, List.set_cons_zero, List.set_cons_succ] at hR))
    (first | with_reducible refine wp_region_known hB ?hm ?hB ?_ | with_reducible refine wp_region_known hB.alloc ?hm ?hB ?_ | with_reducible refine wp_region_known hB.alloc.alloc ?hm ?hB ?_ | with_reducible refine wp_region_known hB.alloc.alloc.alloc ?hm ?hB ?_ | with_reducible refine wp_region_known hB.alloc.alloc.alloc.alloc ?hm ?hB ?_ | with_reducible refine wp_region_known hB.alloc.alloc.alloc.alloc.alloc ?hm ?hB ?_ | with_reducible refine wp_region_known hB.alloc.alloc.alloc.alloc.alloc.alloc ?hm ?hB ?_); (case hm => kernel_rfl); (case hB => kernel_rfl); (try clear hR); intro hov; simp only [Rules, World.size_alloc, Nat.add_one_le_iff, List.setIfInBounds_toArray, List.set_cons_zero, List.set_cons_succ] at hov; (repeat (go_big_quiet_step (first | (go_at_call 31; exact Calls.over _ (iRectIntersect _ _ _ _ _ _ _ _ _)) | (go_at_call 29; exact Calls.over _ (iRectUnion _ _ _ _ _ _ _ _ _)) | (go_at_call 24; exact Calls.overB (by assumption) (iRectIn _ _ _ _ _ _ _ _ _)) | (go_at_call 24; exact Calls.over _ (iRectIn _ _ _ _ _ _ _ _ _)) | (go_at_call 25; exact Calls.overB (by assumption) (iRectOverlaps _ _ _ _ _ _ _ _ _)) | (go_at_call 25; exact Calls.over _ (iRectOverlaps _ _ _ _ _ _ _ _ _))))); refine wpQuiet_nil ?_; intro wx hB; clear hov; have hR := hB.rules; simp only [Rules, World.size_alloc, Nat.add_one_le_iff, List.setIfInBounds_toArray, List.set_cons_zero, List.set_cons_succ] at hR
    go_wp2
    all_goals
      refine bodyPost_ret (results_tmp rfl _ _ _) rfl ?_
      refine ⟨ret_true ?_, ?_⟩
      · first | rfl | (simp [*]; done)
      · repeat (first | exact ext_refl _ | exact hB.below | apply ext_alloc | apply ext_drew | (refine ext_set ?_ ?_; · first | (dsimp only; omega) | (simp; omega) | (simp; done)))
  have e4 := e3 h2
  clear e3
  have hB := Known.start w
  go_enter Try.func9, Try.ntmps9
  go_wp2_with (first | (go_at_call 32; refine (sRectIn _ _ _ _ _ _ _ _ _).mono ?_; rintro e w1 ⟨rfl, hn⟩; (first | with_reducible replace hB := (hB).keep hn | with_reducible replace hB := (hB.alloc).keep hn | with_reducible replace hB := (hB.alloc.alloc).keep hn | with_reducible replace hB := (hB.alloc.alloc.alloc).keep hn | with_reducible replace hB := (hB.alloc.alloc.alloc.alloc).keep hn | with_reducible replace hB := (hB.alloc.alloc.alloc.alloc.alloc).keep hn | with_reducible replace hB := (hB.alloc.alloc.alloc.alloc.alloc.alloc).keep hn | with_reducible replace hB := (((hB.set1 hb1 hb2).set1 hb1 hb2)).keep hn | with_reducible replace hB := (((((hB.set1 hb1 hb2).set1 hb1 hb2).set1 hb1 hb2).set1 hb1 hb2)).keep hn); clear hn; (try clear hR); have hR := hB.rules; simp only [Rules, World.size_alloc, Nat.add_one_le_iff, List.setIfInBounds_toArray, List.set_cons_zero, List.set_cons_succ] at hR))
  (first | with_reducible refine wp_region_known hB ?hm ?hB ?_ | with_reducible refine wp_region_known hB.alloc ?hm ?hB ?_ | with_reducible refine wp_region_known hB.alloc.alloc ?hm ?hB ?_ | with_reducible refine wp_region_known hB.alloc.alloc.alloc ?hm ?hB ?_ | with_reducible refine wp_region_known hB.alloc.alloc.alloc.alloc ?hm ?hB ?_ | with_reducible refine wp_region_known hB.alloc.alloc.alloc.alloc.alloc ?hm ?hB ?_ | with_reducible refine wp_region_known hB.alloc.alloc.alloc.alloc.alloc.alloc ?hm ?hB ?_); (case hm => kernel_rfl); (case hB => kernel_rfl); (try clear hR); intro hov; simp only [Rules, World.size_alloc, Nat.add_one_le_iff, List.setIfInBounds_toArray, List.set_cons_zero, List.set_cons_succ] at hov; (repeat (go_big_quiet_step (first | (go_at_call 31; exact Calls.over _ (iRectIntersect _ _ _ _ _ _ _ _ _)) | (go_at_call 29; exact Calls.over _ (iRectUnion _ _ _ _ _ _ _ _ _)) | (go_at_call 24; exact Calls.overB (by assumption) (iRectIn _ _ _ _ _ _ _ _ _)) | (go_at_call 24; exact Calls.over _ (iRectIn _ _ _ _ _ _ _ _ _)) | (go_at_call 25; exact Calls.overB (by assumption) (iRectOverlaps _ _ _ _ _ _ _ _ _)) | (go_at_call 25; exact Calls.over _ (iRectOverlaps _ _ _ _ _ _ _ _ _))))); refine wpQuiet_nil ?_; intro wx hB; clear hov; have hR := hB.rules; simp only [Rules, World.size_alloc, Nat.add_one_le_iff, List.setIfInBounds_toArray, List.set_cons_zero, List.set_cons_succ] at hR
  go_wp2
  all_goals
    refine bodyPost_ret (results_tmp rfl _ _ _) rfl ?_
    refine ⟨ret_true ?_, ?_⟩
    · first | rfl | (simp [*]; done)
    · repeat (first | exact ext_refl _ | exact hB.below | apply ext_alloc | apply ext_drew | (refine ext_set ?_ ?_; · first | (dsimp only; omega) | (simp; omega) | (simp; done)))

theorem lifted (os : Os) (started : os.Started) (H : Type) (enc : TypeId × Value → H) :
    ReturnsInHanded {} Try.checked os 9 .any (Rows.fnMoreUnionSpec.pre6 enc Try.prog Try.f9 Rows.fnMoreUnionRow.domain false) (Rows.fnMoreUnionSpec.post enc Try.prog Try.f9 false true false false) := by
  refine returnsInHanded_of_change (C := Try.checked) own started (by kernel_rfl) Try.func9
    (ChangeSpec.witness6 (enc := enc) (C := Try.checked) false ⟨#[], #[.agg #[.int .i64 0, .int .i64 0, .int .i64 0, .int .i64 0], .agg #[.int .i64 0, .int .i64 0, .int .i64 0, .int .i64 0], .agg #[.int .i64 0, .int .i64 0, .int .i64 0, .int .i64 0]], []⟩ 8 (by kernel_rfl) (by kernel_rfl) (by kernel_rfl) (by kernel_rfl)) ?_
  intro W base args ds gs before hval0 hW hcnd _
  have hval : ∀ (j : Nat) t v, Try.f9.params[j]? = some t → args[j]? = some v → Value.okWide Try.prog W .any base t v := hval0
  have hW' := hW
  obtain ⟨p, q, hA0, hV, rfl, hfz, hnd⟩ := hW
  have hA : DataW.TrodAll enc Try.prog W 0 (fun _ => true) true Try.f9.params.toList args.toList ds p := hA0
  rw [Try.params9] at hA hval
  obtain ⟨v0, vs0, d0, ds0, p0, q0, hargs, rfl, rfl, h0, r0⟩ := trodAll_cons hA
  obtain ⟨v1, vs1, d1, ds1, p1, q1, rfl, rfl, rfl, h1, r1⟩ := trodAll_cons r0
  obtain ⟨v2, vs2, d2, ds2, p2, q2, rfl, rfl, rfl, h2, r2⟩ := trodAll_cons r1
  obtain ⟨rfl, rfl, rfl⟩ := trodAll_nil r2
  obtain rfl : args = #[v0, v1, v2] := by cases args; simp_all
  obtain ⟨rfl, rfl⟩ := trodVars_none hV
  obtain ⟨xr0, xr1, xr2, xr3, rfl, rfl, rfl, wxr0, wxr1, wxr2, wxr3⟩ := open_arr4 Try.underlying22 Try.underlying2 (by kernel_rfl) (by kernel_rfl) (hval 0 22 v0 rfl rfl) h0
  obtain ⟨xt0, xt1, xt2, xt3, rfl, rfl, rfl, wxt0, wxt1, wxt2, wxt3⟩ := open_arr4 Try.underlying22 Try.underlying2 (by kernel_rfl) (by kernel_rfl) (hval 1 22 v1 rfl rfl) h1
  obtain ⟨xu0, xu1, xu2, xu3, rfl, rfl, rfl, wxu0, wxu1, wxu2, wxu3⟩ := open_arr4 Try.underlying22 Try.underlying2 (by kernel_rfl) (by kernel_rfl) (hval 2 22 v2 rfl rfl) h2
  clear hA0 hval0
  refine (walk xr0 xr1 xr2 xr3 xt0 xt1 xt2 xt3 xu0 xu1 xu2 xu3 (bounds_i64 wxr0) (bounds_i64 wxr1) (bounds_i64 wxr2) (bounds_i64 wxr3) (bounds_i64 wxt0) (bounds_i64 wxt1) (bounds_i64 wxt2) (bounds_i64 wxt3) (bounds_i64 wxu0) (bounds_i64 wxu1) (bounds_i64 wxu2) (bounds_i64 wxu3) W).mono fun e W' ⟨he, bel⟩ => ?_
  subst he
  exact ⟨_, rfl, _, _, _, [], _, [], hW', trodAll_mk1 (shut_bool Try.underlying4 _), (trodAll_cons_mk (shut_arr4 Try.underlying22 Try.underlying2 (by kernel_rfl) (by kernel_rfl) wxr0 wxr1 wxr2 wxr3) (trodAll_cons_mk (shut_arr4 Try.underlying22 Try.underlying2 (by kernel_rfl) (by kernel_rfl) wxt0 wxt1 wxt2 wxt3) (trodAll_cons_mk (shut_arr4 Try.underlying22 Try.underlying2 (by kernel_rfl) (by kernel_rfl) wxu0 wxu1 wxu2 wxu3) trodAll_mk0))), rfl, bel.frame _, fun h => by cases h⟩

/-- THE STATEMENT. -/
theorem proved : Rows.FnMoreUnionSaid :=
  OpenClaim.holds_of_wide 9 Try.f9 rfl rfl rfl rfl rfl rfl rfl ⟨rfl, rfl, rfl, rfl, rfl⟩ rfl rfl rfl rfl rfl (by kernel_rfl) Try.func9 (by kernel_rfl)
    (of_decide_eq_true (by kernel_rfl)) (by unfold Func.isWrapper; first | (rw [if_pos (by decide +kernel)]; kernel_rfl) | (rw [if_neg (by decide +kernel)]; exact ⟨rfl, rfl⟩))
    (fun os started H enc _ => lifted os started H enc)
#print axioms proved
end Go.Proofs.Ytakfghkbdijbiaa.fnMoreUnion
