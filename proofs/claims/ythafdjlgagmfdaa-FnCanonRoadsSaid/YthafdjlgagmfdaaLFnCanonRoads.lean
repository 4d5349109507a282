/-
  Proved: the statement Rows.FnCanonRoadsSaid: Rect of four numbers is Canon of the rectangle with them; it is well-formed, and Canon of it is itself.
  Conditions: none: for every input.
-/
import Derived.Test.YthafdjlgagmfdaaSpec
import Derived.Test.YthafdjlgagmfdaaSets
import Derived.Test.YthafdjlgagmfdaaRow
namespace Go.Proofs.Ythafdjlgagmfdaa.fnCanonRoads
open Go.ChangeShapes Go.WideShapes Go.ChangeAt Go.RowKit
set_option linter.unusedSimpArgs false
set_option linter.unusedVariables false
set_option maxHeartbeats 2000000
set_option maxRecDepth 100000

/-- A call that answers a Bool, of which it is known what it is. -/
theorem Calls.overB {P : Program} {f : FuncId} {args : Array Value} {w : World} {x b : Bool} {y : Over w} (hx : x = b) (h : Calls P f args y.wd (Gives (.bool x) y.wd)) :
    Calls P f args y.wd fun e w'' => e = .returned (.bool b) ∧ ∃ z : Over w, w'' = z.wd := by subst hx; exact Calls.over _ h

theorem wf (r0 r1 r2 r3 : Int) : wfB (canon r0 r1 r2 r3).a (canon r0 r1 r2 r3).b (canon r0 r1 r2 r3).c (canon r0 r1 r2 r3).d = true := by rw [wfB_iff]; simp only [canon]; omega
theorem twice (r0 r1 r2 r3 : Int) : eq4 (canon (canon r0 r1 r2 r3).a (canon r0 r1 r2 r3).b (canon r0 r1 r2 r3).c (canon r0 r1 r2 r3).d).a (canon (canon r0 r1 r2 r3).a (canon r0 r1 r2 r3).b (canon r0 r1 r2 r3).c (canon r0 r1 r2 r3).d).b (canon (canon r0 r1 r2 r3).a (canon r0 r1 r2 r3).b (canon r0 r1 r2 r3).c (canon r0 r1 r2 r3).d).c (canon (canon r0 r1 r2 r3).a (canon r0 r1 r2 r3).b (canon r0 r1 r2 r3).c (canon r0 r1 r2 r3).d).d (canon r0 r1 r2 r3).a (canon r0 r1 r2 r3).b (canon r0 r1 r2 r3).c (canon r0 r1 r2 r3).d = true := by rw [eq4_iff]; simp only [canon]; omega
theorem just (r0 r1 r2 r3 : Int) : (eq4 (canon r0 r1 r2 r3).a (canon r0 r1 r2 r3).b (canon r0 r1 r2 r3).c (canon r0 r1 r2 r3).d r0 r1 r2 r3 == wfB r0 r1 r2 r3) = true := by
  have : eq4 (canon r0 r1 r2 r3).a (canon r0 r1 r2 r3).b (canon r0 r1 r2 r3).c (canon r0 r1 r2 r3).d r0 r1 r2 r3 = wfB r0 r1 r2 r3 := by apply bool_eq; rw [eq4_iff, wfB_iff]; simp only [canon]; omega
  rw [this]; simp
theorem swapped (r0 r1 r2 r3 : Int) : eq4 (canon r2 r3 r0 r1).a (canon r2 r3 r0 r1).b (canon r2 r3 r0 r1).c (canon r2 r3 r0 r1).d (canon r0 r1 r2 r3).a (canon r0 r1 r2 r3).b (canon r0 r1 r2 r3).c (canon r0 r1 r2 r3).d = true := by rw [eq4_iff]; simp only [canon]; omega

theorem walk (r0 r1 r2 r3 : Int) (or0 : Ok r0) (or1 : Ok r1) (or2 : Ok r2) (or3 : Ok r3) (w : World) :
    Calls Try.prog 12 #[.agg #[.int .i64 r0, .int .i64 r1, .int .i64 r2, .int .i64 r3]] w (Gives (.bool true) w) := by
  have heq := eql_a4
  have hne := neq_a4
  have s1 : eq4 (canon r0 r1 r2 r3).a (canon r0 r1 r2 r3).b (canon r0 r1 r2 r3).c (canon r0 r1 r2 r3).d (canon r0 r1 r2 r3).a (canon r0 r1 r2 r3).b (canon r0 r1 r2 r3).c (canon r0 r1 r2 r3).d = true := by simp [eq4]
  have s2 := wf r0 r1 r2 r3
  have s3 := twice r0 r1 r2 r3
  have s4 := just r0 r1 r2 r3
  have s5 := swapped r0 r1 r2 r3
  have hB := Known.start w
  go_enter Try.func12, Try.ntmps12
  go_wp2_with (first | (go_at_call 25; refine (iRectCanon _ _ _ _ _).mono ?_; rintro e w1 ⟨rfl, hn⟩; (first | with_reducible replace hB := (hB).keep hn | with_reducible replace hB := (hB.alloc).keep hn | with_reducible replace hB := (hB.alloc.alloc).keep hn | with_reducible replace hB := (hB.alloc.alloc.alloc).keep hn | with_reducible replace hB := (hB.alloc.alloc.alloc.alloc).keep hn | with_reducible replace hB := (hB.alloc.alloc.alloc.alloc.alloc).keep hn | with_reducible replace hB := (hB.alloc.alloc.alloc.alloc.alloc.alloc).keep hn | with_reducible replace hB := (((hB.set1 hb1 hb2).set1 hb1 hb2)).keep hn | with_reducible replace hB := (((((hB.set1 hb1 hb2).set1 hb1 hb2).set1 hb1 hb2).set1 hb1 hb2)).keep hn); clear hn; (try clear hR); have hR := hB.rules; simp only [Rules, World.size_alloc, Nat.add_one_le_iff, List.setIfInBounds_toArray, List.set_cons_zero, List.set_cons_succ] at hR))
  (first | with_reducible refine wp_region_known hB ?hm ?hB ?_ | with_reducible refine wp_region_known hB.alloc ?hm ?hB ?_ | with_reducible refine wp_region_known hB.alloc.alloc ?hm ?hB ?_ | with_reducible refine wp_region_known hB.alloc.alloc.alloc ?hm ?hB ?_ | with_reducible refine wp_region_known hB.alloc.alloc.alloc.alloc ?hm ?hB ?_ | with_reducible refine wp_region_known hB.alloc.alloc.alloc.alloc.alloc ?hm ?hB ?_ | with_reducible refine wp_region_known hB.alloc.alloc.alloc.alloc.alloc.alloc ?hm ?hB ?_); (case hm => kernel_rfl); (case hB => kernel_rfl); (try clear hR); intro hov; simp only [Rules, World.size_alloc, Nat.add_one_le_iff, List.setIfInBounds_toArray, List.set_cons_zero, List.set_cons_succ] at hov; (repeat (go_big_quiet_step (first | (go_at_call 25; exact Calls.over _ (iRectCanon _ _ _ _ _)) | (go_at_call 16; exact Calls.over _ (iNewRect _ _ _ _ _)) | (go_at_call 30; exact Calls.overB (by assumption) (sWellFormed _ _ _ _ _)) | (go_at_call 30; exact Calls.over _ (sWellFormed _ _ _ _ _))))); refine wpQuiet_nil ?_; intro wx hB; clear hov; have hR := hB.rules; simp only [Rules, World.size_alloc, Nat.add_one_le_iff, List.setIfInBounds_toArray, List.set_cons_zero, List.set_cons_succ] at hR
  go_wp2
  (first | with_reducible refine wp_region_known hB ?hm ?hB ?_ | with_reducible refine wp_region_known hB.alloc ?hm ?hB ?_ | with_reducible refine wp_region_known hB.alloc.alloc ?hm ?hB ?_ | with_reducible refine wp_region_known hB.alloc.alloc.alloc ?hm ?hB ?_ | with_reducible refine wp_region_known hB.alloc.alloc.alloc.alloc ?hm ?hB ?_ | with_reducible refine wp_region_known hB.alloc.alloc.alloc.alloc.alloc ?hm ?hB ?_ | with_reducible refine wp_region_known hB.alloc.alloc.alloc.alloc.alloc.alloc ?hm ?hB ?_); (case hm => kernel_rfl); (case hB => kernel_rfl); (try clear hR); intro hov; simp only [Rules, World.size_alloc, Nat.add_one_le_iff, List.setIfInBounds_toArray, List.set_cons_zero, List.set_cons_succ] at hov; (repeat (go_big_quiet_step (first | (go_at_call 25; exact Calls.over _ (iRectCanon _ _ _ _ _)) | (go_at_call 16; exact Calls.over _ (iNewRect _ _ _ _ _)) | (go_at_call 30; exact Calls.overB (by assumption) (sWellFormed _ _ _ _ _)) | (go_at_call 30; exact Calls.over _ (sWellFormed _ _ _ _ _))))); refine wpQuiet_nil ?_; intro wx hB; clear hov; have hR := hB.rules; simp only [Rules, World.size_alloc, Nat.add_one_le_iff, List.setIfInBounds_toArray, List.set_cons_zero, List.set_cons_succ] at hR
  go_wp2
  all_goals
    refine bodyPost_ret (results_tmp rfl _ _ _) rfl ?_
    refine ⟨ret_true ?_, ?_⟩
    · first | rfl | (simp [s4, s5]; done)
    · repeat (first | exact ext_refl _ | exact hB.below | apply ext_alloc | apply ext_drew | (refine ext_set ?_ ?_; · first | (dsimp only; omega) | (simp; omega) | (simp; done)))

theorem lifted (os : Os) (started : os.Started) (H : Type) (enc : TypeId × Value → H) :
    ReturnsInHanded {} Try.checked os 12 .any (Rows.fnCanonRoadsSpec.pre6 enc Try.prog Try.f12 Rows.fnCanonRoadsRow.domain false) (Rows.fnCanonRoadsSpec.post enc Try.prog Try.f12 false true false false) := by
  refine returnsInHanded_of_change (C := Try.checked) own started (by kernel_rfl) Try.func12
    (ChangeSpec.witness6 (enc := enc) (C := Try.checked) false ⟨#[], #[.agg #[.int .i64 0, .int .i64 0, .int .i64 0, .int .i64 0]], []⟩ 8 (by kernel_rfl) (by kernel_rfl) (by kernel_rfl) (by kernel_rfl)) ?_
  intro W base args ds gs before hval0 hW hcnd _
  have hval : ∀ (j : Nat) t v, Try.f12.params[j]? = some t → args[j]? = some v → Value.okWide Try.prog W .any base t v := hval0
  have hW' := hW
  obtain ⟨p, q, hA0, hV, rfl, hfz, hnd⟩ := hW
  have hA : DataW.TrodAll enc Try.prog W 0 (fun _ => true) true Try.f12.params.toList args.toList ds p := hA0
  rw [Try.params12] at hA hval
  obtain ⟨v0, vs0, d0, ds0, p0, q0, hargs, rfl, rfl, h0, r0⟩ := trodAll_cons hA
  obtain ⟨rfl, rfl, rfl⟩ := trodAll_nil r0
  obtain rfl : args = #[v0] := by cases args; simp_all
  obtain ⟨rfl, rfl⟩ := trodVars_none hV
  obtain ⟨xr0, xr1, xr2, xr3, rfl, rfl, rfl, wxr0, wxr1, wxr2, wxr3⟩ := open_arr4 Try.underlying22 Try.underlying2 (by kernel_rfl) (by kernel_rfl) (hval 0 22 v0 rfl rfl) h0
  clear hA0 hval0
  refine (walk xr0 xr1 xr2 xr3 (bounds_i64 wxr0) (bounds_i64 wxr1) (bounds_i64 wxr2) (bounds_i64 wxr3) W).mono fun e W' ⟨he, bel⟩ => ?_
  subst he
  exact ⟨_, rfl, _, _, _, [], _, [], hW', trodAll_mk1 (shut_bool Try.underlying4 _), (trodAll_cons_mk (shut_arr4 Try.underlying22 Try.underlying2 (by kernel_rfl) (by kernel_rfl) wxr0 wxr1 wxr2 wxr3) trodAll_mk0), rfl, bel.frame _, fun h => by cases h⟩

/-- THE STATEMENT. -/
theorem proved : Rows.FnCanonRoadsSaid :=
  OpenClaim.holds_of_wide 12 Try.f12 rfl rfl rfl rfl rfl rfl rfl ⟨rfl, rfl, rfl, rfl, rfl⟩ rfl rfl rfl rfl rfl (by kernel_rfl) Try.func12 (by kernel_rfl)
    (of_decide_eq_true (by kernel_rfl)) (by unfold Func.isWrapper; first | (rw [if_pos (by decide +kernel)]; kernel_rfl) | (rw [if_neg (by decide +kernel)]; exact ⟨rfl, rfl⟩))
    (fun os started H enc _ => lifted os started H enc)
#print axioms proved
end Go.Proofs.Ythafdjlgagmfdaa.fnCanonRoads
