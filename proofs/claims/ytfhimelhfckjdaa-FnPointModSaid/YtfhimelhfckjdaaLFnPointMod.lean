/-
  Proved: the statement Rows.FnPointModSaid: Mod is the point of the rectangle that differs by multiples of its width and its height (it has points; its size, and the differences from its least corner, are numbers).
  Conditions: none: for every input.
-/
import Derived.Test.YtfhimelhfckjdaaSpec
import Derived.Test.YtfhimelhfckjdaaSmall
import Derived.Test.YtfhimelhfckjdaaRow
namespace Go.Proofs.Ytfhimelhfckjdaa.fnPointMod
open Go.ChangeShapes Go.WideShapes Go.ChangeAt Go.RowKit
set_option linter.unusedSimpArgs false
set_option linter.unusedVariables false
set_option maxHeartbeats 2000000
set_option maxRecDepth 100000

/-- A call that answers a Bool, of which it is known what it is. -/
theorem Calls.overB {P : Program} {f : FuncId} {args : Array Value} {w : World} {x b : Bool} {y : Over w} (hx : x = b) (h : Calls P f args y.wd (Gives (.bool x) y.wd)) :
    Calls P f args y.wd fun e w'' => e = .returned (.bool b) ∧ ∃ z : Over w, w'' = z.wd := by subst hx; exact Calls.over _ h

/-- The reference's Mod, one coordinate. -/
theorem same {x a c : Int} (ox : Ok x) (oa : Ok a) (oc : Ok c) (h0 : a < c) (h1 : lessOk c a = true) (h2 : lessOk x a = true) : smodC x a c = modC x a c := by
  have k1 := (lessOk_iff oc oa).1 h1
  have k2 := (lessOk_iff ox oa).1 h2
  rw [modC_eq (by omega) k1 k2 oa oc]
  unfold smodC
  rw [lessV_eq oc oa h1, lessV_eq ox oa h2]
  generalize hW : c - a = W at *
  generalize hX : x - a = X at *
  have hw : 0 < W := by omega
  have b0 := Int.emod_nonneg X (show W ≠ 0 by omega)
  have b1 := Int.emod_lt_of_pos X hw
  have e := Int.tdiv_mul_add_tmod X W
  have hl : X.tmod W + liftV X W = X % W := by
    unfold liftV
    by_cases hX0 : 0 ≤ X
    · rw [Int.tmod_eq_emod_of_nonneg hX0, if_neg (by omega)]; omega
    · rw [Int.tmod_eq_emod]
      by_cases hd : W ∣ X
      · have h3 : X % W = 0 := Int.emod_eq_zero_of_dvd hd
        simp [hd, h3]
      · have h3 : X % W ≠ 0 := fun h => hd (Int.dvd_of_emod_eq_zero h)
        have hcnd : ¬ (0 ≤ X ∨ W ∣ X) := fun h => h.elim hX0 hd
        rw [if_neg hcnd]
        have ha : (W.natAbs : Int) = W := by omega
        rw [ha, if_pos (by omega)]
        omega
  have q : Ok (X.tdiv W) := tdiv_ok k2 (by omega) (by omega)
  rw [wrap_ok q]
  generalize X.tdiv W * W = D at *
  generalize liftV X W = L at *
  generalize X.tmod W = T at *
  generalize X % W = E at *
  unfold Ok at *
  unfold wrap64
  omega

theorem walk (p0 p1 : Int) (r0 r1 r2 r3 : Int) (op0 : Ok p0) (op1 : Ok p1) (or0 : Ok r0) (or1 : Ok r1) (or2 : Ok r2) (or3 : Ok r3) (w : World) :
    Calls Try.prog 6 #[.agg #[.int .i64 p0, .int .i64 p1], .agg #[.int .i64 r0, .int .i64 r1, .int .i64 r2, .int .i64 r3]] w (Gives (.bool true) w) := by
  have heq := eql_a2
  cases h1 : smodOk p0 p1 r0 r1 r2 r3
  · skip
    have hB := Known.start w
    go_enter Try.func6, Try.ntmps6
    go_wp2_with (first | (go_at_call 23; refine (sMod _ _ _ _ _ _ _ or0 or1 or2 or3).mono ?_; rintro e w1 ⟨rfl, hn⟩; (first | with_reducible replace hB := (hB).keep hn | with_reducible replace hB := (hB.alloc).keep hn | with_reducible replace hB := (hB.alloc.alloc).keep hn | with_reducible replace hB := (hB.alloc.alloc.alloc).keep hn | with_reducible replace hB := (hB.alloc.alloc.alloc.alloc).keep hn | with_reducible replace hB := (hB.alloc.alloc.alloc.alloc.alloc).keep hn | with_reducible replace hB := (hB.alloc.alloc.alloc.alloc.alloc.alloc).keep hn | with_reducible replace hB := (((hB.set1 hb1 hb2).set1 hb1 hb2)).keep hn | with_reducible replace hB := (((((hB.set1 hb1 hb2).set1 hb1 hb2).set1 hb1 hb2).set1 hb1 hb2)).keep hn); clear hn; (try clear hR); have hR := hB.rules; simp only [Rules, World.size_alloc, Nat.add_one_le_iff, List.setIfInBounds_toArray, List.set_cons_zero, List.set_cons_succ] at hR))
    all_goals
      refine bodyPost_ret (results_tmp rfl _ _ _) rfl ?_
      refine ⟨ret_true ?_, ?_⟩
      · rfl
      · repeat (first | exact ext_refl _ | exact hB.below | apply ext_alloc | apply ext_drew | (refine ext_set ?_ ?_; · first | (dsimp only; omega) | (simp; omega) | (simp; done)))
  have k1 := h1
  simp only [smodOk, Bool.and_eq_true, Bool.not_eq_true', emptyB_not] at k1
  obtain ⟨⟨⟨⟨u1, u2⟩, u3, u4⟩, u5⟩, u6⟩ := k1
  have hw := wid_any u1 or0 or2
  have hh := wid_any u2 or1 or3
  have e1 : eq2 (modC p0 r0 r2) (modC p1 r1 r3) (smodC p0 r0 r2) (smodC p1 r1 r3) = true := by
    rw [eq2_iff, same op0 or0 or2 u1 u3 u5, same op1 or1 or3 u2 u4 u6]
    exact ⟨rfl, rfl⟩
  have e2 : inB (modC p0 r0 r2) (modC p1 r1 r3) r0 r1 r2 r3 = true := by
    have v1 := modC_in (by omega) ((lessOk_iff or2 or0).1 u3) ((lessOk_iff op0 or0).1 u5) or0 or2
    have v2 := modC_in (by omega) ((lessOk_iff or3 or1).1 u4) ((lessOk_iff op1 or1).1 u6) or1 or3
    rw [inB_iff]
    omega
  clear u1 u2 u3 u4 u5 u6
  have hB := Known.start w
  go_enter Try.func6, Try.ntmps6
  go_wp2_with (first | (go_at_call 23; refine (sMod _ _ _ _ _ _ _ or0 or1 or2 or3).mono ?_; rintro e w1 ⟨rfl, hn⟩; (first | with_reducible replace hB := (hB).keep hn | with_reducible replace hB := (hB.alloc).keep hn | with_reducible replace hB := (hB.alloc.alloc).keep hn | with_reducible replace hB := (hB.alloc.alloc.alloc).keep hn | with_reducible replace hB := (hB.alloc.alloc.alloc.alloc).keep hn | with_reducible replace hB := (hB.alloc.alloc.alloc.alloc.alloc).keep hn | with_reducible replace hB := (hB.alloc.alloc.alloc.alloc.alloc.alloc).keep hn | with_reducible replace hB := (((hB.set1 hb1 hb2).set1 hb1 hb2)).keep hn | with_reducible replace hB := (((((hB.set1 hb1 hb2).set1 hb1 hb2).set1 hb1 hb2).set1 hb1 hb2)).keep hn); clear hn; (try clear hR); have hR := hB.rules; simp only [Rules, World.size_alloc, Nat.add_one_le_iff, List.setIfInBounds_toArray, List.set_cons_zero, List.set_cons_succ] at hR) | (go_at_call 22; refine (iPointMod _ _ _ _ _ _ _ hw hh).mono ?_; rintro e w1 ⟨rfl, hn⟩; (first | with_reducible replace hB := (hB).keep hn | with_reducible replace hB := (hB.alloc).keep hn | with_reducible replace hB := (hB.alloc.alloc).keep hn | with_reducible replace hB := (hB.alloc.alloc.alloc).keep hn | with_reducible replace hB := (hB.alloc.alloc.alloc.alloc).keep hn | with_reducible replace hB := (hB.alloc.alloc.alloc.alloc.alloc).keep hn | with_reducible replace hB := (hB.alloc.alloc.alloc.alloc.alloc.alloc).keep hn | with_reducible replace hB := (((hB.set1 hb1 hb2).set1 hb1 hb2)).keep hn | with_reducible replace hB := (((((hB.set1 hb1 hb2).set1 hb1 hb2).set1 hb1 hb2).set1 hb1 hb2)).keep hn); clear hn; (try clear hR); have hR := hB.rules; simp only [Rules, World.size_alloc, Nat.add_one_le_iff, List.setIfInBounds_toArray, List.set_cons_zero, List.set_cons_succ] at hR) | (go_at_call 21; refine (sHas _ _ _ _ _ _ _).mono ?_; rintro e w1 ⟨rfl, hn⟩; (first | with_reducible replace hB := (hB).keep hn | with_reducible replace hB := (hB.alloc).keep hn | with_reducible replace hB := (hB.alloc.alloc).keep hn | with_reducible replace hB := (hB.alloc.alloc.alloc).keep hn | with_reducible replace hB := (hB.alloc.alloc.alloc.alloc).keep hn | with_reducible replace hB := (hB.alloc.alloc.alloc.alloc.alloc).keep hn | with_reducible replace hB := (hB.alloc.alloc.alloc.alloc.alloc.alloc).keep hn | with_reducible replace hB := (((hB.set1 hb1 hb2).set1 hb1 hb2)).keep hn | with_reducible replace hB := (((((hB.set1 hb1 hb2).set1 hb1 hb2).set1 hb1 hb2).set1 hb1 hb2)).keep hn); clear hn; (try clear hR); have hR := hB.rules; simp only [Rules, World.size_alloc, Nat.add_one_le_iff, List.setIfInBounds_toArray, List.set_cons_zero, List.set_cons_succ] at hR))
  all_goals
    refine bodyPost_ret (results_tmp rfl _ _ _) rfl ?_
    refine ⟨ret_true ?_, ?_⟩
    · first | rfl | exact e2
    · repeat (first | exact ext_refl _ | exact hB.below | apply ext_alloc | apply ext_drew | (refine ext_set ?_ ?_; · first | (dsimp only; omega) | (simp; omega) | (simp; done)))

theorem lifted (os : Os) (started : os.Started) (H : Type) (enc : TypeId × Value → H) :
    ReturnsInHanded {} Try.checked os 6 .any (Rows.fnPointModSpec.pre6 enc Try.prog Try.f6 Rows.fnPointModRow.domain false) (Rows.fnPointModSpec.post enc Try.prog Try.f6 false true false false) := by
  refine returnsInHanded_of_change (C := Try.checked) own started (by kernel_rfl) Try.func6
    (ChangeSpec.witness6 (enc := enc) (C := Try.checked) false ⟨#[], #[.agg #[.int .i64 0, .int .i64 0], .agg #[.int .i64 0, .int .i64 0, .int .i64 0, .int .i64 0]], []⟩ 8 (by kernel_rfl) (by kernel_rfl) (by kernel_rfl) (by kernel_rfl)) ?_
  intro W base args ds gs before hval0 hW hcnd _
  have hval : ∀ (j : Nat) t v, Try.f6.params[j]? = some t → args[j]? = some v → Value.okWide Try.prog W .any base t v := hval0
  have hW' := hW
  obtain ⟨p, q, hA0, hV, rfl, hfz, hnd⟩ := hW
  have hA : DataW.TrodAll enc Try.prog W 0 (fun _ => true) true Try.f6.params.toList args.toList ds p := hA0
  rw [Try.params6] at hA hval
  obtain ⟨v0, vs0, d0, ds0, p0, q0, hargs, rfl, rfl, h0, r0⟩ := trodAll_cons hA
  obtain ⟨v1, vs1, d1, ds1, p1, q1, rfl, rfl, rfl, h1, r1⟩ := trodAll_cons r0
  obtain ⟨rfl, rfl, rfl⟩ := trodAll_nil r1
  obtain rfl : args = #[v0, v1] := by cases args; simp_all
  obtain ⟨rfl, rfl⟩ := trodVars_none hV
  obtain ⟨xp0, xp1, rfl, rfl, rfl, wxp0, wxp1⟩ := open_arr2 Try.underlying23 Try.underlying2 (by kernel_rfl) (by kernel_rfl) (hval 0 23 v0 rfl rfl) h0
  obtain ⟨xr0, xr1, xr2, xr3, rfl, rfl, rfl, wxr0, wxr1, wxr2, wxr3⟩ := open_arr4 Try.underlying22 Try.underlying2 (by kernel_rfl) (by kernel_rfl) (hval 1 22 v1 rfl rfl) h1
  clear hA0 hval0
  refine (walk xp0 xp1 xr0 xr1 xr2 xr3 (bounds_i64 wxp0) (bounds_i64 wxp1) (bounds_i64 wxr0) (bounds_i64 wxr1) (bounds_i64 wxr2) (bounds_i64 wxr3) W).mono fun e W' ⟨he, bel⟩ => ?_
  subst he
  exact ⟨_, rfl, _, _, _, [], _, [], hW', trodAll_mk1 (shut_bool Try.underlying4 _), (trodAll_cons_mk (shut_arr2 Try.underlying23 Try.underlying2 (by kernel_rfl) (by kernel_rfl) wxp0 wxp1) (trodAll_cons_mk (shut_arr4 Try.underlying22 Try.underlying2 (by kernel_rfl) (by kernel_rfl) wxr0 wxr1 wxr2 wxr3) trodAll_mk0)), rfl, bel.frame _, fun h => by cases h⟩

/-- THE STATEMENT. -/
theorem proved : Rows.FnPointModSaid :=
  OpenClaim.holds_of_wide 6 Try.f6 rfl rfl rfl rfl rfl rfl rfl ⟨rfl, rfl, rfl, rfl, rfl⟩ rfl rfl rfl rfl rfl (by kernel_rfl) Try.func6 (by kernel_rfl)
    (of_decide_eq_true (by kernel_rfl)) (by unfold Func.isWrapper; first | (rw [if_pos (by decide +kernel)]; kernel_rfl) | (rw [if_neg (by decide +kernel)]; exact ⟨rfl, rfl⟩))
    (fun os started H enc _ => lifted os started H enc)
#print axioms proved
end Go.Proofs.Ytfhimelhfckjdaa.fnPointMod
