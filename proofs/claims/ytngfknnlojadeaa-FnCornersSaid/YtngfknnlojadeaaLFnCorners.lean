/-
  Proved: the statement Rows.FnCornersSaid: A rectangle with points has its least corner, and neither its greatest one nor the two others.
  Conditions: none: for every input.
-/
import Derived.Test.YtngfknnlojadeaaSpec
import Derived.Test.YtngfknnlojadeaaArith
import Derived.Test.YtngfknnlojadeaaRow
namespace Go.Proofs.Ytngfknnlojadeaa.fnCorners
open Go.ChangeShapes Go.WideShapes Go.ChangeAt Go.RowKit
set_option linter.unusedSimpArgs false
set_option linter.unusedVariables false
set_option maxHeartbeats 2000000
set_option maxRecDepth 100000

theorem plain {a b c d : Int} (oc : Ok c) (od : Ok d) (oa : Ok a) (ob : Ok b) (h : emptyB a b c d = false) :
    inB a b a b c d = true ∧ inB c d a b c d = false ∧ inB a d a b c d = false ∧ inB c b a b c d = false ∧ inB (wrap64 (c - 1)) (wrap64 (d - 1)) a b c d = true := by
  simp only [emptyB, Bool.or_eq_false_iff, decide_eq_false_iff_not] at h
  unfold Ok at *
  rw [wrap_in (x := c - 1) (by omega) (by omega), wrap_in (x := d - 1) (by omega) (by omega)]
  simp [inB]
  omega

theorem walk (r0 r1 r2 r3 : Int) (or0 : Ok r0) (or1 : Ok r1) (or2 : Ok r2) (or3 : Ok r3) (w : World) :
    Calls Try.prog 3 #[.agg #[.int .i64 r0, .int .i64 r1, .int .i64 r2, .int .i64 r3]] w (Gives (.bool true) w) := by
  cases hE : emptyB r0 r1 r2 r3 with
  | true =>
    have hB := Known.start w
    go_enter Try.func3, Try.ntmps3
    go_wp2_with (first | (go_at_call 15; refine (sNone _ _ _ _ _).mono ?_; rintro e w1 ⟨rfl, hn⟩; (first | replace hB := (hB).keep hn | replace hB := (hB.alloc).keep hn | replace hB := (hB.alloc.alloc).keep hn | replace hB := (hB.alloc.alloc.alloc).keep hn | replace hB := (hB.alloc.alloc.alloc.alloc).keep hn | replace hB := (hB.alloc.alloc.alloc.alloc.alloc).keep hn | replace hB := (hB.alloc.alloc.alloc.alloc.alloc.alloc).keep hn); clear hn; (try clear hR); have hR := hB.rules; simp only [Rules, World.size_alloc, Nat.add_one_le_iff] at hR) | (go_at_call 16; refine (iPointIn _ _ _ _ _ _ _).mono ?_; rintro e w1 ⟨rfl, hn⟩; (first | replace hB := (hB).keep hn | replace hB := (hB.alloc).keep hn | replace hB := (hB.alloc.alloc).keep hn | replace hB := (hB.alloc.alloc.alloc).keep hn | replace hB := (hB.alloc.alloc.alloc.alloc).keep hn | replace hB := (hB.alloc.alloc.alloc.alloc.alloc).keep hn | replace hB := (hB.alloc.alloc.alloc.alloc.alloc.alloc).keep hn); clear hn; (try clear hR); have hR := hB.rules; simp only [Rules, World.size_alloc, Nat.add_one_le_iff] at hR))
    all_goals
      refine bodyPost_ret (results_tmp rfl _ _ _) rfl ?_
      refine ⟨ret_true ?_, ?_⟩
      · rfl
      · repeat (first | exact ext_refl _ | exact hB.below | apply ext_alloc | apply ext_drew | (refine ext_set ?_ ?_; · first | (dsimp only; omega) | (simp; omega) | (simp; done)))
  | false =>
    obtain ⟨e1, e2, e3, e4, e5⟩ := plain or2 or3 or0 or1 hE
    have hB := Known.start w
    go_enter Try.func3, Try.ntmps3
    go_wp2_with (first | (go_at_call 15; refine (sNone _ _ _ _ _).mono ?_; rintro e w1 ⟨rfl, hn⟩; (first | replace hB := (hB).keep hn | replace hB := (hB.alloc).keep hn | replace hB := (hB.alloc.alloc).keep hn | replace hB := (hB.alloc.alloc.alloc).keep hn | replace hB := (hB.alloc.alloc.alloc.alloc).keep hn | replace hB := (hB.alloc.alloc.alloc.alloc.alloc).keep hn | replace hB := (hB.alloc.alloc.alloc.alloc.alloc.alloc).keep hn); clear hn; (try clear hR); have hR := hB.rules; simp only [Rules, World.size_alloc, Nat.add_one_le_iff] at hR) | (go_at_call 16; refine (iPointIn _ _ _ _ _ _ _).mono ?_; rintro e w1 ⟨rfl, hn⟩; (first | replace hB := (hB).keep hn | replace hB := (hB.alloc).keep hn | replace hB := (hB.alloc.alloc).keep hn | replace hB := (hB.alloc.alloc.alloc).keep hn | replace hB := (hB.alloc.alloc.alloc.alloc).keep hn | replace hB := (hB.alloc.alloc.alloc.alloc.alloc).keep hn | replace hB := (hB.alloc.alloc.alloc.alloc.alloc.alloc).keep hn); clear hn; (try clear hR); have hR := hB.rules; simp only [Rules, World.size_alloc, Nat.add_one_le_iff] at hR))
    all_goals
      refine bodyPost_ret (results_tmp rfl _ _ _) rfl ?_
      refine ⟨ret_true ?_, ?_⟩
      · rfl
      · repeat (first | exact ext_refl _ | exact hB.below | apply ext_alloc | apply ext_drew | (refine ext_set ?_ ?_; · first | (dsimp only; omega) | (simp; omega) | (simp; done)))

theorem lifted (os : Os) (started : os.Started) (H : Type) (enc : TypeId × Value → H) :
    ReturnsInHanded {} Try.checked os 3 .any (Rows.fnCornersSpec.pre6 enc Try.prog Try.f3 Rows.fnCornersRow.domain false) (Rows.fnCornersSpec.post enc Try.prog Try.f3 false true false false) := by
  refine returnsInHanded_of_change (C := Try.checked) own started (by kernel_rfl) Try.func3
    (ChangeSpec.witness6 (enc := enc) (C := Try.checked) false ⟨#[], #[.agg #[.int .i64 0, .int .i64 0, .int .i64 0, .int .i64 0]], []⟩ 8 (by kernel_rfl) (by kernel_rfl) (by kernel_rfl) (by kernel_rfl)) ?_
  intro W base args ds gs before hval0 hW hcnd _
  have hval : ∀ (j : Nat) t v, Try.f3.params[j]? = some t → args[j]? = some v → Value.okWide Try.prog W .any base t v := hval0
  have hW' := hW
  obtain ⟨p, q, hA0, hV, rfl, hfz, hnd⟩ := hW
  have hA : DataW.TrodAll enc Try.prog W 0 (fun _ => true) true Try.f3.params.toList args.toList ds p := hA0
  rw [Try.params3] at hA hval
  obtain ⟨v0, vs0, d0, ds0, p0, q0, hargs, rfl, rfl, h0, r0⟩ := trodAll_cons hA
  obtain ⟨rfl, rfl, rfl⟩ := trodAll_nil r0
  obtain rfl : args = #[v0] := by cases args; simp_all
  obtain ⟨rfl, rfl⟩ := trodVars_none hV
  obtain ⟨xr0, xr1, xr2, xr3, rfl, rfl, rfl, wxr0, wxr1, wxr2, wxr3⟩ := open_arr4 Try.underlying22 Try.underlying2 (by kernel_rfl) (by kernel_rfl) (hval 0 22 v0 rfl rfl) h0
  clear hA0 hval0
  refine (walk xr0 xr1 xr2 xr3 (bounds_i64 wxr0) (bounds_i64 wxr1) (bounds_i64 wxr2) (bounds_i64 wxr3) W).mono fun e W' ⟨he, bel⟩ => ?_
  subst he
  exact ⟨_, rfl, _, _, _, [], _, [], hW', trodAll_mk1 (shut_bool Try.underlying4 _), (trodAll_cons_mk (shut_arr4 Try.underlying22 Try.underlying2 (by kernel_rfl) (by kernel_rfl) wxr0 wxr1 wxr2 wxr3) trodAll_mk0), rfl, bel.frame _, fun h => by cases h⟩

/-- THE STATEMENT. -/
theorem proved : Rows.FnCornersSaid :=
  OpenClaim.holds_of_wide 3 Try.f3 rfl rfl rfl rfl rfl rfl rfl ⟨rfl, rfl, rfl, rfl, rfl⟩ rfl rfl rfl rfl rfl (by kernel_rfl) Try.func3 (by kernel_rfl)
    (of_decide_eq_true (by kernel_rfl)) (by unfold Func.isWrapper; first | (rw [if_pos (by decide +kernel)]; kernel_rfl) | (rw [if_neg (by decide +kernel)]; exact ⟨rfl, rfl⟩))
    (fun os started H enc _ => lifted os started H enc)
#print axioms proved
end Go.Proofs.Ytngfknnlojadeaa.fnCorners
