/-
  Proved: the statement Rows.FnPointDivSaid: Div divides the coordinates, the quotients being truncated (k is not 0, nor is the least number divided by -1).
  Conditions: none: for every input.
-/
import Derived.Test.YtockppelodnhlaaSpec
import Derived.Test.YtockppelodnhlaaArith
import Derived.Test.YtockppelodnhlaaRow
namespace Go.Proofs.Ytockppelodnhlaa.fnPointDiv
open Go.ChangeShapes Go.WideShapes Go.ChangeAt Go.RowKit
set_option linter.unusedSimpArgs false
set_option linter.unusedVariables false
set_option maxHeartbeats 2000000
set_option maxRecDepth 100000

/-- What the reference's Times says of a quotient and its divisor. -/
theorem back {x k : Int} (hx : Ok x) (hk : Ok k) (h0 : k ≠ 0) (hn : ¬(k = -1 ∧ x = -9223372036854775808)) :
    timesOk (wrap64 (x.tdiv k)) k = true ∧ timesV (wrap64 (x.tdiv k)) k = x - x.tmod k := by
  have hq := tdiv_ok hx h0 hn
  rw [wrap_ok hq]
  have f := tdiv_facts x k h0
  have hp : Ok (x.tdiv k * k) := by unfold Ok at *; omega
  exact ⟨timesOk_of hq hk hp, by rw [timesV_of hq hk hp]; omega⟩
def Rest (x k m : Int) : Prop := (0 ≤ x → 0 ≤ m ∧ m ≤ x) ∧ (x ≤ 0 → x ≤ m ∧ m ≤ 0) ∧ (0 < k → x - m < k ∧ -k < x - m) ∧ (k < 0 → x - m < -k ∧ k < x - m)
theorem rest {x k : Int} (h0 : k ≠ 0) : Rest x k (x - x.tmod k) := by
  have f := tdiv_facts x k h0
  unfold Rest
  omega
/-- Times at a quotient: true, and a number of which this is known. -/
def TimesBack (x k : Int) (w : World) (e : Ending) (w' : World) : Prop := ∃ m : Int, Rest x k m ∧ e = .returned (.tuple #[.int .i64 m, .bool true]) ∧ Below w.heap.size w w'
theorem times_back {x k : Int} (hx : Ok x) (hk : Ok k) (h0 : k ≠ 0) (hn : ¬(k = -1 ∧ x = -9223372036854775808)) (w : World) :
    Calls Try.prog 21 #[.int .i64 (wrap64 (x.tdiv k)), .int .i64 k] w (TimesBack x k w) :=
  (sTimes _ _ w).mono fun e w' ⟨he, hb⟩ => ⟨x - x.tmod k, rest h0, by rw [he, (back hx hk h0 hn).1, (back hx hk h0 hn).2], hb⟩
theorem mainA (p0 p1 k : Int) (b0 : -9223372036854775808 ≤ p0) (b0' : p0 ≤ 9223372036854775807) (b1 : -9223372036854775808 ≤ p1) (b1' : p1 ≤ 9223372036854775807) (bk : -9223372036854775808 ≤ k) (bk' : k ≤ 9223372036854775807) (hk : (k == 0) = false) (h1 : (k == -1) = false) (w : World) :
    Calls Try.prog 9 #[.agg #[.int .i64 p0, .int .i64 p1], .int .i64 k] w (Gives (.bool true) w) := by
  have h0 : ¬ k = 0 := by simpa using hk
  have n0 : ¬(k = -1 ∧ p0 = -9223372036854775808) := by simp_all
  have n1 : ¬(k = -1 ∧ p1 = -9223372036854775808) := by simp_all
  have N0 : Hid (¬(k = -1 ∧ p0 = -9223372036854775808)) := n0
  have N1 : Hid (¬(k = -1 ∧ p1 = -9223372036854775808)) := n1
  clear n0 n1
  have hB := Known.start w
  go_enter Try.func9, Try.ntmps9
  go_wp2_with (first | (go_at_call 22; refine (iPointDiv _ _ _ _ hk).mono ?_; rintro e w1 ⟨rfl, hn⟩; (first | replace hB := (hB).keep hn | replace hB := (hB.alloc).keep hn | replace hB := (hB.alloc.alloc).keep hn | replace hB := (hB.alloc.alloc.alloc).keep hn | replace hB := (hB.alloc.alloc.alloc.alloc).keep hn | replace hB := (hB.alloc.alloc.alloc.alloc.alloc).keep hn | replace hB := (hB.alloc.alloc.alloc.alloc.alloc.alloc).keep hn); clear hn; (try clear hR); have hR := hB.rules; simp only [Rules, World.size_alloc, Nat.add_one_le_iff] at hR))
  go_loopw [6] (fun i wr => ∃ j : Nat, j ≤ 2 ∧ i = .int .i64 j ∧ Known w wr [(w1.heap.size, #[.int .i64 (wrap64 (p0.tdiv k)), .int .i64 (wrap64 (p1.tdiv k))], 22), (w.heap.size, #[.int .i64 p0, .int .i64 p1], 22)]) (fun i _ => 2 - (intOf i).toNat)
  case atStart => exact ⟨0, by omega, rfl, hB.alloc⟩
  case round =>
    obtain ⟨j, hj, rfl, hK⟩ := hrel
    clear hB hR
    have hB := hK
    clear hK
    have hR := hB.rules
    simp only [Rules, World.size_alloc, Nat.add_one_le_iff] at hR
    have hj3 : j = 0 ∨ j = 1 ∨ j = 2 := by omega
    rcases hj3 with rfl | rfl | rfl
    · go_wp2_with (first | (go_at_call 21; refine (times_back (x := p0) ⟨b0, b0'⟩ ⟨bk, bk'⟩ h0 N0.out _).mono ?_; rintro e w2 ⟨m, hm, rfl, hn⟩; unfold Rest at hm; (first | replace hB := (hB).keep hn | replace hB := (hB.alloc).keep hn | replace hB := (hB.alloc.alloc).keep hn | replace hB := (hB.alloc.alloc.alloc).keep hn | replace hB := (hB.alloc.alloc.alloc.alloc).keep hn | replace hB := (hB.alloc.alloc.alloc.alloc.alloc).keep hn | replace hB := (hB.alloc.alloc.alloc.alloc.alloc.alloc).keep hn); clear hn; (try clear hR); have hR := hB.rules; simp only [Rules, World.size_alloc, Nat.add_one_le_iff] at hR))
      all_goals
        go_roundw
        case rel => exact ⟨1, by omega, rfl, hB⟩
        case measure => simp [intOf]
    · go_wp2_with (first | (go_at_call 21; refine (times_back (x := p1) ⟨b1, b1'⟩ ⟨bk, bk'⟩ h0 N1.out _).mono ?_; rintro e w2 ⟨m, hm, rfl, hn⟩; unfold Rest at hm; (first | replace hB := (hB).keep hn | replace hB := (hB.alloc).keep hn | replace hB := (hB.alloc.alloc).keep hn | replace hB := (hB.alloc.alloc.alloc).keep hn | replace hB := (hB.alloc.alloc.alloc.alloc).keep hn | replace hB := (hB.alloc.alloc.alloc.alloc.alloc).keep hn | replace hB := (hB.alloc.alloc.alloc.alloc.alloc.alloc).keep hn); clear hn; (try clear hR); have hR := hB.rules; simp only [Rules, World.size_alloc, Nat.add_one_le_iff] at hR))
      all_goals
        go_roundw
        case rel => exact ⟨2, by omega, rfl, hB⟩
        case measure => simp [intOf]
    · go_wp2
      all_goals
        refine bodyPost_ret (results_tmp rfl _ _ _) rfl ?_
        refine ⟨ret_true ?_, ?_⟩
        · rfl
        · repeat (first | exact ext_refl _ | exact hB.below | apply ext_alloc | apply ext_drew | (refine ext_set ?_ ?_; · first | (dsimp only; omega) | (simp; omega) | (simp; done)))

theorem mainB (p0 p1 k : Int) (b0 : -9223372036854775808 ≤ p0) (b0' : p0 ≤ 9223372036854775807) (b1 : -9223372036854775808 ≤ p1) (b1' : p1 ≤ 9223372036854775807) (bk : -9223372036854775808 ≤ k) (bk' : k ≤ 9223372036854775807) (hk : (k == 0) = false) (h1 : (k == -1) = true) (h2 : (p0 == -9223372036854775808) = false) (h3 : (p1 == -9223372036854775808) = false) (w : World) :
    Calls Try.prog 9 #[.agg #[.int .i64 p0, .int .i64 p1], .int .i64 k] w (Gives (.bool true) w) := by
  have h0 : ¬ k = 0 := by simpa using hk
  have n0 : ¬(k = -1 ∧ p0 = -9223372036854775808) := by simp_all
  have n1 : ¬(k = -1 ∧ p1 = -9223372036854775808) := by simp_all
  have N0 : Hid (¬(k = -1 ∧ p0 = -9223372036854775808)) := n0
  have N1 : Hid (¬(k = -1 ∧ p1 = -9223372036854775808)) := n1
  clear n0 n1
  have hB := Known.start w
  go_enter Try.func9, Try.ntmps9
  go_wp2_with (first | (go_at_call 22; refine (iPointDiv _ _ _ _ hk).mono ?_; rintro e w1 ⟨rfl, hn⟩; (first | replace hB := (hB).keep hn | replace hB := (hB.alloc).keep hn | replace hB := (hB.alloc.alloc).keep hn | replace hB := (hB.alloc.alloc.alloc).keep hn | replace hB := (hB.alloc.alloc.alloc.alloc).keep hn | replace hB := (hB.alloc.alloc.alloc.alloc.alloc).keep hn | replace hB := (hB.alloc.alloc.alloc.alloc.alloc.alloc).keep hn); clear hn; (try clear hR); have hR := hB.rules; simp only [Rules, World.size_alloc, Nat.add_one_le_iff] at hR))
  go_loopw [6] (fun i wr => ∃ j : Nat, j ≤ 2 ∧ i = .int .i64 j ∧ Known w wr [(w1.heap.size, #[.int .i64 (wrap64 (p0.tdiv k)), .int .i64 (wrap64 (p1.tdiv k))], 22), (w.heap.size, #[.int .i64 p0, .int .i64 p1], 22)]) (fun i _ => 2 - (intOf i).toNat)
  case atStart => exact ⟨0, by omega, rfl, hB.alloc⟩
  case round =>
    obtain ⟨j, hj, rfl, hK⟩ := hrel
    clear hB hR
    have hB := hK
    clear hK
    have hR := hB.rules
    simp only [Rules, World.size_alloc, Nat.add_one_le_iff] at hR
    have hj3 : j = 0 ∨ j = 1 ∨ j = 2 := by omega
    rcases hj3 with rfl | rfl | rfl
    · go_wp2_with (first | (go_at_call 21; refine (times_back (x := p0) ⟨b0, b0'⟩ ⟨bk, bk'⟩ h0 N0.out _).mono ?_; rintro e w2 ⟨m, hm, rfl, hn⟩; unfold Rest at hm; (first | replace hB := (hB).keep hn | replace hB := (hB.alloc).keep hn | replace hB := (hB.alloc.alloc).keep hn | replace hB := (hB.alloc.alloc.alloc).keep hn | replace hB := (hB.alloc.alloc.alloc.alloc).keep hn | replace hB := (hB.alloc.alloc.alloc.alloc.alloc).keep hn | replace hB := (hB.alloc.alloc.alloc.alloc.alloc.alloc).keep hn); clear hn; (try clear hR); have hR := hB.rules; simp only [Rules, World.size_alloc, Nat.add_one_le_iff] at hR))
      all_goals
        go_roundw
        case rel => exact ⟨1, by omega, rfl, hB⟩
        case measure => simp [intOf]
    · go_wp2_with (first | (go_at_call 21; refine (times_back (x := p1) ⟨b1, b1'⟩ ⟨bk, bk'⟩ h0 N1.out _).mono ?_; rintro e w2 ⟨m, hm, rfl, hn⟩; unfold Rest at hm; (first | replace hB := (hB).keep hn | replace hB := (hB.alloc).keep hn | replace hB := (hB.alloc.alloc).keep hn | replace hB := (hB.alloc.alloc.alloc).keep hn | replace hB := (hB.alloc.alloc.alloc.alloc).keep hn | replace hB := (hB.alloc.alloc.alloc.alloc.alloc).keep hn | replace hB := (hB.alloc.alloc.alloc.alloc.alloc.alloc).keep hn); clear hn; (try clear hR); have hR := hB.rules; simp only [Rules, World.size_alloc, Nat.add_one_le_iff] at hR))
      all_goals
        go_roundw
        case rel => exact ⟨2, by omega, rfl, hB⟩
        case measure => simp [intOf]
    · go_wp2
      all_goals
        refine bodyPost_ret (results_tmp rfl _ _ _) rfl ?_
        refine ⟨ret_true ?_, ?_⟩
        · rfl
        · repeat (first | exact ext_refl _ | exact hB.below | apply ext_alloc | apply ext_drew | (refine ext_set ?_ ?_; · first | (dsimp only; omega) | (simp; omega) | (simp; done)))

theorem walk (p0 p1 : Int) (k : Int) (op0 : Ok p0) (op1 : Ok p1) (ok : Ok k) (w : World) :
    Calls Try.prog 9 #[.agg #[.int .i64 p0, .int .i64 p1], .int .i64 k] w (Gives (.bool true) w) := by
  cases hk : (k == 0) with
  | true =>
    have hB := Known.start w
    go_enter Try.func9, Try.ntmps9
    go_wp2
    all_goals
      refine bodyPost_ret (results_tmp rfl _ _ _) rfl ?_
      refine ⟨ret_true ?_, ?_⟩
      · rfl
      · repeat (first | exact ext_refl _ | exact hB.below | apply ext_alloc | apply ext_drew | (refine ext_set ?_ ?_; · first | (dsimp only; omega) | (simp; omega) | (simp; done)))
  | false =>
    cases h1 : (k == -1) with
    | false => exact mainA p0 p1 k op0.lo op0.hi op1.lo op1.hi ok.lo ok.hi hk h1 w
    | true =>
      cases h2 : (p0 == -9223372036854775808) with
      | true =>
        have hB := Known.start w
        go_enter Try.func9, Try.ntmps9
        go_wp2
        all_goals
          refine bodyPost_ret (results_tmp rfl _ _ _) rfl ?_
          refine ⟨ret_true ?_, ?_⟩
          · rfl
          · repeat (first | exact ext_refl _ | exact hB.below | apply ext_alloc | apply ext_drew | (refine ext_set ?_ ?_; · first | (dsimp only; omega) | (simp; omega) | (simp; done)))
      | false =>
        cases h3 : (p1 == -9223372036854775808) with
        | false => exact mainB p0 p1 k op0.lo op0.hi op1.lo op1.hi ok.lo ok.hi hk h1 h2 h3 w
        | true =>
          have hB := Known.start w
          go_enter Try.func9, Try.ntmps9
          go_wp2
          all_goals
            refine bodyPost_ret (results_tmp rfl _ _ _) rfl ?_
            refine ⟨ret_true ?_, ?_⟩
            · rfl
            · repeat (first | exact ext_refl _ | exact hB.below | apply ext_alloc | apply ext_drew | (refine ext_set ?_ ?_; · first | (dsimp only; omega) | (simp; omega) | (simp; done)))

theorem lifted (os : Os) (started : os.Started) (H : Type) (enc : TypeId × Value → H) :
    ReturnsInHanded {} Try.checked os 9 .any (Rows.fnPointDivSpec.pre6 enc Try.prog Try.f9 Rows.fnPointDivRow.domain false) (Rows.fnPointDivSpec.post enc Try.prog Try.f9 false true false false) := by
  refine returnsInHanded_of_change (C := Try.checked) own started (by kernel_rfl) Try.func9
    (ChangeSpec.witness6 (enc := enc) (C := Try.checked) false ⟨#[], #[.agg #[.int .i64 0, .int .i64 0], .int .i64 0], []⟩ 8 (by kernel_rfl) (by kernel_rfl) (by kernel_rfl) (by kernel_rfl)) ?_
  intro W base args ds gs before hval0 hW hcnd _
  have hval : ∀ (j : Nat) t v, Try.f9.params[j]? = some t → args[j]? = some v → Value.okWide Try.prog W .any base t v := hval0
  have hW' := hW
  obtain ⟨p, q, hA0, hV, rfl, hfz, hnd⟩ := hW
  have hA : DataW.TrodAll enc Try.prog W 0 (fun _ => true) true Try.f9.params.toList args.toList ds p := hA0
  rw [Try.params9] at hA hval
  obtain ⟨v0, vs0, d0, ds0, p0, q0, hargs, rfl, rfl, h0, r0⟩ := trodAll_cons hA
  obtain ⟨v1, vs1, d1, ds1, p1, q1, rfl, rfl, rfl, h1, r1⟩ := trodAll_cons r0
  obtain ⟨rfl, rfl, rfl⟩ := trodAll_nil r1
  obtain rfl : args = #[v0, v1] := by cases args; simp_all
  obtain ⟨rfl, rfl⟩ := trodVars_none hV
  obtain ⟨xp0, xp1, rfl, rfl, rfl, wxp0, wxp1⟩ := open_arr2 Try.underlying22 Try.underlying2 (by kernel_rfl) (by kernel_rfl) (hval 0 22 v0 rfl rfl) h0
  obtain ⟨xk, rfl, rfl, rfl, wxk⟩ := open_int Try.underlying2 (hval 1 2 v1 rfl rfl) h1
  clear hA0 hval0
  refine (walk xp0 xp1 xk (bounds_i64 wxp0) (bounds_i64 wxp1) (bounds_i64 wxk) W).mono fun e W' ⟨he, bel⟩ => ?_
  subst he
  exact ⟨_, rfl, _, _, _, [], _, [], hW', trodAll_mk1 (shut_bool Try.underlying4 _), (trodAll_cons_mk (shut_arr2 Try.underlying22 Try.underlying2 (by kernel_rfl) (by kernel_rfl) wxp0 wxp1) (trodAll_cons_mk (shut_int Try.underlying2 wxk) trodAll_mk0)), rfl, bel.frame _, fun h => by cases h⟩

/-- THE STATEMENT. -/
theorem proved : Rows.FnPointDivSaid :=
  OpenClaim.holds_of_wide 9 Try.f9 rfl rfl rfl rfl rfl rfl rfl ⟨rfl, rfl, rfl, rfl, rfl⟩ rfl rfl rfl rfl rfl (by kernel_rfl) Try.func9 (by kernel_rfl)
    (of_decide_eq_true (by kernel_rfl)) (by unfold Func.isWrapper; first | (rw [if_pos (by decide +kernel)]; kernel_rfl) | (rw [if_neg (by decide +kernel)]; exact ⟨rfl, rfl⟩))
    (fun os started H enc _ => lifted os started H enc)
#print axioms proved
end Go.Proofs.Ytockppelodnhlaa.fnPointDiv
