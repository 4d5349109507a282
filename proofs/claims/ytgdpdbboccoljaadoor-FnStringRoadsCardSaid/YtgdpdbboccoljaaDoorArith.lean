/-
  Plain arithmetic on numbers of 64 bits: when the reference's Sum, Less and Times say that a result is a number, and what a quotient and a rest are.
  Conditions: each theorem writes its own out.
-/
import Derived.Test.YtgdpdbboccoljaaDoorPlain
namespace Go.Proofs.YtgdpdbboccoljaaDoor
open Go.RowKit

theorem wrap_ok {x : Int} (h : Ok x) : wrap64 x = x := by unfold Ok at h; unfold wrap64; omega
theorem wrap_in {x : Int} (h1 : -9223372036854775808 ≤ x) (h2 : x ≤ 9223372036854775807) : wrap64 x = x := wrap_ok ⟨h1, h2⟩

theorem sumOk_iff {a b : Int} (ha : Ok a) (hb : Ok b) : sumOk a b = true ↔ Ok (a + b) := by
  unfold Ok at *
  unfold sumOk wrap64
  simp only [Bool.not_eq_true', Bool.or_eq_false_iff, Bool.and_eq_false_iff, decide_eq_false_iff_not]
  omega
theorem sumV_eq {a b : Int} (ha : Ok a) (hb : Ok b) (h : sumOk a b = true) : sumV a b = a + b := by
  unfold sumV; rw [if_pos h]; exact wrap_ok ((sumOk_iff ha hb).1 h)
theorem lessOk_iff {a b : Int} (ha : Ok a) (hb : Ok b) : lessOk a b = true ↔ Ok (a - b) := by
  unfold Ok at *
  unfold lessOk wrap64
  simp only [Bool.not_eq_true', Bool.or_eq_false_iff, Bool.and_eq_false_iff, decide_eq_false_iff_not]
  omega
theorem lessV_eq {a b : Int} (ha : Ok a) (hb : Ok b) (h : lessOk a b = true) : lessV a b = a - b := by
  unfold lessV; rw [if_pos h]; exact wrap_ok ((lessOk_iff ha hb).1 h)

/-- Of a quotient and a rest, cut towards 0. -/
theorem tdiv_facts (x k : Int) (hk : k ≠ 0) : x = x.tdiv k * k + x.tmod k ∧ (0 ≤ x → 0 ≤ x.tdiv k * k ∧ 0 ≤ x.tmod k) ∧ (x ≤ 0 → x.tdiv k * k ≤ 0 ∧ x.tmod k ≤ 0) ∧ (0 < k → x.tmod k < k ∧ -k < x.tmod k) ∧ (k < 0 → x.tmod k < -k ∧ k < x.tmod k) := by
  have e : x = x.tdiv k * k + x.tmod k := by have := Int.tdiv_mul_add_tmod x k; omega
  have pos : ∀ y : Int, 0 ≤ y → 0 ≤ y.tmod k ∧ 0 ≤ y.tdiv k * k := fun y hy => by
    have h1 := Int.tmod_nonneg k hy
    refine ⟨h1, ?_⟩
    rcases Int.lt_or_lt_of_ne hk with h | h
    · have : y.tdiv k ≤ 0 := Int.tdiv_nonpos_of_nonneg_of_nonpos hy (by omega)
      exact Int.mul_nonneg_of_nonpos_of_nonpos this (by omega)
    · have : 0 ≤ y.tdiv k := Int.tdiv_nonneg hy (by omega)
      exact Int.mul_nonneg this (by omega)
  refine ⟨e, fun hx => ⟨(pos x hx).2, (pos x hx).1⟩, fun hx => ?_, fun h => ?_, fun h => ?_⟩
  · have := pos (-x) (by omega)
    rw [Int.neg_tmod, Int.neg_tdiv, Int.neg_mul] at this
    omega
  · have h1 := Int.tmod_lt_of_pos x h
    have h2 := Int.tmod_lt_of_pos (-x) h
    rw [Int.neg_tmod] at h2
    omega
  · have h1 := Int.tmod_lt_of_pos x (show 0 < -k by omega)
    have h2 := Int.tmod_lt_of_pos (-x) (show 0 < -k by omega)
    rw [Int.tmod_neg] at h1 h2
    rw [Int.neg_tmod] at h2
    omega

theorem tdiv_ok {x k : Int} (hx : Ok x) (hk : k ≠ 0) (hn : ¬(k = -1 ∧ x = -9223372036854775808)) : Ok (x.tdiv k) := by
  by_cases h1 : k = 1
  · subst h1; simpa using hx
  by_cases h2 : k = -1
  · subst h2
    rw [Int.tdiv_neg, Int.tdiv_one]
    unfold Ok at *; omega
  · have h3 := Int.natAbs_tdiv_le_natAbs x k
    have hh : (x.tdiv k).natAbs ≤ x.natAbs / 2 := by
      rw [Int.natAbs_tdiv]
      have : 2 ≤ k.natAbs := by omega
      exact Nat.div_le_div_left this (by omega)
    unfold Ok at *; omega

/-- If the product is a number, Times says so. -/
theorem timesOk_of {a b : Int} (ha : Ok a) (hb : Ok b) (h : Ok (a * b)) : timesOk a b = true := by
  unfold timesOk timesNo
  by_cases ha0 : a = 0
  · simp [ha0]
  by_cases hb0 : b = 0
  · simp [hb0]
  have e1 : wrap64 (a * b) = a * b := wrap_ok h
  have e2 : (a * b).tdiv b = a := Int.mul_tdiv_cancel a hb0
  rw [e1, e2, wrap_ok ha]
  by_cases h1 : a = -1
  · subst h1
    have : b ≠ -9223372036854775808 := by intro hb'; subst hb'; unfold Ok at h; omega
    simp [this]
  · by_cases h2 : b = -1
    · subst h2
      have : a ≠ -9223372036854775808 := by intro ha'; subst ha'; unfold Ok at h; omega
      simp [this]
    · simp [h1, h2]
theorem timesV_of {a b : Int} (ha : Ok a) (hb : Ok b) (h : Ok (a * b)) : timesV a b = a * b := by
  have h1 := timesOk_of ha hb h
  unfold timesOk at h1
  unfold timesV
  by_cases ha0 : a = 0
  · simp [ha0]
  by_cases hb0 : b = 0
  · simp [hb0]
  have e0 : (a == 0 || b == 0) = false := by simp [ha0, hb0]
  rw [e0] at h1 ⊢
  simp only [Bool.false_or, Bool.not_eq_true'] at h1
  simp only [h1, Bool.false_eq_true, if_false]
  exact wrap_ok h
/-- If Times says so, the product is a number. -/
theorem ok_of_timesOk {a b : Int} (ha : Ok a) (hb : Ok b) (h : timesOk a b = true) : Ok (a * b) := by
  by_cases ha0 : a = 0
  · subst ha0; simp [Ok]
  by_cases hb0 : b = 0
  · subst hb0; simp [Ok]
  have e0 : (a == 0 || b == 0) = false := by simp [ha0, hb0]
  unfold timesOk timesNo at h
  rw [e0] at h
  simp only [Bool.false_or, Bool.not_eq_true', Bool.or_eq_false_iff, Bool.and_eq_false_iff, beq_eq_false_iff_ne, bne_eq_false_iff_eq] at h
  obtain ⟨⟨h1, h2⟩, h3⟩ := h
  have hc := ok_wrap (a * b)
  have hq : Ok ((wrap64 (a * b)).tdiv b) := by
    refine tdiv_ok hc hb0 ?_
    rintro ⟨hb1, hc1⟩
    rw [hc1, hb1] at h3
    have : wrap64 ((-9223372036854775808 : Int).tdiv (-1)) = -9223372036854775808 := by rw [Int.tdiv_neg, Int.tdiv_one]; unfold wrap64; omega
    rw [this] at h3
    omega
  rw [wrap_ok hq] at h3
  have f := tdiv_facts (wrap64 (a * b)) b hb0
  rw [h3] at f
  obtain ⟨f1, _, _, f4, f5⟩ := f
  generalize a * b = p at *
  unfold Ok at *
  unfold wrap64 at *
  omega
theorem timesV_eq {a b : Int} (ha : Ok a) (hb : Ok b) (h : timesOk a b = true) : timesV a b = a * b := timesV_of ha hb (ok_of_timesOk ha hb h)

end Go.Proofs.YtgdpdbboccoljaaDoor
