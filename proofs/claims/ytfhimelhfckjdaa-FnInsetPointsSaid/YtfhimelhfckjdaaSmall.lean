/-
  Plain arithmetic of Rectangle.Inset and Point.Mod, one coordinate at a time, where nothing wraps: what the sides are, and that Mod is the rest of a quotient, moved.
  Conditions: each theorem writes its own out.
-/
import Derived.Test.YtfhimelhfckjdaaArith
import Derived.Test.YtfhimelhfckjdaaSets
namespace Go.Proofs.Ytfhimelhfckjdaa
open Go.RowKit

/-- A number that is small enough for a few sums of such numbers. -/
def Lim (x : Int) : Prop := -4000000000000 ≤ x ∧ x ≤ 4000000000000

/-- What the laws ask of their numbers. -/
def In12 (x : Int) : Prop := -1000000000000 ≤ x ∧ x ≤ 1000000000000
theorem In12.lim {x : Int} (h : In12 x) : Lim x := by unfold In12 at h; unfold Lim; omega
/-- The law's own test, where nothing wraps. -/
theorem less_in {a c n : Int} (ha : Lim a) (hc : Lim c) (hn : Lim n) : wrap64 (c - a) < wrap64 (2 * n) ↔ c - a < 2 * n := by
  unfold Lim at *
  rw [wrap_in (x := c - a) (by omega) (by omega), wrap_in (x := 2 * n) (by omega) (by omega)]

theorem ins_in {a c n : Int} (ha : Lim a) (hc : Lim c) (hn : Lim n) (h : 2 * n ≤ c - a) : insLo a c n = a + n ∧ insHi a c n = c - n := by
  unfold Lim at *
  unfold insLo insHi
  rw [wrap_in (x := c - a) (by omega) (by omega), wrap_in (x := 2 * n) (by omega) (by omega), if_neg (by omega), if_neg (by omega), wrap_in (x := a + n) (by omega) (by omega), wrap_in (x := c - n) (by omega) (by omega)]
  exact ⟨rfl, rfl⟩
theorem ins_mid {a c n : Int} (ha : Lim a) (hc : Lim c) (hn : Lim n) (h : c - a < 2 * n) : insLo a c n = insHi a c n := by
  unfold Lim at *
  unfold insLo insHi
  rw [wrap_in (x := c - a) (by omega) (by omega), wrap_in (x := 2 * n) (by omega) (by omega), if_pos (by omega), if_pos (by omega)]

/-- Mod, one coordinate: the rest of a quotient, moved. -/
theorem modC_eq {x a c : Int} (hw : 0 < c - a) (ow : Ok (c - a)) (ox : Ok (x - a)) (oa : Ok a) (oc : Ok c) : modC x a c = a + (x - a) % (c - a) := by
  unfold modC
  rw [wrap_ok ow, wrap_ok ox]
  generalize hW : c - a = W at *
  generalize x - a = X at *
  have h0 := Int.emod_nonneg X (show W ≠ 0 by omega)
  have h1 := Int.emod_lt_of_pos X hw
  have hm : modUp (X.tmod W) W = X % W := by
    unfold modUp
    have h2 := Int.tmod_eq_emod (a := X) (b := W)
    by_cases hX : 0 ≤ X
    · rw [Int.tmod_eq_emod_of_nonneg hX, if_neg (by omega)]
    · rw [h2]
      by_cases hd : W ∣ X
      · have h3 : X % W = 0 := Int.emod_eq_zero_of_dvd hd
        simp [hd, h3]
      · have h3 : X % W ≠ 0 := fun h => hd (Int.dvd_of_emod_eq_zero h)
        have hcnd : ¬ (0 ≤ X ∨ W ∣ X) := fun h => h.elim hX hd
        rw [if_neg hcnd]
        have ha : (W.natAbs : Int) = W := by omega
        rw [ha, if_pos (by omega), show X % W - W + W = X % W by omega]
        unfold Ok at *
        exact wrap_in (by omega) (by omega)
  rw [hm]
  unfold Ok at *
  rw [wrap_in (by omega) (by omega)]
  omega
theorem modC_in {x a c : Int} (hw : 0 < c - a) (ow : Ok (c - a)) (ox : Ok (x - a)) (oa : Ok a) (oc : Ok c) : a ≤ modC x a c ∧ modC x a c < c := by
  rw [modC_eq hw ow ox oa oc]
  have h0 := Int.emod_nonneg (x - a) (show c - a ≠ 0 by omega)
  have h1 := Int.emod_lt_of_pos (x - a) hw
  omega
/-- What is taken away is a multiple. -/
theorem modC_less {x a c : Int} (hw : 0 < c - a) (ow : Ok (c - a)) (ox : Ok (x - a)) (oa : Ok a) (oc : Ok c) : x - modC x a c = (c - a) * ((x - a) / (c - a)) := by
  rw [modC_eq hw ow ox oa oc]
  have := Int.mul_ediv_add_emod (x - a) (c - a)
  omega
theorem tmod_mul_zero (W k : Int) : (W * k).tmod W = 0 := Int.mul_tmod_right W k
theorem nz_of {w : Int} (h : 0 < w) : (w == 0) = false := by simp; omega
theorem wid_nz {a c : Int} (hw : a < c) (ow : Ok (c - a)) : (wrap64 (c - a) == 0) = false := by rw [wrap_ok ow]; simp; omega
/-- The width of a rectangle with points is not 0, wrapped or not. -/
theorem wid_any {a c : Int} (hw : a < c) (oa : Ok a) (oc : Ok c) : (wrap64 (c - a) == 0) = false := by
  unfold Ok at *
  have : wrap64 (c - a) ≠ 0 := by unfold wrap64; omega
  simpa using this
/-- What other laws ask of their numbers. -/
def In9 (x : Int) : Prop := -1000000000 ≤ x ∧ x ≤ 1000000000
def In6 (x : Int) : Prop := -1000000 ≤ x ∧ x ≤ 1000000
theorem mul_in {k W : Int} (hk : In6 k) (h0 : 0 ≤ W) (h1 : W ≤ 2000000) : -2000000000000 ≤ k * W ∧ k * W ≤ 2000000000000 := by
  unfold In6 at hk
  have u := Int.mul_le_mul_of_nonneg_right hk.2 h0
  have v := Int.mul_le_mul_of_nonneg_right hk.1 h0
  omega
theorem modC_self {x a c : Int} (ha : Lim a) (hc : Lim c) (h0 : a ≤ x) (h1 : x < c) : modC x a c = x := by
  unfold Lim at *
  rw [modC_eq (by omega) ⟨by omega, by omega⟩ ⟨by omega, by omega⟩ ⟨by omega, by omega⟩ ⟨by omega, by omega⟩, Int.emod_eq_of_lt (by omega) (by omega)]
  omega
/-- Some widths away. -/
theorem modC_shift {x a c k : Int} (hx : In6 x) (ha : In6 a) (hc : In6 c) (hk : In6 k) (h0 : a < c) : modC (wrap64 (x + wrap64 (k * wrap64 (c - a)))) a c = modC x a c := by
  have m := mul_in (W := c - a) hk (by omega) (by unfold In6 at *; omega)
  unfold In6 at *
  rw [wrap_in (x := c - a) (by omega) (by omega), wrap_in (x := k * (c - a)) (by omega) (by omega), wrap_in (x := x + k * (c - a)) (by omega) (by omega)]
  have e : x + k * (c - a) - a = x - a + k * (c - a) := by omega
  rw [modC_eq (x := x) (by omega) ⟨by omega, by omega⟩ ⟨by omega, by omega⟩ ⟨by omega, by omega⟩ ⟨by omega, by omega⟩,
    modC_eq (x := x + k * (c - a)) (by omega) ⟨by omega, by omega⟩ ⟨by omega, by omega⟩ ⟨by omega, by omega⟩ ⟨by omega, by omega⟩, e, Int.add_mul_emod_self_right]
/-- What is taken away of a point by Mod. -/
def byC (x a c : Int) : Int := wrap64 (x - modC x a c)
theorem byC_eq {x a c : Int} (hx : In12 x) (ha : In12 a) (hc : In12 c) (h0 : a < c) : byC x a c = (c - a) * ((x - a) / (c - a)) ∧ byC x a c = x - modC x a c ∧ a ≤ modC x a c ∧ modC x a c < c := by
  unfold In12 at *
  have h1 := modC_in (x := x) (a := a) (c := c) (by omega) ⟨by omega, by omega⟩ ⟨by omega, by omega⟩ ⟨by omega, by omega⟩ ⟨by omega, by omega⟩
  have h2 := modC_less (x := x) (a := a) (c := c) (by omega) ⟨by omega, by omega⟩ ⟨by omega, by omega⟩ ⟨by omega, by omega⟩ ⟨by omega, by omega⟩
  unfold byC
  rw [wrap_in (by omega) (by omega)]
  exact ⟨h2, rfl, h1⟩
theorem byC_tmod {x a c : Int} (hx : In12 x) (ha : In12 a) (hc : In12 c) (h0 : a < c) : ((byC x a c).tmod (wrap64 (c - a)) != 0) = false := by
  rw [(byC_eq hx ha hc h0).1]
  unfold In12 at *
  rw [wrap_in (by omega) (by omega), Int.mul_tmod_right]
  rfl
theorem tile_in {x y a c : Int} (hx : In12 x) (hy : In12 y) (ha : In12 a) (hc : In12 c) (h0 : a < c) : (wrap64 (a + byC x a c) ≤ y ∧ y < wrap64 (c + byC x a c)) ↔ byC y a c = byC x a c := by
  obtain ⟨e1, e2, e3, e4⟩ := byC_eq hx ha hc h0
  obtain ⟨f1, f2, f3, f4⟩ := byC_eq hy ha hc h0
  have k1 : wrap64 (a + byC x a c) = a + byC x a c := by unfold In12 at *; rw [e2]; exact wrap_in (by omega) (by omega)
  have k2 : wrap64 (c + byC x a c) = c + byC x a c := by unfold In12 at *; rw [e2]; exact wrap_in (by omega) (by omega)
  rw [k1, k2]
  constructor
  · intro ⟨u, v⟩
    have hq : (y - a) / (c - a) = (x - a) / (c - a) ∧ (y - a) % (c - a) = y - a - byC x a c := (Int.ediv_emod_unique (by omega)).2 ⟨by rw [← e1]; omega, by omega, by omega⟩
    rw [f1, e1, hq.1]
  · intro h
    rw [← h, f2]
    omega
theorem tile_self {x a c : Int} (hx : In12 x) (ha : In12 a) (hc : In12 c) (h0 : a < c) : wrap64 (a + byC x a c) ≤ x ∧ x < wrap64 (c + byC x a c) := (tile_in hx hx ha hc h0).2 rfl
end Go.Proofs.Ytfhimelhfckjdaa
