/-
  Proved: the statement Rows.FnCountedSaid: There are as many points in a small rectangle as its width times its height tells (it is well-formed, and not wider or higher than 16).
  Conditions: none: for every input.
-/
import Derived.Test.YthafdjlgagmfdaaSpec
import Derived.Test.YthafdjlgagmfdaaSets
import Derived.Test.YthafdjlgagmfdaaArith
import Derived.Test.YthafdjlgagmfdaaRow
namespace Go.Proofs.Ythafdjlgagmfdaa.fnCounted
open Go.ChangeShapes Go.WideShapes Go.ChangeAt Go.RowKit
set_option linter.unusedSimpArgs false
set_option linter.unusedVariables false
set_option maxHeartbeats 2000000
set_option maxRecDepth 100000

/-- A call that answers a Bool, of which it is known what it is. -/
theorem Calls.overB {P : Program} {f : FuncId} {args : Array Value} {w : World} {x b : Bool} {y : Over w} (hx : x = b) (h : Calls P f args y.wd (Gives (.bool x) y.wd)) :
    Calls P f args y.wd fun e w'' => e = .returned (.bool b) ∧ ∃ z : Over w, w'' = z.wd := by subst hx; exact Calls.over _ h

theorem Known.tail {w0 w : World} {x : Nat × Array Value × TypeId} {l : List (Nat × Array Value × TypeId)} (h : Known w0 w (x :: l)) : Known w0 w l := ⟨h.1, fun y hy => h.2 y (List.mem_cons_of_mem _ hy)⟩
/-- What the law's tests leave. -/
def Bnd (a b c d : Int) : Prop := (-1000000 ≤ a ∧ a ≤ 1000000) ∧ (-1000000 ≤ b ∧ b ≤ 1000000) ∧ (0 ≤ c - a ∧ c - a ≤ 16) ∧ (0 ≤ d - b ∧ d - b ≤ 16)
/-- How many of the first i columns, beginning 2 ahead of the rectangle, are its own. -/
def cx (W : Int) (i : Nat) : Int := max 0 (min ((i : Int) - 2) W)
def ins (W : Int) (i : Nat) : Bool := decide (2 ≤ i ∧ (i : Int) < W + 2)
def cnt (W H : Int) (i j : Nat) : Int := cx W i * H + (if ins W i then cx H j else 0)
def OutR (a b c d : Int) (i : Nat) (x n : Int) : Prop := x = a - 2 + i ∧ (i : Int) ≤ c - a + 4 ∧ n = cx (c - a) i * (d - b)
def InR (a b c d : Int) (i j : Nat) (y n : Int) : Prop := y = b - 2 + j ∧ (j : Int) ≤ d - b + 4 ∧ n = cnt (c - a) (d - b) i j
theorem bnd {a b c d : Int} (oa : Ok a) (ob : Ok b) (oc : Ok c) (od : Ok d) (h1 : (lessOk c a && lessOk d b) = true) (h2 : wfB a b c d = true) (h3 : decide (16 < lessV c a) = false) (h4 : decide (16 < lessV d b) = false)
    (h5 : decide (a < -1000000) = false) (h6 : decide (1000000 < a) = false) (h7 : decide (b < -1000000) = false) (h8 : decide (1000000 < b) = false) : Bnd a b c d := by
  simp only [Bool.and_eq_true] at h1
  rw [wfB_iff] at h2
  rw [lessV_eq oc oa h1.1, decide_eq_false_iff_not] at h3
  rw [lessV_eq od ob h1.2, decide_eq_false_iff_not] at h4
  rw [decide_eq_false_iff_not] at h5 h6 h7 h8
  unfold Bnd
  omega
theorem cx_bnd {W : Int} (h0 : 0 ≤ W) (h1 : W ≤ 16) (i : Nat) : 0 ≤ cx W i ∧ cx W i ≤ 16 := by unfold cx; omega
theorem cnt_bnd {W H : Int} (h0 : 0 ≤ W) (h1 : W ≤ 16) (k0 : 0 ≤ H) (k1 : H ≤ 16) (i j : Nat) : 0 ≤ cnt W H i j ∧ cnt W H i j ≤ 300 := by
  have u := cx_bnd h0 h1 i
  have v := cx_bnd k0 k1 j
  have p := Int.mul_nonneg u.1 k0
  have q := Int.mul_le_mul_of_nonneg_right u.2 k0
  unfold cnt
  split <;> omega
theorem out_start {a b c d : Int} (hb : Bnd a b c d) : OutR a b c d 0 (wrap64 (a - 2)) 0 := by
  unfold Bnd at hb
  have h : cx (c - a) 0 = 0 := by unfold cx; omega
  refine ⟨?_, by omega, by rw [h, Int.zero_mul]⟩
  rw [wrap_in (by omega) (by omega)]; omega
theorem inn_start {a b c d x n : Int} {i : Nat} (hb : Bnd a b c d) (hO : OutR a b c d i x n) : InR a b c d i 0 (wrap64 (b - 2)) n := by
  unfold Bnd at hb
  have h : cx (d - b) 0 = 0 := by unfold cx; omega
  refine ⟨?_, by omega, ?_⟩
  · rw [wrap_in (by omega) (by omega)]; omega
  · rw [hO.2.2]; unfold cnt; rw [h]; simp
theorem in_iff {a b c d x n y m : Int} {i j : Nat} (hO : OutR a b c d i x n) (hI : InR a b c d i j y m) : inB x y a b c d = true ↔ ins (c - a) i = true ∧ 2 ≤ j ∧ (j : Int) < d - b + 2 := by
  rw [inB_iff, hO.1, hI.1]
  unfold ins
  rw [decide_eq_true_iff]
  omega
theorem y_next {a b c d y m : Int} {i j : Nat} (hb : Bnd a b c d) (hI : InR a b c d i j y m) (hy : y ≤ wrap64 (d + 1)) : wrap64 (y + 1) = b - 2 + ((j + 1 : Nat) : Int) ∧ ((j + 1 : Nat) : Int) ≤ d - b + 4 ∧ wrap64 (y + 1) = y + 1 ∧ y ≤ d + 1 := by
  unfold Bnd at hb
  have e := hI.1
  rw [wrap_in (x := d + 1) (by omega) (by omega)] at hy
  rw [wrap_in (x := y + 1) (by omega) (by omega)]
  omega
theorem inn_out {a b c d x n y m : Int} {i j : Nat} (hb : Bnd a b c d) (hO : OutR a b c d i x n) (hI : InR a b c d i j y m) (hy : y ≤ wrap64 (d + 1)) (hin : inB x y a b c d = false) : InR a b c d i (j + 1) (wrap64 (y + 1)) m := by
  have u := y_next hb hI hy
  refine ⟨u.1, u.2.1, ?_⟩
  rw [← Bool.not_eq_true, in_iff hO hI] at hin
  rw [hI.2.2]
  unfold Bnd at hb
  unfold cnt
  cases hi : ins (c - a) i with
  | false => simp
  | true =>
    rw [hi] at hin
    have hin' : ¬ (2 ≤ j ∧ (j : Int) < d - b + 2) := fun h => hin ⟨rfl, h⟩
    have : cx (d - b) (j + 1) = cx (d - b) j := by unfold cx; omega
    rw [this]
theorem inn_in {a b c d x n y m : Int} {i j : Nat} (hb : Bnd a b c d) (hO : OutR a b c d i x n) (hI : InR a b c d i j y m) (hy : y ≤ wrap64 (d + 1)) (hin : inB x y a b c d = true) : InR a b c d i (j + 1) (wrap64 (y + 1)) (wrap64 (m + 1)) := by
  have u := y_next hb hI hy
  refine ⟨u.1, u.2.1, ?_⟩
  rw [in_iff hO hI] at hin
  have hb' := hb
  unfold Bnd at hb'
  have v := cnt_bnd hb'.2.2.1.1 hb'.2.2.1.2 hb'.2.2.2.1 hb'.2.2.2.2 i j
  rw [← hI.2.2] at v
  rw [wrap_in (x := m + 1) (by omega) (by omega), hI.2.2]
  unfold cnt
  rw [hin.1]
  have : cx (d - b) (j + 1) = cx (d - b) j + 1 := by unfold cx; omega
  rw [this]
  simp only [if_true]
  omega
theorem x_next {a b c d x n : Int} {i : Nat} (hb : Bnd a b c d) (hO : OutR a b c d i x n) (hx : x ≤ wrap64 (c + 1)) : wrap64 (x + 1) = a - 2 + ((i + 1 : Nat) : Int) ∧ ((i + 1 : Nat) : Int) ≤ c - a + 4 ∧ wrap64 (x + 1) = x + 1 ∧ x ≤ c + 1 := by
  unfold Bnd at hb
  have e := hO.1
  rw [wrap_in (x := c + 1) (by omega) (by omega)] at hx
  rw [wrap_in (x := x + 1) (by omega) (by omega)]
  omega
theorem out_step {a b c d x n y m : Int} {i j : Nat} (hb : Bnd a b c d) (hO : OutR a b c d i x n) (hx : x ≤ wrap64 (c + 1)) (hI : InR a b c d i j y m) (hy : ¬ y ≤ wrap64 (d + 1)) : OutR a b c d (i + 1) (wrap64 (x + 1)) m := by
  have u := x_next hb hO hx
  refine ⟨u.1, u.2.1, ?_⟩
  unfold Bnd at hb
  rw [wrap_in (x := d + 1) (by omega) (by omega)] at hy
  have e := hI.1
  rw [hI.2.2]
  unfold cnt
  have hj : cx (d - b) j = d - b := by unfold cx; omega
  cases hi : ins (c - a) i with
  | false =>
    have : cx (c - a) (i + 1) = cx (c - a) i := by unfold ins at hi; rw [decide_eq_false_iff_not] at hi; unfold cx; omega
    rw [this]; simp
  | true =>
    have : cx (c - a) (i + 1) = cx (c - a) i + 1 := by unfold ins at hi; rw [decide_eq_true_iff] at hi; unfold cx; omega
    rw [this, hj, Int.add_mul]; simp
theorem meas {z c : Int} (h1 : wrap64 (z + 1) = z + 1) (h2 : z ≤ c + 1) : (c + 2 - wrap64 (z + 1)).toNat < (c + 2 - z).toNat := by rw [h1]; omega
theorem fin {a b c d x n : Int} {i : Nat} (hb : Bnd a b c d) (hO : OutR a b c d i x n) (hx : ¬ x ≤ wrap64 (c + 1)) : (n == wrap64 (wrap64 (c - a) * wrap64 (d - b))) = true ∧ (n == 0) = emptyB a b c d := by
  unfold Bnd at hb
  rw [wrap_in (x := c + 1) (by omega) (by omega)] at hx
  have e := hO.1
  have hi : cx (c - a) i = c - a := by unfold cx; omega
  have hn := hO.2.2
  rw [hi] at hn
  have p := Int.mul_nonneg hb.2.2.1.1 hb.2.2.2.1
  have q := Int.mul_le_mul_of_nonneg_right hb.2.2.1.2 hb.2.2.2.1
  refine ⟨?_, ?_⟩
  · rw [wrap_in (x := c - a) (by omega) (by omega), wrap_in (x := d - b) (by omega) (by omega), wrap_in (x := (c - a) * (d - b)) (by omega) (by omega), hn]; simp
  · apply bool_eq
    rw [emptyB_iff, beq_iff_eq, hn, Int.mul_eq_zero]
    omega

theorem walk (r0 r1 r2 r3 : Int) (or0 : Ok r0) (or1 : Ok r1) (or2 : Ok r2) (or3 : Ok r3) (w : World) :
    Calls Try.prog 11 #[.agg #[.int .i64 r0, .int .i64 r1, .int .i64 r2, .int .i64 r3]] w (Gives (.bool true) w) := by
  cases h1 : (lessOk r2 r0 && lessOk r3 r1)
  · skip
    have hB := Known.start w
    go_enter Try.func11, Try.ntmps11
    go_wp2_with (first | (go_at_call 29; refine (sWide _ _ _ _ _).mono ?_; rintro e w1 ⟨rfl, hn⟩; (first | with_reducible replace hB := (hB).keep hn | with_reducible replace hB := (hB.alloc).keep hn | with_reducible replace hB := (hB.alloc.alloc).keep hn | with_reducible replace hB := (hB.alloc.alloc.alloc).keep hn | with_reducible replace hB := (hB.alloc.alloc.alloc.alloc).keep hn | with_reducible replace hB := (hB.alloc.alloc.alloc.alloc.alloc).keep hn | with_reducible replace hB := (hB.alloc.alloc.alloc.alloc.alloc.alloc).keep hn | with_reducible replace hB := (((hB.set1 hb1 hb2).set1 hb1 hb2)).keep hn | with_reducible replace hB := (((((hB.set1 hb1 hb2).set1 hb1 hb2).set1 hb1 hb2).set1 hb1 hb2)).keep hn); clear hn; (try clear hR); have hR := hB.rules; simp only [Rules, World.size_alloc, Nat.add_one_le_iff, List.setIfInBounds_toArray, List.set_cons_zero, List.set_cons_succ] at hR))
    all_goals
      refine bodyPost_ret (results_tmp rfl _ _ _) rfl ?_
      refine ⟨ret_true ?_, ?_⟩
      · rfl
      · repeat (first | exact ext_refl _ | exact hB.below | apply ext_alloc | apply ext_drew | (refine ext_set ?_ ?_; · first | (dsimp only; omega) | (simp; omega) | (simp; done)))
  cases h2 : wfB r0 r1 r2 r3
  · skip
    have hB := Known.start w
    go_enter Try.func11, Try.ntmps11
    go_wp2_with (first | (go_at_call 29; refine (sWide _ _ _ _ _).mono ?_; rintro e w1 ⟨rfl, hn⟩; (first | with_reducible replace hB := (hB).keep hn | with_reducible replace hB := (hB.alloc).keep hn | with_reducible replace hB := (hB.alloc.alloc).keep hn | with_reducible replace hB := (hB.alloc.alloc.alloc).keep hn | with_reducible replace hB := (hB.alloc.alloc.alloc.alloc).keep hn | with_reducible replace hB := (hB.alloc.alloc.alloc.alloc.alloc).keep hn | with_reducible replace hB := (hB.alloc.alloc.alloc.alloc.alloc.alloc).keep hn | with_reducible replace hB := (((hB.set1 hb1 hb2).set1 hb1 hb2)).keep hn | with_reducible replace hB := (((((hB.set1 hb1 hb2).set1 hb1 hb2).set1 hb1 hb2).set1 hb1 hb2)).keep hn); clear hn; (try clear hR); have hR := hB.rules; simp only [Rules, World.size_alloc, Nat.add_one_le_iff, List.setIfInBounds_toArray, List.set_cons_zero, List.set_cons_succ] at hR) | (go_at_call 30; refine (sWellFormed _ _ _ _ _).mono ?_; rintro e w1 ⟨rfl, hn⟩; (first | with_reducible replace hB := (hB).keep hn | with_reducible replace hB := (hB.alloc).keep hn | with_reducible replace hB := (hB.alloc.alloc).keep hn | with_reducible replace hB := (hB.alloc.alloc.alloc).keep hn | with_reducible replace hB := (hB.alloc.alloc.alloc.alloc).keep hn | with_reducible replace hB := (hB.alloc.alloc.alloc.alloc.alloc).keep hn | with_reducible replace hB := (hB.alloc.alloc.alloc.alloc.alloc.alloc).keep hn | with_reducible replace hB := (((hB.set1 hb1 hb2).set1 hb1 hb2)).keep hn | with_reducible replace hB := (((((hB.set1 hb1 hb2).set1 hb1 hb2).set1 hb1 hb2).set1 hb1 hb2)).keep hn); clear hn; (try clear hR); have hR := hB.rules; simp only [Rules, World.size_alloc, Nat.add_one_le_iff, List.setIfInBounds_toArray, List.set_cons_zero, List.set_cons_succ] at hR))
    all_goals
      refine bodyPost_ret (results_tmp rfl _ _ _) rfl ?_
      refine ⟨ret_true ?_, ?_⟩
      · rfl
      · repeat (first | exact ext_refl _ | exact hB.below | apply ext_alloc | apply ext_drew | (refine ext_set ?_ ?_; · first | (dsimp only; omega) | (simp; omega) | (simp; done)))
  rcases Bool.eq_false_or_eq_true (decide (16 < lessV r2 r0)) with h3 | h3
  · skip
    have hB := Known.start w
    go_enter Try.func11, Try.ntmps11
    go_wp2_with (first | (go_at_call 29; refine (sWide _ _ _ _ _).mono ?_; rintro e w1 ⟨rfl, hn⟩; (first | with_reducible replace hB := (hB).keep hn | with_reducible replace hB := (hB.alloc).keep hn | with_reducible replace hB := (hB.alloc.alloc).keep hn | with_reducible replace hB := (hB.alloc.alloc.alloc).keep hn | with_reducible replace hB := (hB.alloc.alloc.alloc.alloc).keep hn | with_reducible replace hB := (hB.alloc.alloc.alloc.alloc.alloc).keep hn | with_reducible replace hB := (hB.alloc.alloc.alloc.alloc.alloc.alloc).keep hn | with_reducible replace hB := (((hB.set1 hb1 hb2).set1 hb1 hb2)).keep hn | with_reducible replace hB := (((((hB.set1 hb1 hb2).set1 hb1 hb2).set1 hb1 hb2).set1 hb1 hb2)).keep hn); clear hn; (try clear hR); have hR := hB.rules; simp only [Rules, World.size_alloc, Nat.add_one_le_iff, List.setIfInBounds_toArray, List.set_cons_zero, List.set_cons_succ] at hR) | (go_at_call 30; refine (sWellFormed _ _ _ _ _).mono ?_; rintro e w1 ⟨rfl, hn⟩; (first | with_reducible replace hB := (hB).keep hn | with_reducible replace hB := (hB.alloc).keep hn | with_reducible replace hB := (hB.alloc.alloc).keep hn | with_reducible replace hB := (hB.alloc.alloc.alloc).keep hn | with_reducible replace hB := (hB.alloc.alloc.alloc.alloc).keep hn | with_reducible replace hB := (hB.alloc.alloc.alloc.alloc.alloc).keep hn | with_reducible replace hB := (hB.alloc.alloc.alloc.alloc.alloc.alloc).keep hn | with_reducible replace hB := (((hB.set1 hb1 hb2).set1 hb1 hb2)).keep hn | with_reducible replace hB := (((((hB.set1 hb1 hb2).set1 hb1 hb2).set1 hb1 hb2).set1 hb1 hb2)).keep hn); clear hn; (try clear hR); have hR := hB.rules; simp only [Rules, World.size_alloc, Nat.add_one_le_iff, List.setIfInBounds_toArray, List.set_cons_zero, List.set_cons_succ] at hR))
    all_goals
      refine bodyPost_ret (results_tmp rfl _ _ _) rfl ?_
      refine ⟨ret_true ?_, ?_⟩
      · rfl
      · repeat (first | exact ext_refl _ | exact hB.below | apply ext_alloc | apply ext_drew | (refine ext_set ?_ ?_; · first | (dsimp only; omega) | (simp; omega) | (simp; done)))
  rcases Bool.eq_false_or_eq_true (decide (16 < lessV r3 r1)) with h4 | h4
  · skip
    have hB := Known.start w
    go_enter Try.func11, Try.ntmps11
    go_wp2_with (first | (go_at_call 29; refine (sWide _ _ _ _ _).mono ?_; rintro e w1 ⟨rfl, hn⟩; (first | with_reducible replace hB := (hB).keep hn | with_reducible replace hB := (hB.alloc).keep hn | with_reducible replace hB := (hB.alloc.alloc).keep hn | with_reducible replace hB := (hB.alloc.alloc.alloc).keep hn | with_reducible replace hB := (hB.alloc.alloc.alloc.alloc).keep hn | with_reducible replace hB := (hB.alloc.alloc.alloc.alloc.alloc).keep hn | with_reducible replace hB := (hB.alloc.alloc.alloc.alloc.alloc.alloc).keep hn | with_reducible replace hB := (((hB.set1 hb1 hb2).set1 hb1 hb2)).keep hn | with_reducible replace hB := (((((hB.set1 hb1 hb2).set1 hb1 hb2).set1 hb1 hb2).set1 hb1 hb2)).keep hn); clear hn; (try clear hR); have hR := hB.rules; simp only [Rules, World.size_alloc, Nat.add_one_le_iff, List.setIfInBounds_toArray, List.set_cons_zero, List.set_cons_succ] at hR) | (go_at_call 30; refine (sWellFormed _ _ _ _ _).mono ?_; rintro e w1 ⟨rfl, hn⟩; (first | with_reducible replace hB := (hB).keep hn | with_reducible replace hB := (hB.alloc).keep hn | with_reducible replace hB := (hB.alloc.alloc).keep hn | with_reducible replace hB := (hB.alloc.alloc.alloc).keep hn | with_reducible replace hB := (hB.alloc.alloc.alloc.alloc).keep hn | with_reducible replace hB := (hB.alloc.alloc.alloc.alloc.alloc).keep hn | with_reducible replace hB := (hB.alloc.alloc.alloc.alloc.alloc.alloc).keep hn | with_reducible replace hB := (((hB.set1 hb1 hb2).set1 hb1 hb2)).keep hn | with_reducible replace hB := (((((hB.set1 hb1 hb2).set1 hb1 hb2).set1 hb1 hb2).set1 hb1 hb2)).keep hn); clear hn; (try clear hR); have hR := hB.rules; simp only [Rules, World.size_alloc, Nat.add_one_le_iff, List.setIfInBounds_toArray, List.set_cons_zero, List.set_cons_succ] at hR))
    all_goals
      refine bodyPost_ret (results_tmp rfl _ _ _) rfl ?_
      refine ⟨ret_true ?_, ?_⟩
      · rfl
      · repeat (first | exact ext_refl _ | exact hB.below | apply ext_alloc | apply ext_drew | (refine ext_set ?_ ?_; · first | (dsimp only; omega) | (simp; omega) | (simp; done)))
  rcases Bool.eq_false_or_eq_true (decide (r0 < -1000000)) with h5 | h5
  · skip
    have hB := Known.start w
    go_enter Try.func11, Try.ntmps11
    go_wp2_with (first | (go_at_call 29; refine (sWide _ _ _ _ _).mono ?_; rintro e w1 ⟨rfl, hn⟩; (first | with_reducible replace hB := (hB).keep hn | with_reducible replace hB := (hB.alloc).keep hn | with_reducible replace hB := (hB.alloc.alloc).keep hn | with_reducible replace hB := (hB.alloc.alloc.alloc).keep hn | with_reducible replace hB := (hB.alloc.alloc.alloc.alloc).keep hn | with_reducible replace hB := (hB.alloc.alloc.alloc.alloc.alloc).keep hn | with_reducible replace hB := (hB.alloc.alloc.alloc.alloc.alloc.alloc).keep hn | with_reducible replace hB := (((hB.set1 hb1 hb2).set1 hb1 hb2)).keep hn | with_reducible replace hB := (((((hB.set1 hb1 hb2).set1 hb1 hb2).set1 hb1 hb2).set1 hb1 hb2)).keep hn); clear hn; (try clear hR); have hR := hB.rules; simp only [Rules, World.size_alloc, Nat.add_one_le_iff, List.setIfInBounds_toArray, List.set_cons_zero, List.set_cons_succ] at hR) | (go_at_call 30; refine (sWellFormed _ _ _ _ _).mono ?_; rintro e w1 ⟨rfl, hn⟩; (first | with_reducible replace hB := (hB).keep hn | with_reducible replace hB := (hB.alloc).keep hn | with_reducible replace hB := (hB.alloc.alloc).keep hn | with_reducible replace hB := (hB.alloc.alloc.alloc).keep hn | with_reducible replace hB := (hB.alloc.alloc.alloc.alloc).keep hn | with_reducible replace hB := (hB.alloc.alloc.alloc.alloc.alloc).keep hn | with_reducible replace hB := (hB.alloc.alloc.alloc.alloc.alloc.alloc).keep hn | with_reducible replace hB := (((hB.set1 hb1 hb2).set1 hb1 hb2)).keep hn | with_reducible replace hB := (((((hB.set1 hb1 hb2).set1 hb1 hb2).set1 hb1 hb2).set1 hb1 hb2)).keep hn); clear hn; (try clear hR); have hR := hB.rules; simp only [Rules, World.size_alloc, Nat.add_one_le_iff, List.setIfInBounds_toArray, List.set_cons_zero, List.set_cons_succ] at hR))
    all_goals
      refine bodyPost_ret (results_tmp rfl _ _ _) rfl ?_
      refine ⟨ret_true ?_, ?_⟩
      · rfl
      · repeat (first | exact ext_refl _ | exact hB.below | apply ext_alloc | apply ext_drew | (refine ext_set ?_ ?_; · first | (dsimp only; omega) | (simp; omega) | (simp; done)))
  rcases Bool.eq_false_or_eq_true (decide (1000000 < r0)) with h6 | h6
  · skip
    have hB := Known.start w
    go_enter Try.func11, Try.ntmps11
    go_wp2_with (first | (go_at_call 29; refine (sWide _ _ _ _ _).mono ?_; rintro e w1 ⟨rfl, hn⟩; (first | with_reducible replace hB := (hB).keep hn | with_reducible replace hB := (hB.alloc).keep hn | with_reducible replace hB := (hB.alloc.alloc).keep hn | with_reducible replace hB := (hB.alloc.alloc.alloc).keep hn | with_reducible replace hB := (hB.alloc.alloc.alloc.alloc).keep hn | with_reducible replace hB := (hB.alloc.alloc.alloc.alloc.alloc).keep hn | with_reducible replace hB := (hB.alloc.alloc.alloc.alloc.alloc.alloc).keep hn | with_reducible replace hB := (((hB.set1 hb1 hb2).set1 hb1 hb2)).keep hn | with_reducible replace hB := (((((hB.set1 hb1 hb2).set1 hb1 hb2).set1 hb1 hb2).set1 hb1 hb2)).keep hn); clear hn; (try clear hR); have hR := hB.rules; simp only [Rules, World.size_alloc, Nat.add_one_le_iff, List.setIfInBounds_toArray, List.set_cons_zero, List.set_cons_succ] at hR) | (go_at_call 30; refine (sWellFormed _ _ _ _ _).mono ?_; rintro e w1 ⟨rfl, hn⟩; (first | with_reducible replace hB := (hB).keep hn | with_reducible replace hB := (hB.alloc).keep hn | with_reducible replace hB := (hB.alloc.alloc).keep hn | with_reducible replace hB := (hB.alloc.alloc.alloc).keep hn | with_reducible replace hB := (hB.alloc.alloc.alloc.alloc).keep hn | with_reducible replace hB := (hB.alloc.alloc.alloc.alloc.alloc).keep hn | with_reducible replace hB := (hB.alloc.alloc.alloc.alloc.alloc.alloc).keep hn | with_reducible replace hB := (((hB.set1 hb1 hb2).set1 hb1 hb2)).keep hn | with_reducible replace hB := (((((hB.set1 hb1 hb2).set1 hb1 hb2).set1 hb1 hb2).set1 hb1 hb2)).keep hn); clear hn; (try clear hR); have hR := hB.rules; simp only [Rules, World.size_alloc, Nat.add_one_le_iff, List.setIfInBounds_toArray, List.set_cons_zero, List.set_cons_succ] at hR))
    all_goals
      refine bodyPost_ret (results_tmp rfl _ _ _) rfl ?_
      refine ⟨ret_true ?_, ?_⟩
      · rfl
      · repeat (first | exact ext_refl _ | exact hB.below | apply ext_alloc | apply ext_drew | (refine ext_set ?_ ?_; · first | (dsimp only; omega) | (simp; omega) | (simp; done)))
  rcases Bool.eq_false_or_eq_true (decide (r1 < -1000000)) with h7 | h7
  · skip
    have hB := Known.start w
    go_enter Try.func11, Try.ntmps11
    go_wp2_with (first | (go_at_call 29; refine (sWide _ _ _ _ _).mono ?_; rintro e w1 ⟨rfl, hn⟩; (first | with_reducible replace hB := (hB).keep hn | with_reducible replace hB := (hB.alloc).keep hn | with_reducible replace hB := (hB.alloc.alloc).keep hn | with_reducible replace hB := (hB.alloc.alloc.alloc).keep hn | with_reducible replace hB := (hB.alloc.alloc.alloc.alloc).keep hn | with_reducible replace hB := (hB.alloc.alloc.alloc.alloc.alloc).keep hn | with_reducible replace hB := (hB.alloc.alloc.alloc.alloc.alloc.alloc).keep hn | with_reducible replace hB := (((hB.set1 hb1 hb2).set1 hb1 hb2)).keep hn | with_reducible replace hB := (((((hB.set1 hb1 hb2).set1 hb1 hb2).set1 hb1 hb2).set1 hb1 hb2)).keep hn); clear hn; (try clear hR); have hR := hB.rules; simp only [Rules, World.size_alloc, Nat.add_one_le_iff, List.setIfInBounds_toArray, List.set_cons_zero, List.set_cons_succ] at hR) | (go_at_call 30; refine (sWellFormed _ _ _ _ _).mono ?_; rintro e w1 ⟨rfl, hn⟩; (first | with_reducible replace hB := (hB).keep hn | with_reducible replace hB := (hB.alloc).keep hn | with_reducible replace hB := (hB.alloc.alloc).keep hn | with_reducible replace hB := (hB.alloc.alloc.alloc).keep hn | with_reducible replace hB := (hB.alloc.alloc.alloc.alloc).keep hn | with_reducible replace hB := (hB.alloc.alloc.alloc.alloc.alloc).keep hn | with_reducible replace hB := (hB.alloc.alloc.alloc.alloc.alloc.alloc).keep hn | with_reducible replace hB := (((hB.set1 hb1 hb2).set1 hb1 hb2)).keep hn | with_reducible replace hB := (((((hB.set1 hb1 hb2).set1 hb1 hb2).set1 hb1 hb2).set1 hb1 hb2)).keep hn); clear hn; (try clear hR); have hR := hB.rules; simp only [Rules, World.size_alloc, Nat.add_one_le_iff, List.setIfInBounds_toArray, List.set_cons_zero, List.set_cons_succ] at hR))
    all_goals
      refine bodyPost_ret (results_tmp rfl _ _ _) rfl ?_
      refine ⟨ret_true ?_, ?_⟩
      · rfl
      · repeat (first | exact ext_refl _ | exact hB.below | apply ext_alloc | apply ext_drew | (refine ext_set ?_ ?_; · first | (dsimp only; omega) | (simp; omega) | (simp; done)))
  rcases Bool.eq_false_or_eq_true (decide (1000000 < r1)) with h8 | h8
  · skip
    have hB := Known.start w
    go_enter Try.func11, Try.ntmps11
    go_wp2_with (first | (go_at_call 29; refine (sWide _ _ _ _ _).mono ?_; rintro e w1 ⟨rfl, hn⟩; (first | with_reducible replace hB := (hB).keep hn | with_reducible replace hB := (hB.alloc).keep hn | with_reducible replace hB := (hB.alloc.alloc).keep hn | with_reducible replace hB := (hB.alloc.alloc.alloc).keep hn | with_reducible replace hB := (hB.alloc.alloc.alloc.alloc).keep hn | with_reducible replace hB := (hB.alloc.alloc.alloc.alloc.alloc).keep hn | with_reducible replace hB := (hB.alloc.alloc.alloc.alloc.alloc.alloc).keep hn | with_reducible replace hB := (((hB.set1 hb1 hb2).set1 hb1 hb2)).keep hn | with_reducible replace hB := (((((hB.set1 hb1 hb2).set1 hb1 hb2).set1 hb1 hb2).set1 hb1 hb2)).keep hn); clear hn; (try clear hR); have hR := hB.rules; simp only [Rules, World.size_alloc, Nat.add_one_le_iff, List.setIfInBounds_toArray, List.set_cons_zero, List.set_cons_succ] at hR) | (go_at_call 30; refine (sWellFormed _ _ _ _ _).mono ?_; rintro e w1 ⟨rfl, hn⟩; (first | with_reducible replace hB := (hB).keep hn | with_reducible replace hB := (hB.alloc).keep hn | with_reducible replace hB := (hB.alloc.alloc).keep hn | with_reducible replace hB := (hB.alloc.alloc.alloc).keep hn | with_reducible replace hB := (hB.alloc.alloc.alloc.alloc).keep hn | with_reducible replace hB := (hB.alloc.alloc.alloc.alloc.alloc).keep hn | with_reducible replace hB := (hB.alloc.alloc.alloc.alloc.alloc.alloc).keep hn | with_reducible replace hB := (((hB.set1 hb1 hb2).set1 hb1 hb2)).keep hn | with_reducible replace hB := (((((hB.set1 hb1 hb2).set1 hb1 hb2).set1 hb1 hb2).set1 hb1 hb2)).keep hn); clear hn; (try clear hR); have hR := hB.rules; simp only [Rules, World.size_alloc, Nat.add_one_le_iff, List.setIfInBounds_toArray, List.set_cons_zero, List.set_cons_succ] at hR))
    all_goals
      refine bodyPost_ret (results_tmp rfl _ _ _) rfl ?_
      refine ⟨ret_true ?_, ?_⟩
      · rfl
      · repeat (first | exact ext_refl _ | exact hB.below | apply ext_alloc | apply ext_drew | (refine ext_set ?_ ?_; · first | (dsimp only; omega) | (simp; omega) | (simp; done)))
  have hb := bnd or0 or1 or2 or3 h1 h2 h3 h4 h5 h6 h7 h8
  have hB := Known.start w
  go_enter Try.func11, Try.ntmps11
  go_wp2_with (first | (go_at_call 29; refine (sWide _ _ _ _ _).mono ?_; rintro e w1 ⟨rfl, hn⟩; (first | with_reducible replace hB := (hB).keep hn | with_reducible replace hB := (hB.alloc).keep hn | with_reducible replace hB := (hB.alloc.alloc).keep hn | with_reducible replace hB := (hB.alloc.alloc.alloc).keep hn | with_reducible replace hB := (hB.alloc.alloc.alloc.alloc).keep hn | with_reducible replace hB := (hB.alloc.alloc.alloc.alloc.alloc).keep hn | with_reducible replace hB := (hB.alloc.alloc.alloc.alloc.alloc.alloc).keep hn | with_reducible replace hB := (((hB.set1 hb1 hb2).set1 hb1 hb2)).keep hn | with_reducible replace hB := (((((hB.set1 hb1 hb2).set1 hb1 hb2).set1 hb1 hb2).set1 hb1 hb2)).keep hn); clear hn; (try clear hR); have hR := hB.rules; simp only [Rules, World.size_alloc, Nat.add_one_le_iff, List.setIfInBounds_toArray, List.set_cons_zero, List.set_cons_succ] at hR) | (go_at_call 30; refine (sWellFormed _ _ _ _ _).mono ?_; rintro e w1 ⟨rfl, hn⟩; (first | with_reducible replace hB := (hB).keep hn | with_reducible replace hB := (hB.alloc).keep hn | with_reducible replace hB := (hB.alloc.alloc).keep hn | with_reducible replace hB := (hB.alloc.alloc.alloc).keep hn | with_reducible replace hB := (hB.alloc.alloc.alloc.alloc).keep hn | with_reducible replace hB := (hB.alloc.alloc.alloc.alloc.alloc).keep hn | with_reducible replace hB := (hB.alloc.alloc.alloc.alloc.alloc.alloc).keep hn | with_reducible replace hB := (((hB.set1 hb1 hb2).set1 hb1 hb2)).keep hn | with_reducible replace hB := (((((hB.set1 hb1 hb2).set1 hb1 hb2).set1 hb1 hb2).set1 hb1 hb2)).keep hn); clear hn; (try clear hR); have hR := hB.rules; simp only [Rules, World.size_alloc, Nat.add_one_le_iff, List.setIfInBounds_toArray, List.set_cons_zero, List.set_cons_succ] at hR))
  go_loopw [5, 6] (fun ns xs wr => ∃ (i : Nat) (x c : Int), ns = .int .i64 c ∧ xs = .int .i64 x ∧ OutR r0 r1 r2 r3 i x c ∧ Known w wr [(w.heap.size, #[.int .i64 r0, .int .i64 r1, .int .i64 r2, .int .i64 r3], 22)]) (fun _ xs _ => (r2 + 2 - intOf xs).toNat)
  case atStart => exact ⟨0, _, _, rfl, rfl, out_start hb, Known.tail hB⟩
  case round =>
    obtain ⟨i, x, c, rfl, rfl, hO, hK⟩ := hrel
    clear hB; (try clear hR)
    have hB := hK
    clear hK
    have hR := hB.rules
    simp only [Rules, Nat.add_one_le_iff] at hR
    by_cases hx : x ≤ wrap64 (r2 + 1)
    · go_wp2
      go_loopw [5, 7] (fun ns ys wr => ∃ (j : Nat) (y m : Int), ns = .int .i64 m ∧ ys = .int .i64 y ∧ InR r0 r1 r2 r3 i j y m ∧ Known w wr [(w.heap.size, #[.int .i64 r0, .int .i64 r1, .int .i64 r2, .int .i64 r3], 22)]) (fun _ ys _ => (r3 + 2 - intOf ys).toNat)
      case atStart => exact ⟨0, _, _, rfl, rfl, inn_start hb hO, hB⟩
      case round =>
        obtain ⟨j, y, m, rfl, rfl, hI, hK⟩ := hrel
        clear hB; (try clear hR)
        have hB := hK
        clear hK
        have hR := hB.rules
        simp only [Rules, Nat.add_one_le_iff] at hR
        by_cases hy : y ≤ wrap64 (r3 + 1)
        · have un := y_next hb hI hy
          have hm := meas un.2.2.1 un.2.2.2
          clear un
          cases hin : inB x y r0 r1 r2 r3
          · have hn' := inn_out hb hO hI hy hin
            go_wp2_with (first | (go_at_call 33; refine (iPointIn _ _ _ _ _ _ _).mono ?_; rintro e w1 ⟨rfl, hn⟩; (first | with_reducible replace hB := (hB).keep hn | with_reducible replace hB := (hB.alloc).keep hn | with_reducible replace hB := (hB.alloc.alloc).keep hn | with_reducible replace hB := (hB.alloc.alloc.alloc).keep hn | with_reducible replace hB := (hB.alloc.alloc.alloc.alloc).keep hn | with_reducible replace hB := (hB.alloc.alloc.alloc.alloc.alloc).keep hn | with_reducible replace hB := (hB.alloc.alloc.alloc.alloc.alloc.alloc).keep hn | with_reducible replace hB := (((hB.set1 hb1 hb2).set1 hb1 hb2)).keep hn | with_reducible replace hB := (((((hB.set1 hb1 hb2).set1 hb1 hb2).set1 hb1 hb2).set1 hb1 hb2)).keep hn); clear hn; (try clear hR); have hR := hB.rules; simp only [Rules, World.size_alloc, Nat.add_one_le_iff, List.setIfInBounds_toArray, List.set_cons_zero, List.set_cons_succ] at hR))
            go_roundw
            case rel => exact ⟨j + 1, _, _, rfl, rfl, hn', hB⟩
            case measure => simpa [intOf] using hm
          · have hn' := inn_in hb hO hI hy hin
            go_wp2_with (first | (go_at_call 33; refine (iPointIn _ _ _ _ _ _ _).mono ?_; rintro e w1 ⟨rfl, hn⟩; (first | with_reducible replace hB := (hB).keep hn | with_reducible replace hB := (hB.alloc).keep hn | with_reducible replace hB := (hB.alloc.alloc).keep hn | with_reducible replace hB := (hB.alloc.alloc.alloc).keep hn | with_reducible replace hB := (hB.alloc.alloc.alloc.alloc).keep hn | with_reducible replace hB := (hB.alloc.alloc.alloc.alloc.alloc).keep hn | with_reducible replace hB := (hB.alloc.alloc.alloc.alloc.alloc.alloc).keep hn | with_reducible replace hB := (((hB.set1 hb1 hb2).set1 hb1 hb2)).keep hn | with_reducible replace hB := (((((hB.set1 hb1 hb2).set1 hb1 hb2).set1 hb1 hb2).set1 hb1 hb2)).keep hn); clear hn; (try clear hR); have hR := hB.rules; simp only [Rules, World.size_alloc, Nat.add_one_le_iff, List.setIfInBounds_toArray, List.set_cons_zero, List.set_cons_succ] at hR))
            go_roundw
            case rel => exact ⟨j + 1, _, _, rfl, rfl, hn', hB⟩
            case measure => simpa [intOf] using hm
        · have un := x_next hb hO hx
          have hm := meas un.2.2.1 un.2.2.2
          clear un
          have hn' := out_step hb hO hx hI hy
          go_wp2
          go_roundw
          case rel => exact ⟨i + 1, _, _, rfl, rfl, hn', hB⟩
          case measure => simpa [intOf] using hm
    · obtain ⟨e1, e2⟩ := fin hb hO hx
      cases hE : emptyB r0 r1 r2 r3
      all_goals
        rw [hE] at e2
        go_wp2
        (first | with_reducible refine wp_region_known hB ?hm ?hB ?_ | with_reducible refine wp_region_known hB.alloc ?hm ?hB ?_ | with_reducible refine wp_region_known hB.alloc.alloc ?hm ?hB ?_ | with_reducible refine wp_region_known hB.alloc.alloc.alloc ?hm ?hB ?_ | with_reducible refine wp_region_known hB.alloc.alloc.alloc.alloc ?hm ?hB ?_ | with_reducible refine wp_region_known hB.alloc.alloc.alloc.alloc.alloc ?hm ?hB ?_ | with_reducible refine wp_region_known hB.alloc.alloc.alloc.alloc.alloc.alloc ?hm ?hB ?_); (case hm => kernel_rfl); (case hB => kernel_rfl); (try clear hR); intro hov; simp only [Rules, World.size_alloc, Nat.add_one_le_iff, List.setIfInBounds_toArray, List.set_cons_zero, List.set_cons_succ] at hov; (repeat (go_big_quiet_step (first | (go_at_call 31; exact Calls.over _ (iRectDx _ _ _ _ _)) | (go_at_call 32; exact Calls.over _ (iRectDy _ _ _ _ _)) | (go_at_call 28; exact Calls.overB (by assumption) (iRectEmpty _ _ _ _ _)) | (go_at_call 28; exact Calls.over _ (iRectEmpty _ _ _ _ _))))); refine wpQuiet_nil ?_; intro wx hB; clear hov; have hR := hB.rules; simp only [Rules, World.size_alloc, Nat.add_one_le_iff, List.setIfInBounds_toArray, List.set_cons_zero, List.set_cons_succ] at hR
        go_wp2
        all_goals
          refine bodyPost_ret (results_tmp rfl _ _ _) rfl ?_
          refine ⟨ret_true ?_, ?_⟩
          · first | rfl | (simp [*]; done)
          · repeat (first | exact ext_refl _ | exact hB.below | apply ext_alloc | apply ext_drew | (refine ext_set ?_ ?_; · first | (dsimp only; omega) | (simp; omega) | (simp; done)))

theorem lifted (os : Os) (started : os.Started) (H : Type) (enc : TypeId × Value → H) :
    ReturnsInHanded {} Try.checked os 11 .any (Rows.fnCountedSpec.pre6 enc Try.prog Try.f11 Rows.fnCountedRow.domain false) (Rows.fnCountedSpec.post enc Try.prog Try.f11 false true false false) := by
  refine returnsInHanded_of_change (C := Try.checked) own started (by kernel_rfl) Try.func11
    (ChangeSpec.witness6 (enc := enc) (C := Try.checked) false ⟨#[], #[.agg #[.int .i64 0, .int .i64 0, .int .i64 0, .int .i64 0]], []⟩ 8 (by kernel_rfl) (by kernel_rfl) (by kernel_rfl) (by kernel_rfl)) ?_
  intro W base args ds gs before hval0 hW hcnd _
  have hval : ∀ (j : Nat) t v, Try.f11.params[j]? = some t → args[j]? = some v → Value.okWide Try.prog W .any base t v := hval0
  have hW' := hW
  obtain ⟨p, q, hA0, hV, rfl, hfz, hnd⟩ := hW
  have hA : DataW.TrodAll enc Try.prog W 0 (fun _ => true) true Try.f11.params.toList args.toList ds p := hA0
  rw [Try.params11] at hA hval
  obtain ⟨v0, vs0, d0, ds0, p0, q0, hargs, rfl, rfl, h0, r0⟩ := trodAll_cons hA
  obtain ⟨rfl, rfl, rfl⟩ := trodAll_nil r0
  obtain rfl : args = #[v0] := by cases args; simp_all
  obtain ⟨rfl, rfl⟩ := trodVars_none hV
  obtain ⟨xr0, xr1, xr2, xr3, rfl, rfl, rfl, wxr0, wxr1, wxr2, wxr3⟩ := open_arr4 Try.underlying22 Try.underlying2 (by kernel_rfl) (by kernel_rfl) (hval 0 22 v0 rfl rfl) h0
  clear hA0 hval0
  refine (walk xr0 xr1 xr2 xr3 (bounds_i64 wxr0) (bounds_i64 wxr1) (bounds_i64 wxr2) (bounds_i64 wxr3) W).mono fun e W' ⟨he, bel⟩ => ?_
  subst he
  exact ⟨_, rfl, _, _, _, [], _, [], hW', trodAll_mk1 (shut_bool Try.underlying4 _), (trodAll_cons_mk (shut_arr4 Try.underlying22 Try.underlying2 (by kernel_rfl) (by kernel_rfl) wxr0 wxr1 wxr2 wxr3) trodAll_mk0), rfl, bel.frame _, fun h => by cases h⟩

/-- THE STATEMENT. -/
theorem proved : Rows.FnCountedSaid :=
  OpenClaim.holds_of_wide 11 Try.f11 rfl rfl rfl rfl rfl rfl rfl ⟨rfl, rfl, rfl, rfl, rfl⟩ rfl rfl rfl rfl rfl (by kernel_rfl) Try.func11 (by kernel_rfl)
    (of_decide_eq_true (by kernel_rfl)) (by unfold Func.isWrapper; first | (rw [if_pos (by decide +kernel)]; kernel_rfl) | (rw [if_neg (by decide +kernel)]; exact ⟨rfl, rfl⟩))
    (fun os started H enc _ => lifted os started H enc)
#print axioms proved
end Go.Proofs.Ythafdjlgagmfdaa.fnCounted
