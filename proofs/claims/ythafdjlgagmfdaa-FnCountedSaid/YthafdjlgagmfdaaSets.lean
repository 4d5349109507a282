/-
  Rectangles as sets of points, in plain Lean: what the tests, the intersection and the union of rectangles say of the corners, and the laws that such sets have.
  Conditions: none beyond those that each theorem writes out.
-/
import Derived.Test.YthafdjlgagmfdaaPlain
namespace Go.Proofs.Ythafdjlgagmfdaa
open Go.RowKit

theorem emptyB_iff {a b c d : Int} : emptyB a b c d = true ↔ c ≤ a ∨ d ≤ b := by simp [emptyB]
theorem emptyB_not {a b c d : Int} : emptyB a b c d = false ↔ a < c ∧ b < d := by simp [emptyB]
theorem inB_iff {x y a b c d : Int} : inB x y a b c d = true ↔ a ≤ x ∧ x < c ∧ b ≤ y ∧ y < d := by simp [inB, and_assoc]
theorem eq4_iff {a b c d e f g h : Int} : eq4 a b c d e f g h = true ↔ a = e ∧ b = f ∧ c = g ∧ d = h := by simp [eq4, and_assoc]
theorem eq2_iff {a b c d : Int} : eq2 a b c d = true ↔ a = c ∧ b = d := by simp [eq2]
theorem rinB_iff {a b c d e f g h : Int} : rinB a b c d e f g h = true ↔ (c ≤ a ∨ d ≤ b) ∨ (e ≤ a ∧ c ≤ g ∧ f ≤ b ∧ d ≤ h) := by simp [rinB, emptyB, and_assoc]
theorem reqB_iff {a b c d e f g h : Int} : reqB a b c d e f g h = true ↔ (a = e ∧ b = f ∧ c = g ∧ d = h) ∨ ((c ≤ a ∨ d ≤ b) ∧ (g ≤ e ∨ h ≤ f)) := by simp [reqB, eq4, emptyB, and_assoc]
theorem overB_iff {a b c d e f g h : Int} : overB a b c d e f g h = true ↔ (a < c ∧ b < d) ∧ (e < g ∧ f < h) ∧ a < g ∧ e < c ∧ b < h ∧ f < d := by simp [overB, emptyB, and_assoc]
theorem wfB_iff {a b c d : Int} : wfB a b c d = true ↔ a ≤ c ∧ b ≤ d := by simp [wfB]
theorem bool_eq {x y : Bool} (h : x = true ↔ y = true) : x = y := by cases x <;> cases y <;> simp_all

/-- The intersection: nothing, or the greater ones of the least and the lesser ones of the greatest coordinates. -/
theorem isect_cases (a b c d e f g h : Int) :
    ((c ≤ a ∨ d ≤ b ∨ g ≤ e ∨ h ≤ f ∨ c ≤ e ∨ g ≤ a ∨ d ≤ f ∨ h ≤ b) ∧ isect a b c d e f g h = ⟨0, 0, 0, 0⟩) ∨
    ((a < c ∧ b < d ∧ e < g ∧ f < h ∧ e < c ∧ a < g ∧ f < d ∧ b < h) ∧ isect a b c d e f g h = ⟨max a e, max b f, min c g, min d h⟩) := by
  cases hE : emptyB (max a e) (max b f) (min c g) (min d h) with
  | true => refine .inl ⟨?_, by unfold isect; rw [if_pos hE]⟩; rw [emptyB_iff] at hE; omega
  | false => refine .inr ⟨?_, by unfold isect; rw [hE]; rfl⟩; rw [emptyB_not] at hE; omega
theorem union_cases (a b c d e f g h : Int) :
    ((c ≤ a ∨ d ≤ b) ∧ union a b c d e f g h = ⟨e, f, g, h⟩) ∨ ((a < c ∧ b < d) ∧ (g ≤ e ∨ h ≤ f) ∧ union a b c d e f g h = ⟨a, b, c, d⟩) ∨
    ((a < c ∧ b < d) ∧ (e < g ∧ f < h) ∧ union a b c d e f g h = ⟨min a e, min b f, max c g, max d h⟩) := by
  unfold union
  cases h1 : emptyB a b c d with
  | true => exact .inl ⟨emptyB_iff.1 h1, rfl⟩
  | false =>
    cases h2 : emptyB e f g h with
    | true => exact .inr (.inl ⟨emptyB_not.1 h1, emptyB_iff.1 h2, rfl⟩)
    | false => exact .inr (.inr ⟨emptyB_not.1 h1, emptyB_not.1 h2, rfl⟩)

theorem isect_comm (a b c d e f g h : Int) : isect e f g h a b c d = isect a b c d e f g h := by
  unfold isect; rw [Int.max_comm e a, Int.max_comm f b, Int.min_comm g c, Int.min_comm h d]
theorem isect_assoc (a b c d e f g h i j k l : Int) :
    isect (isect a b c d e f g h).a (isect a b c d e f g h).b (isect a b c d e f g h).c (isect a b c d e f g h).d i j k l =
    isect a b c d (isect e f g h i j k l).a (isect e f g h i j k l).b (isect e f g h i j k l).c (isect e f g h i j k l).d := by
  rcases isect_cases a b c d e f g h with ⟨h1, e1⟩ | ⟨h1, e1⟩ <;> rcases isect_cases e f g h i j k l with ⟨h2, e2⟩ | ⟨h2, e2⟩ <;> simp only [e1, e2]
  · rcases isect_cases 0 0 0 0 i j k l with ⟨h3, e3⟩ | ⟨h3, e3⟩
    · rcases isect_cases a b c d 0 0 0 0 with ⟨h4, e4⟩ | ⟨h4, e4⟩
      · rw [e3, e4]
      · omega
    · omega
  · rcases isect_cases 0 0 0 0 i j k l with ⟨h3, e3⟩ | ⟨h3, e3⟩
    · rcases isect_cases a b c d (max e i) (max f j) (min g k) (min h l) with ⟨h4, e4⟩ | ⟨h4, e4⟩
      · rw [e3, e4]
      · omega
    · omega
  · rcases isect_cases (max a e) (max b f) (min c g) (min d h) i j k l with ⟨h3, e3⟩ | ⟨h3, e3⟩
    · rcases isect_cases a b c d 0 0 0 0 with ⟨h4, e4⟩ | ⟨h4, e4⟩
      · rw [e3, e4]
      · omega
    · omega
  · rcases isect_cases (max a e) (max b f) (min c g) (min d h) i j k l with ⟨h3, e3⟩ | ⟨h3, e3⟩
    · rcases isect_cases a b c d (max e i) (max f j) (min g k) (min h l) with ⟨h4, e4⟩ | ⟨h4, e4⟩
      · rw [e3, e4]
      · omega
    · rcases isect_cases a b c d (max e i) (max f j) (min g k) (min h l) with ⟨h4, e4⟩ | ⟨h4, e4⟩
      · omega
      · rw [e3, e4]
        simp only [Rc.mk.injEq]
        omega
end Go.Proofs.Ythafdjlgagmfdaa
