/-
  What the functions of this seat compute, in plain Lean on integers; and what the comparison of two arrays, points or rectangles answers.
  Conditions: none.
-/
import Derived.Test.YtgdpdbboccoljaaDoorBase
namespace Go.Proofs.YtgdpdbboccoljaaDoor
open Go.RowKit

structure Rc where
  a : Int
  b : Int
  c : Int
  d : Int

def eq2 (a b c d : Int) : Bool := a == c && b == d
def eq4 (a b c d e f g h : Int) : Bool := a == e && b == f && c == g && d == h
/-- Rectangle.Empty. -/
def emptyB (a b c d : Int) : Bool := decide (c ≤ a) || decide (d ≤ b)
/-- Point.In: the point first. -/
def inB (x y a b c d : Int) : Bool := decide (a ≤ x) && decide (x < c) && decide (b ≤ y) && decide (y < d)
/-- Rectangle.Eq, In, Overlaps. -/
def reqB (a b c d e f g h : Int) : Bool := eq4 a b c d e f g h || emptyB a b c d && emptyB e f g h
def rinB (a b c d e f g h : Int) : Bool := emptyB a b c d || decide (e ≤ a) && decide (c ≤ g) && decide (f ≤ b) && decide (d ≤ h)
def overB (a b c d e f g h : Int) : Bool := !emptyB a b c d && !emptyB e f g h && decide (a < g) && decide (e < c) && decide (b < h) && decide (f < d)
/-- Rectangle.Intersect, Union, Canon. -/
def isect (a b c d e f g h : Int) : Rc := if emptyB (max a e) (max b f) (min c g) (min d h) then ⟨0, 0, 0, 0⟩ else ⟨max a e, max b f, min c g, min d h⟩
def union (a b c d e f g h : Int) : Rc := if emptyB a b c d then ⟨e, f, g, h⟩ else if emptyB e f g h then ⟨a, b, c, d⟩ else ⟨min a e, min b f, max c g, max d h⟩
def canon (a b c d : Int) : Rc := ⟨min a c, min b d, max a c, max b d⟩
def wfB (a b c d : Int) : Bool := decide (a ≤ c) && decide (b ≤ d)
/-- Rectangle.Inset, one coordinate; Point.Mod, one coordinate. -/
def insLo (a c n : Int) : Int := if wrap64 (c - a) < wrap64 (2 * n) then wrap64 ((wrap64 (a + c)).tdiv 2) else wrap64 (a + n)
def insHi (a c n : Int) : Int := if wrap64 (c - a) < wrap64 (2 * n) then wrap64 ((wrap64 (a + c)).tdiv 2) else wrap64 (c - n)
def modUp (x m : Int) : Int := if x < 0 then wrap64 (x + m) else x
def modC (x a c : Int) : Int := wrap64 (modUp ((wrap64 (x - a)).tmod (wrap64 (c - a))) (wrap64 (c - a)) + a)
/-- The reference's Sum, Less, Times, with its own tests. -/
def sumOk (a b : Int) : Bool := !(decide (0 < b) && decide (wrap64 (9223372036854775807 - b) < a) || decide (b < 0) && decide (a < wrap64 (-9223372036854775808 - b)))
def sumV (a b : Int) : Int := if sumOk a b then wrap64 (a + b) else 0
def lessOk (a b : Int) : Bool := !(decide (b < 0) && decide (wrap64 (9223372036854775807 + b) < a) || decide (0 < b) && decide (a < wrap64 (-9223372036854775808 + b)))
def lessV (a b : Int) : Int := if lessOk a b then wrap64 (a - b) else 0
def timesNo (a b : Int) : Bool := (a == -1 && b == -9223372036854775808) || (b == -1 && a == -9223372036854775808) || wrap64 ((wrap64 (a * b)).tdiv b) != a
def timesOk (a b : Int) : Bool := (a == 0 || b == 0) || !timesNo a b
def timesV (a b : Int) : Int := if a == 0 || b == 0 then 0 else if timesNo a b then 0 else wrap64 (a * b)
/-- How far the loops of Moved and Back have come. -/
def pre4 (o0 o1 o2 o3 : Bool) : Nat → Bool
  | 0 => true
  | 1 => o0
  | 2 => o0 && o1
  | 3 => o0 && o1 && o2
  | _ => o0 && o1 && o2 && o3
def fill4 (v0 v1 v2 v3 : Int) : Nat → Array Value
  | 0 => #[.int .i64 0, .int .i64 0, .int .i64 0, .int .i64 0]
  | 1 => #[.int .i64 v0, .int .i64 0, .int .i64 0, .int .i64 0]
  | 2 => #[.int .i64 v0, .int .i64 v1, .int .i64 0, .int .i64 0]
  | 3 => #[.int .i64 v0, .int .i64 v1, .int .i64 v2, .int .i64 0]
  | _ => #[.int .i64 v0, .int .i64 v1, .int .i64 v2, .int .i64 v3]
/-- The reference's RectIn, RectEq, Mod. -/
def sinB (a b c d e f g h : Int) : Bool := emptyB a b c d || inB a b e f g h && inB (wrap64 (c - 1)) (wrap64 (d - 1)) e f g h
def liftV (a m : Int) : Int := if a.tmod m < 0 then m else 0
def smodC (x a c : Int) : Int := wrap64 (wrap64 (wrap64 (a + lessV x a) - wrap64 (wrap64 ((lessV x a).tdiv (lessV c a)) * lessV c a)) + liftV (lessV x a) (lessV c a))

def smodOk (x y a b c d : Int) : Bool := !emptyB a b c d && (lessOk c a && lessOk d b) && lessOk x a && lessOk y b
def smodV (o : Bool) (x a c : Int) : Int := if o then smodC x a c else 0
theorem emptyB_lt {a b c d : Int} (h : emptyB a b c d = false) : a < c ∧ b < d := by simpa [emptyB] using h
/-- A difference that is a number, of two numbers that part, is not 0 (as they lie within 2^64 of each other). -/
theorem lessV_nz {a c : Int} (oa : Ok a) (oc : Ok c) (h : a < c) (ho : lessOk c a = true) : (lessV c a == 0) = false := by
  unfold lessV
  rw [if_pos ho]
  unfold Ok at *
  have : wrap64 (c - a) ≠ 0 := by unfold wrap64; omega
  simpa using this

/-- The laws' f6small, of one number. -/
def smallB (x : Int) : Bool := decide (-1000000000000 ≤ x ∧ x ≤ 1000000000000)

theorem isect_yes {a b c d e f g h x y z v : Int} (hE : emptyB x y z v = true) (hx : x = max a e) (hy : y = max b f) (hz : z = min c g) (hv : v = min d h) : isect a b c d e f g h = ⟨0, 0, 0, 0⟩ := by
  subst hx hy hz hv; unfold isect; rw [if_pos hE]
theorem isect_no {a b c d e f g h x y z v : Int} (hE : emptyB x y z v = false) (hx : x = max a e) (hy : y = max b f) (hz : z = min c g) (hv : v = min d h) : isect a b c d e f g h = ⟨x, y, z, v⟩ := by
  subst hx hy hz hv; unfold isect; rw [if_neg (by rw [hE]; exact Bool.false_ne_true)]

theorem equal_a2 (a b c d : Int) (w : World) : (Op.equalIn 10000 22 (.agg #[.int .i64 a, .int .i64 b]) (.agg #[.int .i64 c, .int .i64 d])).run Tryd.prog w = .ok (eq2 a b c d) w := by
  have u2 := Tryd.underlying2
  have a2 := Tryd.isAgg2
  have z2 := Tryd.sizeOf2
  rw [show (10000 : Nat) = 9999 + 1 from rfl, Op.equalIn]
  simp only [Sem.run_bind, run_underlying Tryd.underlying22, Result.andThen_ok]
  simp only [Std.Legacy.Range.forIn_eq_forIn_range', Std.Legacy.Range.size, Nat.sub_zero, Nat.add_sub_cancel, Nat.div_one, List.range'_succ, List.range'_zero, List.forIn_cons, List.forIn_nil]
  go_simp
  unfold eq2
  by_cases h1 : a = c <;> by_cases h2 : b = d <;> simp [h1, h2]
theorem eql_a2 (a b c d : Int) (w : World) : (binOp .eql 22 (.agg #[.int .i64 a, .int .i64 b]) (.agg #[.int .i64 c, .int .i64 d])).run Tryd.prog w = .ok (.bool (eq2 a b c d)) w := by
  rw [run_eql_struct, equal_a2]; rfl
theorem neq_a2 (a b c d : Int) (w : World) : (binOp .neq 22 (.agg #[.int .i64 a, .int .i64 b]) (.agg #[.int .i64 c, .int .i64 d])).run Tryd.prog w = .ok (.bool (!eq2 a b c d)) w := by
  rw [run_neq_struct, equal_a2]; rfl

theorem equal_a4 (a b c d e f g h : Int) (w : World) : (Op.equalIn 10000 26 (.agg #[.int .i64 a, .int .i64 b, .int .i64 c, .int .i64 d]) (.agg #[.int .i64 e, .int .i64 f, .int .i64 g, .int .i64 h])).run Tryd.prog w = .ok (eq4 a b c d e f g h) w := by
  have u2 := Tryd.underlying2
  have a2 := Tryd.isAgg2
  have z2 := Tryd.sizeOf2
  rw [show (10000 : Nat) = 9999 + 1 from rfl, Op.equalIn]
  simp only [Sem.run_bind, run_underlying Tryd.underlying26, Result.andThen_ok]
  simp only [Std.Legacy.Range.forIn_eq_forIn_range', Std.Legacy.Range.size, Nat.sub_zero, Nat.add_sub_cancel, Nat.div_one, List.range'_succ, List.range'_zero, List.forIn_cons, List.forIn_nil]
  go_simp
  unfold eq4
  by_cases h1 : a = e <;> by_cases h2 : b = f <;> by_cases h3 : c = g <;> by_cases h4 : d = h <;> simp [h1, h2, h3, h4]
theorem eql_a4 (a b c d e f g h : Int) (w : World) : (binOp .eql 26 (.agg #[.int .i64 a, .int .i64 b, .int .i64 c, .int .i64 d]) (.agg #[.int .i64 e, .int .i64 f, .int .i64 g, .int .i64 h])).run Tryd.prog w = .ok (.bool (eq4 a b c d e f g h)) w := by
  rw [run_eql_struct, equal_a4]; rfl
theorem neq_a4 (a b c d e f g h : Int) (w : World) : (binOp .neq 26 (.agg #[.int .i64 a, .int .i64 b, .int .i64 c, .int .i64 d]) (.agg #[.int .i64 e, .int .i64 f, .int .i64 g, .int .i64 h])).run Tryd.prog w = .ok (.bool (!eq4 a b c d e f g h)) w := by
  rw [run_neq_struct, equal_a4]; rfl

end Go.Proofs.YtgdpdbboccoljaaDoor
