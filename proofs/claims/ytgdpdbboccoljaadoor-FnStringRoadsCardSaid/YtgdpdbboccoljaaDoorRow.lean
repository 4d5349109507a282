/-
  How an array of two or of four int64 that is handed to a law by value is read as data, and read again behind the call.
  Conditions: none beyond those that each theorem writes out.
-/
import Derived.Test.YtgdpdbboccoljaaDoorRows
import Derived.WalkKit
import Derived.ProofKit
import Derived.OpenShut
import Derived.Below
import Derived.Laws.IdiomArrays
namespace Go.Proofs.YtgdpdbboccoljaaDoor
open Go.ChangeShapes Go.WideShapes Go.ChangeAt Go.RowKit

theorem own : ownKnob Tryd.prog.godebug = none := by kernel_rfl
theorem laidOut : laidOutB Tryd.prog = true := by kernel_rfl

section
variable {H : Type} {enc : TypeId × Value → H} {P : Program} {w : World} {base : Nat} {spare : Nat → Bool} {held : Bool}

theorem list2 {α : Type} (l : List α) (h : (⟨l⟩ : Array α).size = 2) : ∃ a b, l = [a, b] := by
  match l, h with
  | [a, b], _ => exact ⟨a, b, rfl⟩
theorem list4 {α : Type} (l : List α) (h : (⟨l⟩ : Array α).size = 4) : ∃ a b c d, l = [a, b, c, d] := by
  match l, h with
  | [a, b, c, d], _ => exact ⟨a, b, c, d, rfl⟩
theorem okWide_arr {r : Reach} {b0 : Nat} {t e : TypeId} {n : Nat} {v : Value} (hs : P.underlying t = some (.array n e)) (hv : Value.okWide P w r b0 t v) : ∃ cs, v = .agg cs ∧ cs.size = P.cellsOf t := by
  have : ∃ cs, v = .agg cs ∧ cs.size = P.cellsOf t ∧ Row.okWide P w r b0 t cs := by simpa [Value.okWide, hs] using hv
  obtain ⟨cs, h1, h2, _⟩ := this
  exact ⟨cs, h1, h2⟩
theorem open_arr2 {r : Reach} {b0 : Nat} {t e : TypeId} {v : Value} {d : DataW H} {p : List MemPlace} (hs : P.underlying t = some (.array 2 e)) (he : P.underlying e = some (.int .i64)) (hce : P.cellsOf e = 1) (hC : P.cellsOf t = 2)
    (hv : Value.okWide P w r b0 t v) (h : DataW.Trod enc P w base spare held t v d p) :
    ∃ a b : Int, v = .agg #[.int .i64 a, .int .i64 b] ∧ d = .agg [.lit (.int .i64 a), .lit (.int .i64 b)] ∧ p = [] ∧ (Lit.int .i64 a).wf = true ∧ (Lit.int .i64 b).wf = true := by
  obtain ⟨cs, rfl, hsz⟩ := okWide_arr hs hv
  rw [hC] at hsz
  obtain ⟨l⟩ := cs
  obtain ⟨c0, c1, rfl⟩ := list2 l hsz
  obtain ⟨fuel, hf⟩ := h
  obtain ⟨xs, m, _, hx, _, hl, hi⟩ := DataW.trod_array hs hf
  match xs, hl with
  | [y0, y1], _ =>
    have h0 := hi 0 (by omega)
    have h1 := hi 1 (by omega)
    simp [Value.cells, hce] at h0 h1
    obtain ⟨x0, e0, rfl, w0⟩ := DataW.trod_int he h0
    obtain ⟨x1, e1, rfl, w1⟩ := DataW.trod_int he h1
    simp at e0 e1
    subst e0 e1
    simp only [Prod.mk.injEq] at hx
    exact ⟨x0, x1, rfl, by simpa using hx.1, by simpa using hx.2, w0, w1⟩
theorem open_arr4 {r : Reach} {b0 : Nat} {t e : TypeId} {v : Value} {d : DataW H} {p : List MemPlace} (hs : P.underlying t = some (.array 4 e)) (he : P.underlying e = some (.int .i64)) (hce : P.cellsOf e = 1) (hC : P.cellsOf t = 4)
    (hv : Value.okWide P w r b0 t v) (h : DataW.Trod enc P w base spare held t v d p) :
    ∃ a b c g : Int, v = .agg #[.int .i64 a, .int .i64 b, .int .i64 c, .int .i64 g] ∧ d = .agg [.lit (.int .i64 a), .lit (.int .i64 b), .lit (.int .i64 c), .lit (.int .i64 g)] ∧ p = [] ∧ (Lit.int .i64 a).wf = true ∧ (Lit.int .i64 b).wf = true ∧ (Lit.int .i64 c).wf = true ∧ (Lit.int .i64 g).wf = true := by
  obtain ⟨cs, rfl, hsz⟩ := okWide_arr hs hv
  rw [hC] at hsz
  obtain ⟨l⟩ := cs
  obtain ⟨c0, c1, c2, c3, rfl⟩ := list4 l hsz
  obtain ⟨fuel, hf⟩ := h
  obtain ⟨xs, m, _, hx, _, hl, hi⟩ := DataW.trod_array hs hf
  match xs, hl with
  | [y0, y1, y2, y3], _ =>
    have h0 := hi 0 (by omega)
    have h1 := hi 1 (by omega)
    have h2 := hi 2 (by omega)
    have h3 := hi 3 (by omega)
    simp [Value.cells, hce] at h0 h1 h2 h3
    obtain ⟨x0, e0, rfl, w0⟩ := DataW.trod_int he h0
    obtain ⟨x1, e1, rfl, w1⟩ := DataW.trod_int he h1
    obtain ⟨x2, e2, rfl, w2⟩ := DataW.trod_int he h2
    obtain ⟨x3, e3, rfl, w3⟩ := DataW.trod_int he h3
    simp at e0 e1 e2 e3
    subst e0 e1 e2 e3
    simp only [Prod.mk.injEq] at hx
    exact ⟨x0, x1, x2, x3, rfl, by simpa using hx.1, by simpa using hx.2, w0, w1, w2, w3⟩
theorem shut_arr2 {t e : TypeId} {a b : Int} (hs : P.underlying t = some (.array 2 e)) (he : P.underlying e = some (.int .i64)) (hce : P.cellsOf e = 1) (hC : P.cellsOf t = 2) (wa : (Lit.int .i64 a).wf = true) (wb : (Lit.int .i64 b).wf = true) :
    DataW.Trod enc P w base spare held t (.agg #[.int .i64 a, .int .i64 b]) (.agg [.lit (.int .i64 a), .lit (.int .i64 b)]) [] :=
  ⟨2, by simp [DataW.trod, Value.cells, hs, he, hC, hce, wa, wb, show List.range 2 = [0, 1] from rfl]⟩
theorem shut_arr4 {t e : TypeId} {a b c d : Int} (hs : P.underlying t = some (.array 4 e)) (he : P.underlying e = some (.int .i64)) (hce : P.cellsOf e = 1) (hC : P.cellsOf t = 4) (wa : (Lit.int .i64 a).wf = true) (wb : (Lit.int .i64 b).wf = true) (wc : (Lit.int .i64 c).wf = true) (wd : (Lit.int .i64 d).wf = true) :
    DataW.Trod enc P w base spare held t (.agg #[.int .i64 a, .int .i64 b, .int .i64 c, .int .i64 d]) (.agg [.lit (.int .i64 a), .lit (.int .i64 b), .lit (.int .i64 c), .lit (.int .i64 d)]) [] :=
  ⟨2, by simp [DataW.trod, Value.cells, hs, he, hC, hce, wa, wb, wc, wd, show List.range 4 = [0, 1, 2, 3] from rfl]⟩
end
end Go.Proofs.YtgdpdbboccoljaaDoor
