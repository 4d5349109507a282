/-
  The ground of this seat's proofs, in plain Lean: worlds that have only grown ('Over'), and two theorems on a region that draws its order and holds calls that make memory: one walk in the order of the text serves every order; the same where the region ends in operations that wait for all others (a store of the result).
  Conditions: none beyond those that each theorem writes out.
-/
import Derived.Test.YtgdpdbboccoljaaDoorRows
import Derived.WalkKit
import Derived.WalkSpells
import Derived.WalkLawsBesides
import Derived.Deep.QuietTactic
import Derived.BigQuiet
import Derived.StillTail
import Derived.OneCell
import Derived.Deep.DeepCutAuto
namespace Go.Proofs.YtgdpdbboccoljaaDoor
open Go.RowKit

/-- A number of 64 bits, kept from the walk behind a name. -/
def Ok (x : Int) : Prop := -9223372036854775808 ≤ x ∧ x ≤ 9223372036854775807
theorem Ok.lo {x : Int} (h : Ok x) : -9223372036854775808 ≤ x := h.1
theorem Ok.hi {x : Int} (h : Ok x) : x ≤ 9223372036854775807 := h.2
theorem ok_wrap (x : Int) : Ok (wrap64 x) := by unfold Ok wrap64; omega

/-- The worlds that below w's size are as w is. -/
def Over (w : World) : Type := { w' : World // Below w.heap.size w w' }
def Over.wd {w : World} (x : Over w) : World := x.1
theorem Over.below {w : World} (x : Over w) : Below w.heap.size w x.wd := x.2
instance (w : World) : Nonempty (Over w) := ⟨⟨w, Below.refl _ _⟩⟩

theorem Over.cell {w : World} (x : Over w) (b o : Nat) (h : b < w.heap.size) : x.wd.cell? ⟨b, o, none⟩ = w.cell? ⟨b, o, none⟩ := x.2.cell (p := ⟨b, o, none⟩) h
theorem Over.frozen {w : World} (x : Over w) (b o : Nat) (h : b < w.heap.size) : x.wd.frozen? ⟨b, o, none⟩ = w.frozen? ⟨b, o, none⟩ := x.2.frozen (p := ⟨b, o, none⟩) h

theorem bcell {B : Nat} {W w1 : World} (hb : Below B W w1) : (∀ b o, b < B → w1.cell? ⟨b, o, none⟩ = W.cell? ⟨b, o, none⟩) ∧ (∀ b o, b < B → w1.frozen? ⟨b, o, none⟩ = W.frozen? ⟨b, o, none⟩) :=
  ⟨fun b o h => hb.cell (p := ⟨b, o, none⟩) h, fun b o h => hb.frozen (p := ⟨b, o, none⟩) h⟩

theorem ext_refl (w : World) : Below w.heap.size w w := Below.refl _ _
theorem ext_alloc {w w' : World} {o : Obj} (h : Below w.heap.size w w') : Below w.heap.size w (w'.alloc o) := h.alloc h.size o
theorem ext_drew {w w' : World} (h : Below w.heap.size w w') : Below w.heap.size w w'.drew := h.drew
theorem ext_set {w w' : World} {p : Addr} {u : Value} (hp : w.heap.size ≤ p.block) (h : Below w.heap.size w w') : Below w.heap.size w (w'.setCell p u) := h.setCell hp u
theorem ext_trans {w w1 w2 : World} (h : Below w.heap.size w w1) (k : Below w1.heap.size w1 w2) : Below w.heap.size w w2 := h.trans (k.mono h.size)

theorem ret_true {x : Bool} (h : x = true) : Ending.returned (.bool x) = .returned (.bool true) := by rw [h]

/-- What a call hands back, and that it changes nothing that was there. -/
def Gives (v : Value) (w : World) (e : Ending) (w' : World) : Prop := e = .returned v ∧ Below w.heap.size w w'

theorem Calls.over {P : Program} {f : FuncId} {args : Array Value} {w : World} {v : Value} (x : Over w) (h : Calls P f args x.wd (Gives v x.wd)) :
    Calls P f args x.wd fun e w'' => e = .returned v ∧ ∃ y : Over w, w'' = y.wd :=
  h.mono fun _ w'' ⟨he, hb⟩ => ⟨he, ⟨⟨w'', x.2.trans (hb.mono x.2.size)⟩, rfl⟩⟩

/-- What is known of blocks, as rules on cells. -/
def Rules (w : World) : List (Nat × Array Value × TypeId) → Prop
  | [] => True
  | (b, cs, _) :: l => (∀ o : Nat, w.cell? ⟨b, o, none⟩ = cs[o]?) ∧ (∀ o : Nat, w.frozen? ⟨b, o, none⟩ = false) ∧ b < w.heap.size ∧ b ≤ w.heap.size ∧ Rules w l
/-- The world w has grown out of w0, and holds these blocks. -/
def Known (w0 w : World) (l : List (Nat × Array Value × TypeId)) : Prop := Below w0.heap.size w0 w ∧ ∀ x ∈ l, w.heap[x.1]? = some (.cells x.2.1 x.2.2)
theorem Known.start (w : World) : Known w w [] := ⟨Below.refl _ _, fun _ h => by cases h⟩
theorem Known.below {w0 w : World} {l : List (Nat × Array Value × TypeId)} (h : Known w0 w l) : Below w0.heap.size w0 w := h.1
theorem Known.keep {w0 w w' : World} {l : List (Nat × Array Value × TypeId)} (h : Known w0 w l) (hb : Below w.heap.size w w') : Known w0 w' l :=
  ⟨ext_trans h.1 hb, fun x hx => (hb.block _ (lt_of_block (h.2 x hx))).trans (h.2 x hx)⟩
theorem Known.alloc {w0 w : World} {l : List (Nat × Array Value × TypeId)} {cs : Array Value} {t : TypeId} (h : Known w0 w l) : Known w0 (w.alloc (.cells cs t)) ((w.heap.size, cs, t) :: l) := by
  refine ⟨ext_alloc h.1, fun x hx => ?_⟩
  rcases List.mem_cons.1 hx with rfl | hx
  · show (w.heap.push _)[w.heap.size]? = _
    simp
  · rw [Below.heap_alloc _ _ _ (lt_of_block (h.2 x hx))]
    exact h.2 x hx
theorem Known.drew {w0 w : World} {l : List (Nat × Array Value × TypeId)} (h : Known w0 w l) : Known w0 w.drew l := ⟨h.1.drew, h.2⟩
theorem Known.rules {w0 w : World} : ∀ {l : List (Nat × Array Value × TypeId)}, Known w0 w l → Rules w l
  | [], _ => trivial
  | (b, cs, t) :: l, h => by
    have hb := h.2 (b, cs, t) (List.mem_cons_self ..)
    exact ⟨fun o => by simp [World.cell?, hb], fun o => by simp [World.frozen?, hb], lt_of_block hb, Nat.le_of_lt (lt_of_block hb), Known.rules ⟨h.1, fun x hx => h.2 x (List.mem_cons_of_mem _ hx)⟩⟩

theorem Known.same {w0 w : World} {l l' : List (Nat × Array Value × TypeId)} (h : Known w0 w l) (e : l = l') : Known w0 w l' := e ▸ h
/-- A store into the first block. -/
theorem Known.set1 {w0 w : World} {l : List (Nat × Array Value × TypeId)} {b o : Nat} {cs : Array Value} {t : TypeId} {u : Value} (h : Known w0 w ((b, cs, t) :: l)) (hb : w0.heap.size ≤ b) (hl : ∀ x ∈ l, x.1 ≠ b) :
    Known w0 (w.setCell ⟨b, o, none⟩ u) ((b, cs.setIfInBounds o u, t) :: l) := by
  refine ⟨ext_set hb h.1, fun z hz => ?_⟩
  rcases List.mem_cons.1 hz with rfl | hz
  · have h3 := h.2 (b, cs, t) (List.mem_cons_self ..)
    have hlt := lt_of_block h3
    have h' : w.heap[b] = .cells cs t := by simpa [Array.getElem?_eq_getElem hlt] using h3
    show (w.heap.modify b _)[b]? = _
    rw [Array.getElem?_eq_getElem (by simpa using hlt), Array.getElem_modify_self, h']
    rfl
  · rw [Below.heap_setCell _ _ _ _ (hl z hz)]; exact h.2 _ (List.mem_cons_of_mem _ hz)
/-- A store into the second of two blocks. -/
theorem Known.set2 {w0 w : World} {x : Nat × Array Value × TypeId} {b o : Nat} {cs : Array Value} {t : TypeId} {u : Value} (h : Known w0 w [x, (b, cs, t)]) (hb : w0.heap.size ≤ b) (hx : x.1 ≠ b) :
    Known w0 (w.setCell ⟨b, o, none⟩ u) [x, (b, cs.setIfInBounds o u, t)] := by
  refine ⟨ext_set hb h.1, fun z hz => ?_⟩
  simp only [List.mem_cons, List.not_mem_nil, or_false] at hz
  rcases hz with rfl | rfl
  · rw [Below.heap_setCell _ _ _ _ hx]; exact h.2 _ (by simp)
  · have h3 := h.2 (b, cs, t) (by simp)
    have hlt := lt_of_block h3
    have h' : w.heap[b] = .cells cs t := by simpa [Array.getElem?_eq_getElem hlt] using h3
    show (w.heap.modify b _)[b]? = _
    rw [Array.getElem?_eq_getElem (by simpa using hlt), Array.getElem_modify_self, h']
    rfl
/-- A store into the third block. -/
theorem Known.set3 {w0 w : World} {x y : Nat × Array Value × TypeId} {b o : Nat} {cs : Array Value} {t : TypeId} {u : Value} (h : Known w0 w [x, y, (b, cs, t)]) (hb : w0.heap.size ≤ b) (hx : x.1 ≠ b) (hy : y.1 ≠ b) :
    Known w0 (w.setCell ⟨b, o, none⟩ u) [x, y, (b, cs.setIfInBounds o u, t)] := by
  refine ⟨ext_set hb h.1, fun z hz => ?_⟩
  simp only [List.mem_cons, List.not_mem_nil, or_false] at hz
  rcases hz with rfl | rfl | rfl
  · rw [Below.heap_setCell _ _ _ _ hx]; exact h.2 _ (by simp)
  · rw [Below.heap_setCell _ _ _ _ hy]; exact h.2 _ (by simp)
  · have h3 := h.2 (b, cs, t) (by simp)
    have hlt := lt_of_block h3
    have h' : w.heap[b] = .cells cs t := by simpa [Array.getElem?_eq_getElem hlt] using h3
    show (w.heap.modify b _)[b]? = _
    rw [Array.getElem?_eq_getElem (by simpa using hlt), Array.getElem_modify_self, h']
    rfl

section
variable {P : Program} {md : Region.Mode} {C : World → Prop}

theorem wpQuiet_post {ops : Array Oper} {Q Q' : Act → Prop} (h : ∀ a, Q a → Q' a) : ∀ (l : List Oper) (a : Act), wpQuiet P ops C Q l a → wpQuiet P ops C Q' l a
  | [], a, hh => h a hh
  | o :: l, a, hh => by
    unfold wpQuiet at hh ⊢
    split
    · rename_i hw; rw [if_pos hw] at hh; exact Oper.quiet_mono (fun a' => wpQuiet_post h l a') hh
    · rename_i hw; rw [if_neg hw] at hh; exact wpQuiet_post h l _ hh

/-- A region that draws its order, all of whose operations read or call what makes memory at most. -/
theorem wp_region_over {id : Nat} {Q : Exit → Act → World → Prop} {a : Act} {w : World} {l : List Oper} (hm : P.follows .mixedOrders = true) (hB : Region.lexB .any l.toArray = true)
    (h : (∀ (x : Over w) (b o : Nat), b < w.heap.size → x.wd.cell? ⟨b, o, none⟩ = w.cell? ⟨b, o, none⟩) → wpQuiet P l.toArray (fun w' => ∃ x : Over w, w' = x.wd) (fun a' => ∀ w', Below w.heap.size w w' → Q .normal a' w') l a) : (Code.region id l.toArray true).wp P Q a w :=
  wp_region_quiet (C := fun w' => ∃ x : Over w, w' = x.wd) hm hB ⟨⟨{ w with drawn := w.drawn + 1 }, (Below.refl _ _).drew⟩, rfl⟩
    (wpQuiet_post (fun a' h' w' hw' => by obtain ⟨x, rfl⟩ := hw'; exact h' _ x.below) _ a (by simpa using h (fun x b o hb => x.cell b o hb)))

theorem wpAny_more {ops : Array Oper} {Q : Exit → Act → World → Prop} : ∀ (fuel : Nat) (listed : Array Bool) (a : Act) (w : World), wpAny P md ops Q fuel listed a w → wpAny P md ops Q (fuel + 1) listed a w
  | 0, _, _, _, h => ⟨fun _ => h.2, fun i hi => by rw [h.1] at hi; cases hi⟩
  | fuel + 1, _, _, _, h => ⟨h.1, fun i hi => wpOp_mono (fun a' w' h' => wpAny_more fuel _ a' w' h') (h.2 i hi)⟩
theorem wpAny_more_by {ops : Array Oper} {Q : Exit → Act → World → Prop} {fuel : Nat} {listed : Array Bool} {a : Act} {w : World} (h : wpAny P md ops Q fuel listed a w) : ∀ k, wpAny P md ops Q (k + fuel) listed a w
  | 0 => by rw [Nat.zero_add]; exact h
  | k + 1 => by rw [show k + 1 + fuel = (k + fuel) + 1 by omega]; exact wpAny_more _ _ _ _ (wpAny_more_by h k)

/-- Each operation waits for earlier ones alone, and so does its guard. -/
def backB (ops : Array Oper) : Bool :=
  (List.range ops.size).all fun i => match ops[i]? with
    | some o => (o.after.all fun e => decide (e.on < i)) && (match o.guard with | some (g, _) => decide (g < i) | none => true)
    | none => true
/-- Each operation from n on waits for each of the first n. -/
def lastB (md : Region.Mode) (ops : Array Oper) (n : Nat) : Bool :=
  (List.range ops.size).all fun t => decide (t < n) || (List.range n).all fun j => Region.waitsFor md ops t j

theorem backB_spec {ops : Array Oper} (h : backB ops = true) {i : Nat} {o : Oper} (hi : ops[i]? = some o) : (∀ e ∈ o.after, e.on < i) ∧ (∀ g b, o.guard = some (g, b) → g < i) := by
  have hlt : i < ops.size := (Array.getElem?_eq_some_iff.1 hi).1
  have h1 := List.all_eq_true.1 h i (List.mem_range.2 hlt)
  rw [hi] at h1
  simp only [Bool.and_eq_true] at h1
  refine ⟨fun e he => ?_, fun g b hg => ?_⟩
  · have := Array.all_eq_true'.1 h1.1 e he
    simpa using this
  · have h2 := h1.2
    rw [hg] at h2
    simpa using h2

theorem getD_left {L F : Array Bool} {i : Nat} (d : Bool) (h : i < L.size) : (L ++ F).getD i d = L.getD i d := by
  simp [Array.getD_eq_getD_getElem?, Array.getElem?_append_left h]

theorem set_left {L F : Array Bool} {i : Nat} (h : i < L.size) : (L ++ F).setIfInBounds i true = L.setIfInBounds i true ++ F := by
  apply Array.ext_getElem?
  intro j
  by_cases hj : j < L.size
  · rw [Array.getElem?_append_left (by simpa using hj)]
    by_cases hij : i = j
    · subst hij; simp [h, Nat.lt_add_right]
    · rw [Array.getElem?_setIfInBounds_ne hij, Array.getElem?_setIfInBounds_ne hij, Array.getElem?_append_left hj]
  · rw [Array.getElem?_append_right (by simpa using hj), Array.getElem?_setIfInBounds_ne (by omega), Array.getElem?_append_right (by omega)]
    simp

theorem all_listed {ops : Array Oper} (hb : backB ops = true) {L : Array Bool} (hL : L.size = ops.size) (h : Region.ready md ops L = []) : ∀ (i : Nat), i < L.size → L.getD i true = true := by
  intro i
  induction i using Nat.strongRecOn with
  | _ i ih =>
    intro hi
    cases hc : L.getD i true with
    | true => rfl
    | false =>
      exfalso
      obtain ⟨o, ho⟩ : ∃ o, ops[i]? = some o := ⟨ops[i]'(by omega), Array.getElem?_eq_getElem (by omega)⟩
      have hbk := backB_spec hb ho
      have : i ∈ Region.ready md ops L := mem_ready.2 ⟨hc, o, ho, fun e he _ => by
        have h1 := hbk.1 e he
        have h2 := ih e.on h1 (by omega)
        rcases Nat.lt_or_ge e.on L.size with h' | h'
        · simp [h'] at h2 ⊢; exact h2
        · omega⟩
      rw [h] at this
      cases this

theorem eq_replicate {L : Array Bool} {n : Nat} (hL : L.size = n) (h : ∀ (i : Nat), i < L.size → L.getD i true = true) : L = Array.replicate n true := by
  apply Array.ext
  · simp [hL]
  · intro i h1 h2
    have := h i h1
    simp [h1] at this
    simp [this]

theorem qOp_take {l : List Oper} {n i : Nat} (hb : backB (l.take n).toArray = true) (hi : i < n) {K : Act → Prop} {a : Act} (h : qOp P (l.take n).toArray C i K a) : qOp P l.toArray C i K a := by
  have e1 : (l.take n).toArray[i]? = l.toArray[i]? := by simp [hi]
  unfold qOp at *
  rw [e1] at h
  cases ho : l.toArray[i]? with
  | none => rw [ho] at h; exact h
  | some o =>
    rw [ho] at h
    have hy : Region.wanted o (yielded (l.take n).toArray a.tmps) = Region.wanted o (yielded l.toArray a.tmps) := by
      unfold Region.wanted
      cases hg : o.guard with
      | none => rfl
      | some gw =>
        obtain ⟨g, b⟩ := gw
        have hgl := (backB_spec hb (e1.trans ho)).2 g b hg
        have : yielded (l.take n).toArray a.tmps g = yielded l.toArray a.tmps g := by
          unfold yielded
          have e2 : (l.take n).toArray[g]? = l.toArray[g]? := by simp [List.getElem?_take]; omega
          rw [e2]
        simp only [this]
    simp only [hy] at h
    exact h

theorem wpAny_of_pre {Q0 : Act → Prop} {Q : Exit → Act → World → Prop} {l : List Oper} {n : Nat} (hn : n ≤ l.length) (hb : backB (l.take n).toArray = true) (hl : lastB md l.toArray n = true)
    (hQ : ∀ a w, C w → Q0 a → wpAny P md l.toArray Q (l.length - n) (Array.replicate n true ++ Array.replicate (l.length - n) false) a w) :
    ∀ (fuel : Nat) (L : Array Bool) (a : Act) (w : World), L.size = n → C w → wpAnyQ P md (l.take n).toArray C Q0 fuel L a →
      wpAny P md l.toArray Q (fuel + (l.length - n)) (L ++ Array.replicate (l.length - n) false) a w := by
  have hsz : (l.take n).toArray.size = n := by simp; omega
  intro fuel
  induction fuel with
  | zero =>
    intro L a w hL hw h
    have := eq_replicate hL (all_listed hb (by omega) h.1)
    subst this
    rw [Nat.zero_add]
    exact hQ a w hw h.2
  | succ fuel ih =>
    intro L a w hL hw h
    by_cases hr : Region.ready md (l.take n).toArray L = []
    · have := eq_replicate hL (all_listed hb (by omega) hr)
      subst this
      exact wpAny_more_by (hQ a w hw (h.1 hr)) _
    · rw [show fuel + 1 + (l.length - n) = (fuel + (l.length - n)) + 1 by omega]
      obtain ⟨k, hk⟩ := List.exists_mem_of_ne_nil _ hr
      obtain ⟨hkun, ok, hok, hkall⟩ := mem_ready.1 hk
      have hkn : k < n := by
        have := (Array.getElem?_eq_some_iff.1 hok).1
        omega
      have up : ∀ i, i < n → (i ∈ Region.ready md l.toArray (L ++ Array.replicate (l.length - n) false) ↔ i ∈ Region.ready md (l.take n).toArray L) := fun i hi => by
        have e1 : (l.take n).toArray[i]? = l.toArray[i]? := by simp [hi]
        rw [mem_ready, mem_ready, getD_left _ (by omega), e1]
        refine and_congr_right fun _ => exists_congr fun o => and_congr_right fun ho => forall_congr' fun e => forall_congr' fun he => ?_
        rw [getD_left _ (by have := (backB_spec hb (e1.trans ho)).1 e he; omega)]
      refine ⟨fun h0 => ?_, fun i hi => ?_⟩
      · have := (up k hkn).2 hk
        rw [h0] at this
        cases this
      · have hin : i < n := by
          rcases Nat.lt_or_ge i n with h' | h'
          · exact h'
          · exfalso
            obtain ⟨_, o, ho, hall⟩ := mem_ready.1 hi
            have his : i < l.toArray.size := (Array.getElem?_eq_some_iff.1 ho).1
            have h1 := List.all_eq_true.1 hl i (List.mem_range.2 his)
            simp only [Bool.or_eq_true, decide_eq_true_eq] at h1
            rcases h1 with h1 | h1
            · omega
            · obtain ⟨o', ho', e, he, hbe, hon⟩ := Region.waitsFor_spec (List.all_eq_true.1 h1 k (List.mem_range.2 hkn))
              have : o' = o := Option.some.inj (ho'.symm.trans ho)
              subst this
              have h2 := hall e he hbe
              rw [hon, getD_left _ (by omega), getD_both hkun] at h2
              cases h2
        have h3 := qOp_take (n := n) hb hin (h.2 i ((up i hin).1 hi))
        rw [set_left (by omega)]
        exact wpOp_of_qOp hw (fun a' w' hw' hK => ih _ a' w' (by simpa using hL) hw' hK) h3

/-- What the two Bools of Derived/StillTail.lean and the two of this text ask of a region whose last operations wait for all others. -/
def tailB (l : List Oper) (n : Nat) : Bool :=
  decide (n ≤ l.length) && Region.lexB .any (l.take n).toArray && backB (l.take n).toArray && lastB .any l.toArray n &&
    Region.seqB .any l.toArray (l.length - n) n (Array.replicate n true ++ Array.replicate (l.length - n) false)

/-- A region that draws its order: the first n operations read, or call what makes memory at most; those from n on wait for them all, and stand in one order. -/
theorem wp_region_over_tail {id : Nat} {Q : Exit → Act → World → Prop} {a : Act} {w : World} {l : List Oper} (n : Nat) (hm : P.follows .mixedOrders = true) (hB : tailB l n = true)
    (h : (∀ (x : Over w) (b o : Nat), b < w.heap.size → x.wd.cell? ⟨b, o, none⟩ = w.cell? ⟨b, o, none⟩) → wpQuiet P (l.take n).toArray (fun w' => ∃ x : Over w, w' = x.wd) (fun a' => ∀ w', Below w.heap.size w w' → wpList P l.toArray Q (l.drop n) a' w') (l.take n) a) : (Code.region id l.toArray true).wp P Q a w := by
  simp only [tailB, Bool.and_eq_true, decide_eq_true_eq] at hB
  obtain ⟨⟨⟨⟨hn, hlex⟩, hb⟩, hl⟩, hseq⟩ := hB
  simp only [Region.lexB, Bool.and_eq_true] at hlex
  refine wp_region_any hm ?_
  have htl : (l.take n).length = n := by simp; omega
  have hdl : (l.drop n).length = l.length - n := by simp
  have h1 := wpAnyQ_lex (C := fun w' => ∃ x : Over w, w' = x.wd) (md := .any) hlex.1 (l.take n) 0 (Array.replicate (l.take n).toArray.size false) a (by simp) (by simpa using hlex.2) (h (fun x b o hb => x.cell b o hb))
  have h2 := wpAny_of_pre (C := fun w' => ∃ x : Over w, w' = x.wd) (Q := Q) hn hb hl (fun a' w' hw' h0 => by
    have := wpAny_of_seq (md := .any) (Q' := Q) (l.drop n) n (Array.replicate n true ++ Array.replicate (l.length - n) false) a' w' (fun j => by simp [List.getElem?_drop]) (by rw [hdl]; exact hseq) (h0 w' (by obtain ⟨x, rfl⟩ := hw'; exact x.below))
    rwa [hdl] at this) _ _ a { w with drawn := w.drawn + 1 } (by simp; omega) ⟨⟨{ w with drawn := w.drawn + 1 }, (Below.refl _ _).drew⟩, rfl⟩ h1
  rw [htl] at h2
  have e1 : (Array.replicate (l.take n).toArray.size false ++ Array.replicate (l.length - n) false) = Array.replicate l.toArray.size false := by
    rw [Array.replicate_append_replicate]
    congr 1
    simp; omega
  rw [e1, show n + (l.length - n) = l.toArray.size by simp; omega] at h2
  exact h2
/-- The two theorems, told by what is known of blocks. -/
theorem wp_region_known {id : Nat} {Q : Exit → Act → World → Prop} {a : Act} {w w0 : World} {ks : List (Nat × Array Value × TypeId)} {l : List Oper} (hk : Known w0 w ks) (hm : P.follows .mixedOrders = true) (hB : Region.lexB .any l.toArray = true)
    (h : (∀ x : Over w, Rules x.wd ks) → wpQuiet P l.toArray (fun w' => ∃ x : Over w, w' = x.wd) (fun a' => ∀ w', Known w0 w' ks → Q .normal a' w') l a) : (Code.region id l.toArray true).wp P Q a w :=
  wp_region_over hm hB fun _ => wpQuiet_post (fun _ h' w' hw' => h' w' (hk.keep hw')) _ a (h fun x => (hk.keep x.below).rules)
theorem wp_region_known_tail {id : Nat} {Q : Exit → Act → World → Prop} {a : Act} {w w0 : World} {ks : List (Nat × Array Value × TypeId)} {l : List Oper} (hk : Known w0 w ks) (n : Nat) (hm : P.follows .mixedOrders = true) (hB : tailB l n = true)
    (h : (∀ x : Over w, Rules x.wd ks) → wpQuiet P (l.take n).toArray (fun w' => ∃ x : Over w, w' = x.wd) (fun a' => ∀ w', Known w0 w' ks → wpList P l.toArray Q (l.drop n) a' w') (l.take n) a) : (Code.region id l.toArray true).wp P Q a w :=
  wp_region_over_tail n hm hB fun _ => wpQuiet_post (fun _ h' w' hw' => h' w' (hk.keep hw')) _ a (h fun x => (hk.keep x.below).rules)
end
end Go.Proofs.YtgdpdbboccoljaaDoor
