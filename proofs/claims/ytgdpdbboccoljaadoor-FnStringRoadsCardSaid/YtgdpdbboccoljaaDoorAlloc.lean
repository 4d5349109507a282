/-
  A region that draws its order and makes a new block for its result ('x := f(g(..), ..)', x an array): whenever the block is made, the values are those of the walk in the order of the text, and the block is a new one.
  Conditions: none beyond those that each theorem writes out.
-/
import Derived.Test.YtgdpdbboccoljaaDoorBase
namespace Go.Proofs.YtgdpdbboccoljaaDoor
open Go.RowKit

section
variable {P : Program}

/-- A call hands back one value. -/
theorem calls_det {f : FuncId} {args : Array Value} {w : World} {v1 v2 : Value} {g : FuncId} {fn : Func} (hg : P.funcs[g]? = some fn) (hr : fn.results = #[]) (hi : P.inits.idxOf? g = none) {R1 R2 : World → Prop}
    (h1 : Calls P f args w fun e w' => e = .returned v1 ∧ R1 w') (h2 : Calls P f args w fun e w' => e = .returned v2 ∧ R2 w') : v1 = v2 := by
  obtain ⟨e1, w1, fr1, ⟨rfl, _⟩, ⟨n1, hn1⟩, _, l1⟩ := h1 [⟨g, #[], [], [], .returning, .normal, none⟩]
  obtain ⟨e2, w2, fr2, ⟨rfl, _⟩, ⟨n2, hn2⟩, _, l2⟩ := h2 [⟨g, #[], [], [], .returning, .normal, none⟩]
  have lc : ∀ w : World, Frame.leaving P ⟨g, #[], [], [], .returning, .normal, none⟩ w (.returned (.tuple #[])) := fun w => ⟨rfl, rfl, rfl, fn, hg, results_none hr _ _ _⟩
  have after : ∀ (fr : Frame) (w1 : World) (v : Value) (k : Nat) (fr' : Frame) (w' : World), fr.leaving P w1 (.returned v) →
      runN P (k + 1) (lone fr [⟨g, #[], [], [], .returning, .normal, none⟩] w1) ≠ .next (lone fr' [⟨g, #[], [], [], .returning, .normal, none⟩] w') := fun fr w1 v k fr' w' hl h => by
    have s1 := step_leave_returned (c := ⟨g, #[], [], [], .returning, .normal, none⟩) (cs := []) hl
    have s2 := step_leave_done (lc w1) hi
    simp only [runN, s1] at h
    cases k with
    | zero => simp [runN, lone] at h
    | succ k =>
      have e0 : Frame.finish ⟨g, #[], [], [], .returning, .normal, none⟩ v = ⟨g, #[], [], [], .returning, .normal, none⟩ := rfl
      rw [e0] at h
      simp [runN, s2] at h
  rcases Nat.lt_trichotomy n1 n2 with h | h | h
  · obtain ⟨k, rfl⟩ : ∃ k, n2 = n1 + (k + 1) := ⟨n2 - n1 - 1, by omega⟩
    rw [runN_add, hn1] at hn2
    exact absurd hn2 (after _ _ _ _ _ _ l1)
  · subst h
    rw [hn1] at hn2
    simp only [Stepped.next.injEq, lone, Machine.mk.injEq, Array.mk.injEq, List.cons.injEq, Goroutine.mk.injEq] at hn2
    obtain ⟨rfl, ⟨⟨rfl, _⟩, _⟩, _⟩ := hn2
    obtain ⟨_, _, _, f1, hf1, hr1⟩ := l1
    obtain ⟨_, _, _, f2, hf2, hr2⟩ := l2
    have : f1 = f2 := Option.some.inj (hf1.symm.trans hf2)
    subst this
    rw [hr1] at hr2
    simpa using hr2
  · obtain ⟨k, rfl⟩ : ∃ k, n1 = n2 + (k + 1) := ⟨n1 - n2 - 1, by omega⟩
    rw [runN_add, hn2] at hn1
    exact absurd hn1 (after _ _ _ _ _ _ l2)

theorem quiet_det {o : Oper} {a : Act} {C C' : World → Prop} {w : World} {v v' : Value} {g : FuncId} {fn : Func} (hg : P.funcs[g]? = some fn) (hr : fn.results = #[]) (hi : P.inits.idxOf? g = none)
    (h : o.quietAt P a C w v) (h' : o.quietAt P a C' w v') : v = v' := by
  unfold Oper.quietAt at h h'
  generalize (execOp a.eval o).run P w = r at h h'
  cases r with
  | ok n w1 =>
    cases n <;> simp only [Oper.quietUpon] at h h'
    case value u => exact h.2.symm.trans h'.2
    case skip => exact h.2.trans h'.2.symm
    case enter f args => exact calls_det hg hr hi h.2 h'.2
  | halt x w1 => simp only [Oper.quietUpon] at h

theorem qOp_all {ops : Array Oper} {w : World} {i : Nat} {a : Act} {K : World → Act → Prop} {g : FuncId} {fn : Func} (hg : P.funcs[g]? = some fn) (hr : fn.results = #[]) (hi : P.inits.idxOf? g = none)
    (h : ∀ W, Below w.heap.size w W → qOp P ops (fun w' => ∃ x : Over W, w' = x.wd) i (K W) a) :
    qOp P ops (fun w' => ∃ x : Over w, w' = x.wd) i (fun a' => ∀ W, Below w.heap.size w W → K W a') a := by
  unfold qOp at *
  cases ho : ops[i]? with
  | none => simp only [ho] at h ⊢; exact h
  | some o =>
    simp only [ho] at h ⊢
    by_cases hw : Region.wanted o (yielded ops a.tmps) = true
    · simp only [hw, if_true] at h ⊢
      obtain ⟨v, hv, _⟩ := h w (ext_refl w)
      refine ⟨v, hv, fun W hW => ?_⟩
      obtain ⟨v', hv', hK⟩ := h W hW
      have := quiet_det hg hr hi (hv W ⟨⟨W, hW⟩, rfl⟩) (hv' W ⟨⟨W, ext_refl W⟩, rfl⟩)
      subst this
      exact hK
    · simp only [hw] at h ⊢
      exact h

/-- An operation that does not look at slot d, nor writes it, in a frame in which d has been written. -/
theorem qOp_beside {ops : Array Oper} {C : World → Prop} {i d : Nat} {p : Value} {a : Act} {K : Act → Prop} (hd : ∀ o, ops[i]? = some o → d ∉ o.looksAt ops ∧ o.dst ≠ some d ∧ ∀ cs b, o.op ≠ .select cs b)
    (h : qOp P ops C i K a) : qOp P ops C i (fun a' => ∃ a1, a' = a1.put (some d) p ∧ K a1) (a.put (some d) p) := by
  unfold qOp at *
  cases ho : ops[i]? with
  | none => simp only [ho] at h ⊢; exact ⟨a, rfl, h⟩
  | some o =>
    obtain ⟨h1, h2, h3⟩ := hd o ho
    simp only [ho] at h ⊢
    have hl : ∀ d', some d = some d' → d' ∉ o.looksAt ops := fun d' e => by cases e; exact h1
    have hc : ∀ v, (a.put (some d) p).put o.dst v = (a.put o.dst v).put (some d) p := fun v => Act.put_comm a p v (fun d' e => by cases e; exact h2)
    rw [wanted_put o a (some d) p hl]
    split
    · rename_i hw
      simp only [hw, if_true] at h
      obtain ⟨v, hv, hK⟩ := h
      refine ⟨v, fun w hw' => ?_, a.put o.dst v, hc v, hK⟩
      have := hv w hw'
      unfold Oper.quietAt at *
      rwa [execOp_put o h3 a (some d) p hl]
    · rename_i hw
      simp only [hw] at h
      exact ⟨a.put o.dst undef, hc undef, h⟩

def allocB (l : List Oper) (n d t : Nat) : Bool :=
  decide (n + 2 = l.length) && Region.lexB .any (l.take n).toArray && backB (l.take n).toArray &&
    (match l[n]? with | some o => (o.dst == some d) && (match o.op with | .alloc t' => t' == t | _ => false) && o.after.isEmpty && o.guard.isNone | none => false) &&
    ((List.range (n + 1)).all fun j => Region.waitsFor .any l.toArray (n + 1) j) &&
    ((l.take n).all fun o => !(o.looksAt l.toArray).contains d && o.dst != some d) &&
    Region.seqB .any l.toArray 1 (n + 1) (Array.replicate n true ++ #[true, false])

theorem allocB_spec {l : List Oper} {n d t : Nat} (h : allocB l n d t = true) : n + 2 = l.length ∧ Region.lexB .any (l.take n).toArray = true ∧ backB (l.take n).toArray = true ∧
    (∃ o, l[n]? = some o ∧ o.dst = some d ∧ o.op = .alloc t ∧ o.after = #[] ∧ o.guard = none) ∧ (∀ j, j < n + 1 → Region.waitsFor .any l.toArray (n + 1) j = true) ∧
    (∀ i o, i < n → l[i]? = some o → d ∉ o.looksAt l.toArray ∧ o.dst ≠ some d) ∧ Region.seqB .any l.toArray 1 (n + 1) (Array.replicate n true ++ #[true, false]) = true := by
  simp only [allocB, Bool.and_eq_true, decide_eq_true_eq] at h
  obtain ⟨⟨⟨⟨⟨⟨h1, h2⟩, h3⟩, h4⟩, h5⟩, h6⟩, h7⟩ := h
  refine ⟨h1, h2, h3, ?_, fun j hj => List.all_eq_true.1 h5 j (List.mem_range.2 hj), fun i o hi ho => ?_, h7⟩
  · cases ho : l[n]? with
    | none => rw [ho] at h4; cases h4
    | some o =>
      rw [ho] at h4
      simp only [Bool.and_eq_true, beq_iff_eq] at h4
      obtain ⟨⟨⟨a1, a2⟩, a3⟩, a4⟩ := h4
      refine ⟨o, rfl, a1, ?_, ?_, ?_⟩
      · revert a2
        cases o.op <;> intro a2 <;> first | (cases a2; done) | (simp only [beq_iff_eq] at a2; rw [a2])
      · exact Array.isEmpty_iff.1 a3
      · exact Option.isNone_iff_eq_none.1 a4
  · have hm : o ∈ l.take n := List.mem_of_getElem? (i := i) (by rw [List.getElem?_take, if_pos hi]; exact ho)
    have := List.all_eq_true.1 h6 o hm
    simp only [Bool.and_eq_true, Bool.not_eq_true', bne_iff_ne, ne_eq] at this
    exact ⟨fun hc => by have := this.1; simp at this; exact this hc, this.2⟩

theorem wpA {Q : Exit → Act → World → Prop} {w w0 w' : World} {ks : List (Nat × Array Value × TypeId)} {l : List Oper} {n d t : Nat} {zs : Array Value} {al : Oper} {L : Array Bool} {a : Act} {fuel : Nat} (hk : Known w0 w ks) (hal : l[n]? = some al) (hd1 : al.dst = some d) (hguard : al.guard = none)
    (hz : ∀ o, l[n]? = some o → ∀ (ρ : Operand → Value) (w : World), (execOp ρ o).run P w = .ok (.value (.pointer (some ⟨w.heap.size, 0, none⟩))) (w.alloc (.cells zs t))) (hL : L.size = n) (hw' : Below w.heap.size w w')
    (h : Below w.heap.size w (w'.alloc (.cells zs t)) → (∀ x ∈ ks, x.1 ≠ w'.heap.size) → Known w0 (w'.alloc (.cells zs t)) ((w'.heap.size, zs, t) :: ks) →
      wpAny P .any l.toArray Q fuel (L ++ #[true, false]) (a.put (some d) (.pointer (some ⟨w'.heap.size, 0, none⟩))) (w'.alloc (.cells zs t))) :
    wpOp P l.toArray Q n (wpAny P .any l.toArray Q fuel ((L ++ #[false, false]).setIfInBounds n true)) a w' := by
  have e : (L ++ #[false, false]).setIfInBounds n true = L ++ #[true, false] := by
    apply Array.ext_getElem?
    intro j
    by_cases hj : j < n
    · rw [Array.getElem?_setIfInBounds_ne (by omega), Array.getElem?_append_left (by omega), Array.getElem?_append_left (by omega)]
    · by_cases hj2 : n = j
      · subst hj2
        rw [Array.getElem?_append_right (by omega)]
        simp [hL]
      · rw [Array.getElem?_setIfInBounds_ne hj2, Array.getElem?_append_right (by omega), Array.getElem?_append_right (by omega), hL]
        obtain ⟨m, hm⟩ : ∃ m, j - n = m + 1 := ⟨j - n - 1, by omega⟩
        rw [hm]
        simp
  rw [e]
  unfold wpOp
  simp only [show l.toArray[n]? = some al by simpa using hal]
  have hw : Region.wanted al (yielded l.toArray a.tmps) = true := by unfold Region.wanted; rw [hguard]
  rw [if_pos hw]
  refine .inl ?_
  unfold Oper.wp
  rw [hz al hal, Oper.upon_value, hd1]
  exact h (ext_alloc hw') (fun x hx => by
    have := lt_of_block ((hk.keep hw').2 x hx)
    omega) (hk.keep hw').alloc

theorem wp_region_known_alloc {id : Nat} {Q : Exit → Act → World → Prop} {a : Act} {w w0 : World} {ks : List (Nat × Array Value × TypeId)} {l : List Oper} (hk : Known w0 w ks) (n d t : Nat) (zs : Array Value) {g : FuncId} {fn : Func}
    (hg : P.funcs[g]? = some fn) (hr : fn.results = #[]) (hi : P.inits.idxOf? g = none) (hm : P.follows .mixedOrders = true) (hB : allocB l n d t = true)
    (hz : ∀ o, l[n]? = some o → ∀ (ρ : Operand → Value) (w : World), (execOp ρ o).run P w = .ok (.value (.pointer (some ⟨w.heap.size, 0, none⟩))) (w.alloc (.cells zs t)))
    (h : ∀ W, Known w0 W ks → (∀ x : Over W, Rules x.wd ks) → wpQuiet P (l.take n).toArray (fun w' => ∃ x : Over W, w' = x.wd) (fun a' => ∀ (b : Nat) (w' : World), w0.heap.size ≤ b → (∀ x ∈ ks, x.1 ≠ b) → Known w0 w' ((b, zs, t) :: ks) →
      wpList P l.toArray Q (l.drop (n + 1)) (a'.put (some d) (.pointer (some ⟨b, 0, none⟩))) w') (l.take n) a) : (Code.region id l.toArray true).wp P Q a w := by
  obtain ⟨hn, hlex, hb, ⟨al, hal, hd1, hop, hafter, hguard⟩, hwait, hpre, hseq⟩ := allocB_spec hB
  have hsel : Region.noSelect (l.take n).toArray = true := by simp only [Region.lexB, Bool.and_eq_true] at hlex; exact hlex.1
  have hlex2 : Region.lexFrom .any (l.take n).toArray (l.take n).toArray.size 0 (Array.replicate (l.take n).toArray.size false) = true := by simp only [Region.lexB, Bool.and_eq_true] at hlex; exact hlex.2
  have hsz : (l.take n).toArray.size = n := by simp; omega
  have htl : (l.take n).length = n := by simp; omega
  have e1 : ∀ i, i < n → (l.take n).toArray[i]? = l.toArray[i]? := fun i hi => by simp [hi]
  have hnosel : ∀ (i : Nat) (o : Oper), i < n → l.toArray[i]? = some o → ∀ cs b, o.op ≠ .select cs b := fun i o hi ho cs b => Region.noSelect_spec hsel i o cs b ((e1 i hi).trans ho)
  have hdl : (l.drop (n + 1)).length = 1 := by simp; omega
  -- which operations may come up
  have up : ∀ (L : Array Bool) (f1 : Bool), L.size = n → ∀ i, i < n → (i ∈ Region.ready .any l.toArray (L ++ #[f1, false]) ↔ i ∈ Region.ready .any (l.take n).toArray L) := fun L f1 hL i hi => by
    rw [mem_ready, mem_ready, getD_left _ (by omega), e1 i hi]
    refine and_congr_right fun _ => exists_congr fun o => and_congr_right fun ho => forall_congr' fun e => forall_congr' fun he => ?_
    rw [getD_left _ (by have := (backB_spec hb ((e1 i hi).trans ho)).1 e he; omega)]
  have last : ∀ (L : Array Bool) (f1 : Bool), L.size = n → ∀ k, k < n + 1 → (L ++ #[f1, false]).getD k false = false → ∀ i, i ∈ Region.ready .any l.toArray (L ++ #[f1, false]) → i < n + 1 := fun L f1 hL k hk hun i hi => by
    obtain ⟨_, o, ho, hall⟩ := mem_ready.1 hi
    have his : i < l.toArray.size := (Array.getElem?_eq_some_iff.1 ho).1
    have his' : i < n + 2 := by simpa [← hn] using his
    rcases Nat.lt_or_ge i (n + 1) with h' | h'
    · exact h'
    · have : i = n + 1 := by omega
      subst this
      obtain ⟨o', ho', e, he, hbe, hon⟩ := Region.waitsFor_spec (hwait k hk)
      have : o' = o := Option.some.inj (ho'.symm.trans ho)
      subst this
      have h2 := hall e he hbe
      rw [hon, hun] at h2
      cases h2
  -- behind the new block
  have phaseB : ∀ (b : Nat) (W : World), w0.heap.size ≤ b → (∀ x ∈ ks, x.1 ≠ b) → Known w0 W ((b, zs, t) :: ks) → ∀ (fuel : Nat) (L : Array Bool) (a : Act) (w' : World), L.size = n → Below W.heap.size W w' →
      wpAnyQ P .any (l.take n).toArray (fun w' => ∃ x : Over W, w' = x.wd) (fun a' => ∀ (b : Nat) (w' : World), w0.heap.size ≤ b → (∀ x ∈ ks, x.1 ≠ b) → Known w0 w' ((b, zs, t) :: ks) → wpList P l.toArray Q (l.drop (n + 1)) (a'.put (some d) (.pointer (some ⟨b, 0, none⟩))) w') fuel L a →
      wpAny P .any l.toArray Q (fuel + 1) (L ++ #[true, false]) (a.put (some d) (.pointer (some ⟨b, 0, none⟩))) w' := by
    intro b W hb1 hb2 hW fuel
    have fin : ∀ (L : Array Bool) (a : Act) (w' : World), L.size = n → Below W.heap.size W w' → Region.ready .any (l.take n).toArray L = [] →
        (∀ (b : Nat) (w' : World), w0.heap.size ≤ b → (∀ x ∈ ks, x.1 ≠ b) → Known w0 w' ((b, zs, t) :: ks) → wpList P l.toArray Q (l.drop (n + 1)) (a.put (some d) (.pointer (some ⟨b, 0, none⟩))) w') →
        wpAny P .any l.toArray Q 1 (L ++ #[true, false]) (a.put (some d) (.pointer (some ⟨b, 0, none⟩))) w' := fun L a w' hL hw' hrd hQ => by
      have := eq_replicate hL (all_listed hb (by omega) hrd)
      subst this
      have := wpAny_of_seq (md := .any) (Q' := Q) (l.drop (n + 1)) (n + 1) (Array.replicate n true ++ #[true, false]) (a.put (some d) (.pointer (some ⟨b, 0, none⟩))) w' (fun j => by simp [List.getElem?_drop]) (by rw [hdl]; exact hseq) (hQ b w' hb1 hb2 (hW.keep hw'))
      rwa [hdl] at this
    induction fuel with
    | zero => intro L a w' hL hw' hh; exact fin L a w' hL hw' hh.1 hh.2
    | succ fuel ih =>
      intro L a w' hL hw' hh
      by_cases hrd : Region.ready .any (l.take n).toArray L = []
      · rw [Nat.add_comm]
        have := wpAny_more_by (fin L a w' hL hw' hrd (hh.1 hrd)) (fuel + 1)
        rw [Nat.add_comm] at this
        exact this
      · obtain ⟨k, hkr⟩ := List.exists_mem_of_ne_nil _ hrd
        obtain ⟨hkun, ok, hok, _⟩ := mem_ready.1 hkr
        have hkn : k < n := by have := (Array.getElem?_eq_some_iff.1 hok).1; omega
        refine ⟨fun h0 => ?_, fun i hir => ?_⟩
        · have := (up L true hL k hkn).2 hkr
          rw [h0] at this
          cases this
        · have hin1 := last L true hL k (by omega) (by rw [getD_left _ (by omega)]; exact getD_both hkun) i hir
          have hin : i < n := by
            rcases Nat.lt_or_ge i n with h' | h'
            · exact h'
            · have : i = n := by omega
              subst this
              have := (mem_ready.1 hir).1
              rw [Array.getD_eq_getD_getElem?, Array.getElem?_append_right (by omega)] at this
              simp [hL] at this
          have q1 := qOp_take (n := n) hb hin (hh.2 i ((up L true hL i hin).1 hir))
          have q2 := qOp_beside (p := .pointer (some ⟨b, 0, none⟩)) (d := d) (fun o ho => ⟨(hpre i o hin (by simpa using ho)).1, (hpre i o hin (by simpa using ho)).2, hnosel i o hin ho⟩) q1
          rw [set_left (by omega)]
          refine wpOp_of_qOp ⟨⟨w', hw'⟩, rfl⟩ (fun a' w'' hw'' hK => ?_) q2
          obtain ⟨a2, rfl, hK2⟩ := hK
          obtain ⟨x, rfl⟩ := hw''
          exact ih _ a2 _ (by simpa using hL) x.below hK2
  -- ahead of the new block
  have phaseA : ∀ (fuel : Nat) (L : Array Bool) (a : Act) (w' : World), L.size = n → Below w.heap.size w w' →
      (∀ W, Below w.heap.size w W → wpAnyQ P .any (l.take n).toArray (fun w' => ∃ x : Over W, w' = x.wd) (fun a' => ∀ (b : Nat) (w' : World), w0.heap.size ≤ b → (∀ x ∈ ks, x.1 ≠ b) → Known w0 w' ((b, zs, t) :: ks) → wpList P l.toArray Q (l.drop (n + 1)) (a'.put (some d) (.pointer (some ⟨b, 0, none⟩))) w') fuel L a) →
      wpAny P .any l.toArray Q (fuel + 2) (L ++ #[false, false]) a w' := by
    intro fuel
    induction fuel with
    | zero =>
      intro L a w' hL hw' hh
      have hnr : n ∈ Region.ready .any l.toArray (L ++ #[false, false]) := mem_ready.2 ⟨by rw [Array.getD_eq_getD_getElem?, Array.getElem?_append_right (by omega)]; simp [hL], al, by simpa using hal, fun e he => by rw [hafter] at he; simp at he⟩
      refine ⟨fun h0 => (by rw [h0] at hnr; cases hnr), fun i hir => ?_⟩
      have hin1 := last L false hL n (by omega) (by rw [Array.getD_eq_getD_getElem?, Array.getElem?_append_right (by omega)]; simp [hL]) i hir
      rcases Nat.lt_or_ge i n with h' | h'
      · have := (up L false hL i h').1 hir
        rw [(hh w (ext_refl w)).1] at this
        cases this
      · have : i = n := by omega
        subst this
        exact wpA hk hal hd1 hguard hz hL hw' (fun hW1 hb2 hK => phaseB _ _ (Nat.le_trans hk.1.size hw'.size) hb2 hK 0 L a _ hL (ext_refl _) (hh _ hW1))
    | succ fuel ih =>
      intro L a w' hL hw' hh
      have hnr : n ∈ Region.ready .any l.toArray (L ++ #[false, false]) := mem_ready.2 ⟨by rw [Array.getD_eq_getD_getElem?, Array.getElem?_append_right (by omega)]; simp [hL], al, by simpa using hal, fun e he => by rw [hafter] at he; simp at he⟩
      refine ⟨fun h0 => (by rw [h0] at hnr; cases hnr), fun i hir => ?_⟩
      have hin1 := last L false hL n (by omega) (by rw [Array.getD_eq_getD_getElem?, Array.getElem?_append_right (by omega)]; simp [hL]) i hir
      rcases Nat.lt_or_ge i n with h' | h'
      · have q0 := qOp_all hg hr hi (fun W hW => (hh W hW).2 i ((up L false hL i h').1 hir))
        have q1 := qOp_take (n := n) hb h' q0
        rw [set_left (by omega)]
        refine wpOp_of_qOp ⟨⟨w', hw'⟩, rfl⟩ (fun a' w'' hw'' hK => ?_) q1
        obtain ⟨x, rfl⟩ := hw''
        exact ih _ a' _ (by simpa using hL) x.below hK
      · have : i = n := by omega
        subst this
        exact wpA hk hal hd1 hguard hz hL hw' (fun hW1 hb2 hK => phaseB _ _ (Nat.le_trans hk.1.size hw'.size) hb2 hK (fuel + 1) L a _ hL (ext_refl _) (hh _ hW1))
  refine wp_region_any hm ?_
  have h1 : ∀ W, Below w.heap.size w W → wpAnyQ P .any (l.take n).toArray (fun w' => ∃ x : Over W, w' = x.wd) (fun a' => ∀ (b : Nat) (w' : World), w0.heap.size ≤ b → (∀ x ∈ ks, x.1 ≠ b) → Known w0 w' ((b, zs, t) :: ks) → wpList P l.toArray Q (l.drop (n + 1)) (a'.put (some d) (.pointer (some ⟨b, 0, none⟩))) w') (l.take n).length (Array.replicate (l.take n).toArray.size false) a := fun W hW =>
    wpAnyQ_lex (C := fun w' => ∃ x : Over W, w' = x.wd) (md := .any) hsel (l.take n) 0 (Array.replicate (l.take n).toArray.size false) a (by simp) (by simpa using hlex2) (h W (hk.keep hW) (fun x => ((hk.keep hW).keep x.below).rules))
  have h2 := phaseA _ _ a { w with drawn := w.drawn + 1 } (by simp; omega) ((ext_refl w).drew) h1
  rw [htl] at h2
  have e2 : (Array.replicate (l.take n).toArray.size false ++ #[false, false]) = Array.replicate l.toArray.size false := by
    rw [show (#[false, false] : Array Bool) = Array.replicate 2 false from rfl, Array.replicate_append_replicate]
    congr 1
    simp; omega
  rw [e2, show n + 2 = l.toArray.size by simp; omega] at h2
  exact h2
end
end Go.Proofs.YtgdpdbboccoljaaDoor
