/-
  The walks of the three laws on texts.
  Conditions: the library's table of powers of ten reads as its initialiser lays it; the numbers are of 64 bits.
-/
import Derived.Test.YtgdpdbboccoljaaDoorStr
namespace Go.Proofs.YtgdpdbboccoljaaDoor
open Go.RowKit
set_option linter.unusedSimpArgs false
set_option linter.unusedVariables false
set_option maxHeartbeats 2000000

theorem pt_both (x y : Int) (ox : Ok x) (oy : Ok y) : ∃ S : ByteArray, S.size ≤ 45 ∧ Hid (S = ofList (ptText x y)) ∧ (∀ w, Calls Tryd.prog 6 #[.agg #[.int .i64 x, .int .i64 y]] w (Gives (.string S) w)) ∧
    ∀ w, Tab w → Calls Tryd.prog 8 #[.agg #[.int .i64 x, .int .i64 y]] w (Gives (.string S) w) :=
  ⟨_, size_pt ox oy, rfl, fun w => sPointString x y ox oy w, fun w ht => iPointString x y ox oy w ht⟩
theorem rc_both (a b c d : Int) (oa : Ok a) (ob : Ok b) (oc : Ok c) (od : Ok d) : ∃ S : ByteArray, S.size ≤ 100 ∧ Hid (S = ofList (rcText a b c d)) ∧ (∀ w, Calls Tryd.prog 9 #[.agg #[.int .i64 a, .int .i64 b, .int .i64 c, .int .i64 d]] w (Gives (.string S) w)) ∧
    ∀ w, Tab w → Calls Tryd.prog 11 #[.agg #[.int .i64 a, .int .i64 b, .int .i64 c, .int .i64 d]] w (Gives (.string S) w) :=
  ⟨_, by
    have u := size_pt oa ob
    have v := size_pt oc od
    rw [size_ofList] at u v ⊢
    simp [rcText]; omega, rfl, fun w => sRectString a b c d oa ob oc od w, fun w ht => iRectString a b c d oa ob oc od w ht⟩

theorem walkPoint (x y : Int) (ox : Ok x) (oy : Ok y) (w : World) (ht : Tab w) : Calls Tryd.prog 3 #[.agg #[.int .i64 x, .int .i64 y]] w (Gives (.bool true) w) := by
  obtain ⟨S, s1, hS, hp1, hp2⟩ := pt_both x y ox oy
  have hB := Known.start w
  go_enter Tryd.func3, Tryd.ntmps3
  go_wp2_with (first | (go_at_call 7; refine (toA2 _ _ _).mono ?_; rintro e w1 ⟨rfl, hn⟩; (first | with_reducible replace hB := (hB).keep hn | with_reducible replace hB := (hB.alloc).keep hn | with_reducible replace hB := (hB.alloc.alloc).keep hn | with_reducible replace hB := (hB.alloc.alloc.alloc).keep hn | with_reducible replace hB := (hB.alloc.alloc.alloc.alloc).keep hn | with_reducible replace hB := (hB.alloc.alloc.alloc.alloc.alloc).keep hn | with_reducible replace hB := (hB.alloc.alloc.alloc.alloc.alloc.alloc).keep hn | with_reducible replace hB := (((hB.set1 hb1 hb2).set1 hb1 hb2)).keep hn | with_reducible replace hB := (((((hB.set1 hb1 hb2).set1 hb1 hb2).set1 hb1 hb2).set1 hb1 hb2)).keep hn); clear hn; (try clear hR); have hR := hB.rules; simp only [Rules, World.size_alloc, Nat.add_one_le_iff, List.setIfInBounds_toArray, List.set_cons_zero, List.set_cons_succ] at hR) | (go_at_call 6; refine (hp1 _).mono ?_; rintro e w1 ⟨rfl, hn⟩; (first | with_reducible replace hB := (hB).keep hn | with_reducible replace hB := (hB.alloc).keep hn | with_reducible replace hB := (hB.alloc.alloc).keep hn | with_reducible replace hB := (hB.alloc.alloc.alloc).keep hn | with_reducible replace hB := (hB.alloc.alloc.alloc.alloc).keep hn | with_reducible replace hB := (hB.alloc.alloc.alloc.alloc.alloc).keep hn | with_reducible replace hB := (hB.alloc.alloc.alloc.alloc.alloc.alloc).keep hn | with_reducible replace hB := (((hB.set1 hb1 hb2).set1 hb1 hb2)).keep hn | with_reducible replace hB := (((((hB.set1 hb1 hb2).set1 hb1 hb2).set1 hb1 hb2).set1 hb1 hb2)).keep hn); clear hn; (try clear hR); have hR := hB.rules; simp only [Rules, World.size_alloc, Nat.add_one_le_iff, List.setIfInBounds_toArray, List.set_cons_zero, List.set_cons_succ] at hR) | (go_at_call 8; refine (hp2 _ ?ht).mono ?_; (case ht => first | with_reducible exact ht.known hB | with_reducible exact ht.known hB.alloc | with_reducible exact ht.known hB.alloc.alloc | with_reducible exact ht.known hB.alloc.alloc.alloc | with_reducible exact ht.known hB.alloc.alloc.alloc.alloc | with_reducible exact ht.known hB.alloc.alloc.alloc.alloc.alloc | with_reducible exact ht.known hB.alloc.alloc.alloc.alloc.alloc.alloc); rintro e w1 ⟨rfl, hn⟩; (first | with_reducible replace hB := (hB).keep hn | with_reducible replace hB := (hB.alloc).keep hn | with_reducible replace hB := (hB.alloc.alloc).keep hn | with_reducible replace hB := (hB.alloc.alloc.alloc).keep hn | with_reducible replace hB := (hB.alloc.alloc.alloc.alloc).keep hn | with_reducible replace hB := (hB.alloc.alloc.alloc.alloc.alloc).keep hn | with_reducible replace hB := (hB.alloc.alloc.alloc.alloc.alloc.alloc).keep hn | with_reducible replace hB := (((hB.set1 hb1 hb2).set1 hb1 hb2)).keep hn | with_reducible replace hB := (((((hB.set1 hb1 hb2).set1 hb1 hb2).set1 hb1 hb2).set1 hb1 hb2)).keep hn); clear hn; (try clear hR); have hR := hB.rules; simp only [Rules, World.size_alloc, Nat.add_one_le_iff, List.setIfInBounds_toArray, List.set_cons_zero, List.set_cons_succ] at hR))
  refine bodyPost_ret (v := .bool true) ?_ rfl ⟨rfl, ?_⟩
  · simp [results, Tryd.results3, go_sem]
  · repeat (first | exact ext_refl _ | exact hB.below | apply ext_alloc | apply ext_drew | (refine ext_set ?_ ?_; · first | (dsimp only; omega) | (simp; omega) | (simp; done)))
theorem walkRect (a b c d : Int) (oa : Ok a) (ob : Ok b) (oc : Ok c) (od : Ok d) (w : World) (ht : Tab w) : Calls Tryd.prog 4 #[.agg #[.int .i64 a, .int .i64 b, .int .i64 c, .int .i64 d]] w (Gives (.bool true) w) := by
  obtain ⟨S, s1, hS, hp1, hp2⟩ := rc_both a b c d oa ob oc od
  have hB := Known.start w
  go_enter Tryd.func4, Tryd.ntmps4
  go_wp2_with (first | (go_at_call 10; refine (toA4 _ _ _ _ _).mono ?_; rintro e w1 ⟨rfl, hn⟩; (first | with_reducible replace hB := (hB).keep hn | with_reducible replace hB := (hB.alloc).keep hn | with_reducible replace hB := (hB.alloc.alloc).keep hn | with_reducible replace hB := (hB.alloc.alloc.alloc).keep hn | with_reducible replace hB := (hB.alloc.alloc.alloc.alloc).keep hn | with_reducible replace hB := (hB.alloc.alloc.alloc.alloc.alloc).keep hn | with_reducible replace hB := (hB.alloc.alloc.alloc.alloc.alloc.alloc).keep hn | with_reducible replace hB := (((hB.set1 hb1 hb2).set1 hb1 hb2)).keep hn | with_reducible replace hB := (((((hB.set1 hb1 hb2).set1 hb1 hb2).set1 hb1 hb2).set1 hb1 hb2)).keep hn); clear hn; (try clear hR); have hR := hB.rules; simp only [Rules, World.size_alloc, Nat.add_one_le_iff, List.setIfInBounds_toArray, List.set_cons_zero, List.set_cons_succ] at hR) | (go_at_call 9; refine (hp1 _).mono ?_; rintro e w1 ⟨rfl, hn⟩; (first | with_reducible replace hB := (hB).keep hn | with_reducible replace hB := (hB.alloc).keep hn | with_reducible replace hB := (hB.alloc.alloc).keep hn | with_reducible replace hB := (hB.alloc.alloc.alloc).keep hn | with_reducible replace hB := (hB.alloc.alloc.alloc.alloc).keep hn | with_reducible replace hB := (hB.alloc.alloc.alloc.alloc.alloc).keep hn | with_reducible replace hB := (hB.alloc.alloc.alloc.alloc.alloc.alloc).keep hn | with_reducible replace hB := (((hB.set1 hb1 hb2).set1 hb1 hb2)).keep hn | with_reducible replace hB := (((((hB.set1 hb1 hb2).set1 hb1 hb2).set1 hb1 hb2).set1 hb1 hb2)).keep hn); clear hn; (try clear hR); have hR := hB.rules; simp only [Rules, World.size_alloc, Nat.add_one_le_iff, List.setIfInBounds_toArray, List.set_cons_zero, List.set_cons_succ] at hR) | (go_at_call 11; refine (hp2 _ ?ht).mono ?_; (case ht => first | with_reducible exact ht.known hB | with_reducible exact ht.known hB.alloc | with_reducible exact ht.known hB.alloc.alloc | with_reducible exact ht.known hB.alloc.alloc.alloc | with_reducible exact ht.known hB.alloc.alloc.alloc.alloc | with_reducible exact ht.known hB.alloc.alloc.alloc.alloc.alloc | with_reducible exact ht.known hB.alloc.alloc.alloc.alloc.alloc.alloc); rintro e w1 ⟨rfl, hn⟩; (first | with_reducible replace hB := (hB).keep hn | with_reducible replace hB := (hB.alloc).keep hn | with_reducible replace hB := (hB.alloc.alloc).keep hn | with_reducible replace hB := (hB.alloc.alloc.alloc).keep hn | with_reducible replace hB := (hB.alloc.alloc.alloc.alloc).keep hn | with_reducible replace hB := (hB.alloc.alloc.alloc.alloc.alloc).keep hn | with_reducible replace hB := (hB.alloc.alloc.alloc.alloc.alloc.alloc).keep hn | with_reducible replace hB := (((hB.set1 hb1 hb2).set1 hb1 hb2)).keep hn | with_reducible replace hB := (((((hB.set1 hb1 hb2).set1 hb1 hb2).set1 hb1 hb2).set1 hb1 hb2)).keep hn); clear hn; (try clear hR); have hR := hB.rules; simp only [Rules, World.size_alloc, Nat.add_one_le_iff, List.setIfInBounds_toArray, List.set_cons_zero, List.set_cons_succ] at hR))
  refine bodyPost_ret (v := .bool true) ?_ rfl ⟨rfl, ?_⟩
  · simp [results, Tryd.results4, go_sem]
  · repeat (first | exact ext_refl _ | exact hB.below | apply ext_alloc | apply ext_drew | (refine ext_set ?_ ?_; · first | (dsimp only; omega) | (simp; omega) | (simp; done)))

/-- Texts that are cut at the first such sign. -/
theorem cut_at {s : UInt8} : ∀ {x y u v : List UInt8}, s ∉ x → s ∉ u → x ++ s :: y = u ++ s :: v → x = u ∧ y = v
  | [], _, [], _, _, _, h => by simp at h; exact ⟨rfl, h⟩
  | [], _, b :: u, _, _, hu, h => by simp at h; exact absurd (by simp [h.1] : s ∈ b :: u) hu
  | a :: x, _, [], _, hx, _, h => by simp at h; exact absurd (by simp [h.1] : s ∈ a :: x) hx
  | a :: x, y, b :: u, v, hx, hu, h => by
    simp only [List.cons_append, List.cons.injEq] at h
    obtain ⟨e1, e2⟩ := cut_at (fun h' => hx (List.mem_cons_of_mem _ h')) (fun h' => hu (List.mem_cons_of_mem _ h')) h.2
    exact ⟨by rw [h.1, e1], e2⟩
/-- The digits of a number, read again. -/
def val (l : List UInt8) : Nat := l.foldl (fun acc c => acc * 10 + (c.toNat - 48)) 0
theorem digit_nat {k : Nat} (h : k < 10) : (UInt8.ofNat (48 + k)).toNat = 48 + k := UInt8.toNat_ofNat_of_lt' (by simp [UInt8.size]; omega)
theorem val_dec : ∀ u : Nat, val (Lib.decDigits u) = u := by
  intro u
  induction u using Nat.strongRecOn with
  | _ u ih =>
    by_cases h : u < 10
    · rw [Lib.decDigits_one h]
      simp only [val, List.foldl_cons, List.foldl_nil, digit_nat h]
      omega
    · rw [Lib.decDigits, dif_neg h]
      have e := ih (u / 10) (by omega)
      unfold val at e ⊢
      rw [List.foldl_append, e]
      simp only [List.foldl_cons, List.foldl_nil, digit_nat (Nat.mod_lt u (show 10 > 0 by omega))]
      omega
theorem dec_digit : ∀ (u : Nat) (c : UInt8), c ∈ Lib.decDigits u → 48 ≤ c.toNat ∧ c.toNat ≤ 57 := by
  intro u
  induction u using Nat.strongRecOn with
  | _ u ih =>
    intro c hc
    by_cases h : u < 10
    · rw [Lib.decDigits_one h] at hc
      simp only [List.mem_singleton] at hc
      subst hc
      rw [digit_nat h]
      omega
    · rw [Lib.decDigits, dif_neg h, List.mem_append] at hc
      rcases hc with hc | hc
      · exact ih (u / 10) (by omega) c hc
      · simp only [List.mem_singleton] at hc
        subst hc
        have := Nat.mod_lt u (show 10 > 0 by omega)
        rw [digit_nat this]
        omega
theorem dec_ne (u : Nat) : Lib.decDigits u ≠ [] := by
  intro h
  have := congrArg List.length h
  rw [Lib.decDigits_length] at this
  have := Lib.nDigits_pos u
  simp at *
  omega
theorem itoa_sign (n : Int) (c : UInt8) (hc : c ∈ Lib.itoa n) : c.toNat = 45 ∨ 48 ≤ c.toNat := by
  unfold Lib.itoa at hc
  split at hc
  · rcases List.mem_cons.1 hc with rfl | hc
    · exact .inl rfl
    · exact .inr (dec_digit _ _ hc).1
  · exact .inr (dec_digit _ _ hc).1
theorem itoa_no (n : Int) {s : UInt8} (h : s.toNat < 45) : s ∉ Lib.itoa n := fun hc => by
  have := itoa_sign n s hc
  omega
theorem itoa_inj {m n : Int} (h : Lib.itoa m = Lib.itoa n) : m = n := by
  have noSign : ∀ {u v : Nat}, 45 :: Lib.decDigits u = Lib.decDigits v → False := fun {u v} e => by
    have := (dec_digit v 45 (by rw [← e]; exact List.mem_cons_self ..)).1
    simp at this
  have same : ∀ {u v : Nat}, Lib.decDigits u = Lib.decDigits v → u = v := fun {u v} e => by rw [← val_dec u, e, val_dec v]
  unfold Lib.itoa at h
  split at h <;> split at h
  · simp only [List.cons.injEq, true_and] at h
    have := same h
    omega
  · exact (noSign h).elim
  · exact (noSign h.symm).elim
  · have := same h
    omega
theorem pt_inj {x y u v : Int} (h : ptText x y = ptText u v) : x = u ∧ y = v := by
  unfold ptText at h
  simp only [List.cons.injEq, true_and] at h
  obtain ⟨e1, e2⟩ := cut_at (itoa_no x (by decide)) (itoa_no u (by decide)) h
  obtain ⟨e3, _⟩ := cut_at (y := []) (v := []) (itoa_no y (by decide)) (itoa_no v (by decide)) e2
  exact ⟨itoa_inj e1, itoa_inj e3⟩
theorem rc_inj {a b c d e f g k : Int} (h : rcText a b c d = rcText e f g k) : a = e ∧ b = f ∧ c = g ∧ d = k := by
  unfold rcText ptText at h
  simp only [List.cons_append, List.append_assoc, List.cons.injEq, true_and, List.nil_append] at h
  obtain ⟨e1, h⟩ := cut_at (itoa_no a (by decide)) (itoa_no e (by decide)) h
  obtain ⟨e2, h⟩ := cut_at (itoa_no b (by decide)) (itoa_no f (by decide)) h
  simp only [List.cons.injEq, true_and] at h
  obtain ⟨e3, h⟩ := cut_at (itoa_no c (by decide)) (itoa_no g (by decide)) h
  obtain ⟨e4, _⟩ := cut_at (y := []) (v := []) (itoa_no d (by decide)) (itoa_no k (by decide)) h
  exact ⟨itoa_inj e1, itoa_inj e2, itoa_inj e3, itoa_inj e4⟩
theorem itoa_pos (n : Int) : 1 ≤ (Lib.itoa n).length := by
  unfold Lib.itoa
  split
  · simp
  · rw [Lib.decDigits_length]; exact Lib.nDigits_pos _
theorem rc_long (a b c d : Int) : 11 ≤ (rcText a b c d).length := by
  have h1 := itoa_pos a
  have h2 := itoa_pos b
  have h3 := itoa_pos c
  have h4 := itoa_pos d
  simp [rcText, ptText]
  omega

theorem toList_ofList (l : List UInt8) : (ofList l).toList = l := by
  simp [ofList, ByteArray.toList_eq]
theorem pt_small (x y : Int) : 5 ≤ (ofList (ptText x y)).size := by
  have h1 := itoa_pos x
  have h2 := itoa_pos y
  rw [size_ofList]
  simp [ptText]; omega
/-- The four texts of the law, under names, and what is asked of them. -/
theorem four (r0 r1 r2 r3 t0 t1 t2 t3 : Int) (or0 : Ok r0) (or1 : Ok r1) (or2 : Ok r2) (or3 : Ok r3) (ot0 : Ok t0) (ot1 : Ok t1) (ot2 : Ok t2) (ot3 : Ok t3) :
    ∃ A B T : ByteArray, (5 ≤ A.size ∧ A.size ≤ 45) ∧ (5 ≤ B.size ∧ B.size ≤ 45) ∧
    (∀ w, Tab w → Calls Tryd.prog 8 #[.agg #[.int .i64 r0, .int .i64 r1]] w (Gives (.string A) w)) ∧
    (∀ w, Tab w → Calls Tryd.prog 8 #[.agg #[.int .i64 r2, .int .i64 r3]] w (Gives (.string B) w)) ∧
    (∀ w, Tab w → Calls Tryd.prog 11 #[.agg #[.int .i64 r0, .int .i64 r1, .int .i64 r2, .int .i64 r3]] w (Gives (.string (A ++ ⟨#[45]⟩ ++ B)) w)) ∧
    (∀ w, Tab w → Calls Tryd.prog 11 #[.agg #[.int .i64 t0, .int .i64 t1, .int .i64 t2, .int .i64 t3]] w (Gives (.string T) w)) ∧
    (A.toList == B.toList) = eq2 r0 r1 r2 r3 ∧ (T.toList == (A ++ ⟨#[45]⟩ ++ B).toList) = eq4 t0 t1 t2 t3 r0 r1 r2 r3 := by
  refine ⟨ofList (ptText r0 r1), ofList (ptText r2 r3), ofList (rcText t0 t1 t2 t3), ⟨pt_small _ _, size_pt or0 or1⟩, ⟨pt_small _ _, size_pt or2 or3⟩, fun w ht => iPointString _ _ or0 or1 w ht, fun w ht => iPointString _ _ or2 or3 w ht, fun w ht => ?_, fun w ht => iRectString _ _ _ _ ot0 ot1 ot2 ot3 w ht, ?_, ?_⟩
  · rw [rc_cat]; exact iRectString _ _ _ _ or0 or1 or2 or3 w ht
  · rw [toList_ofList, toList_ofList, Bool.eq_iff_iff, beq_iff_eq]
    simp only [eq2, Bool.and_eq_true, beq_iff_eq]
    exact ⟨pt_inj, fun ⟨a, b⟩ => by rw [a, b]⟩
  · rw [rc_cat, toList_ofList, toList_ofList, Bool.eq_iff_iff, beq_iff_eq]
    simp only [eq4, Bool.and_eq_true, beq_iff_eq, and_assoc]
    exact ⟨rc_inj, fun ⟨a, b, c, d⟩ => by rw [a, b, c, d]⟩
theorem walkRoads (r0 r1 r2 r3 t0 t1 t2 t3 : Int) (or0 : Ok r0) (or1 : Ok r1) (or2 : Ok r2) (or3 : Ok r3) (ot0 : Ok t0) (ot1 : Ok t1) (ot2 : Ok t2) (ot3 : Ok t3) (w : World) (ht : Tab w) :
    Calls Tryd.prog 5 #[.agg #[.int .i64 r0, .int .i64 r1, .int .i64 r2, .int .i64 r3], .agg #[.int .i64 t0, .int .i64 t1, .int .i64 t2, .int .i64 t3]] w (Gives (.bool true) w) := by
  obtain ⟨A, B, T, sA, sB, hA, hC, hR1, hT, f1, f2⟩ := four r0 r1 r2 r3 t0 t1 t2 t3 or0 or1 or2 or3 ot0 ot1 ot2 ot3
  have heq2 := eql_a2
  have heq4 := eql_a4
  cases e1 : eq2 r0 r1 r2 r3 <;> cases e2 : eq4 t0 t1 t2 t3 r0 r1 r2 r3
  all_goals
    rw [e1] at f1
    rw [e2] at f2
    have hB := Known.start w
    go_enter Tryd.func5, Tryd.ntmps5
    go_wp2_with (first | (go_at_call 11; refine (hR1 _ ?ht).mono ?_; (case ht => first | with_reducible exact ht.known hB | with_reducible exact ht.known hB.alloc | with_reducible exact ht.known hB.alloc.alloc | with_reducible exact ht.known hB.alloc.alloc.alloc | with_reducible exact ht.known hB.alloc.alloc.alloc.alloc | with_reducible exact ht.known hB.alloc.alloc.alloc.alloc.alloc | with_reducible exact ht.known hB.alloc.alloc.alloc.alloc.alloc.alloc); rintro e w1 ⟨rfl, hn⟩; (first | with_reducible replace hB := (hB).keep hn | with_reducible replace hB := (hB.alloc).keep hn | with_reducible replace hB := (hB.alloc.alloc).keep hn | with_reducible replace hB := (hB.alloc.alloc.alloc).keep hn | with_reducible replace hB := (hB.alloc.alloc.alloc.alloc).keep hn | with_reducible replace hB := (hB.alloc.alloc.alloc.alloc.alloc).keep hn | with_reducible replace hB := (hB.alloc.alloc.alloc.alloc.alloc.alloc).keep hn | with_reducible replace hB := (((hB.set1 hb1 hb2).set1 hb1 hb2)).keep hn | with_reducible replace hB := (((((hB.set1 hb1 hb2).set1 hb1 hb2).set1 hb1 hb2).set1 hb1 hb2)).keep hn); clear hn; (try clear hR); have hR := hB.rules; simp only [Rules, World.size_alloc, Nat.add_one_le_iff, List.setIfInBounds_toArray, List.set_cons_zero, List.set_cons_succ] at hR))
    (first | with_reducible refine wp_region_tab hB ?hm ?hB ?_ | with_reducible refine wp_region_tab hB.alloc ?hm ?hB ?_ | with_reducible refine wp_region_tab hB.alloc.alloc ?hm ?hB ?_ | with_reducible refine wp_region_tab hB.alloc.alloc.alloc ?hm ?hB ?_ | with_reducible refine wp_region_tab hB.alloc.alloc.alloc.alloc ?hm ?hB ?_ | with_reducible refine wp_region_tab hB.alloc.alloc.alloc.alloc.alloc ?hm ?hB ?_ | with_reducible refine wp_region_tab hB.alloc.alloc.alloc.alloc.alloc.alloc ?hm ?hB ?_); (case hm => kernel_rfl); (case hB => kernel_rfl); (try clear hR); intro hov hkn; simp only [Rules, World.size_alloc, Nat.add_one_le_iff, List.setIfInBounds_toArray, List.set_cons_zero, List.set_cons_succ] at hov
    repeat (go_big_quiet_step (fail))
    go_big_quiet_step (first | (go_at_call 8; exact Calls.over _ (hA _ (ht.known (hkn _)))))
    repeat (go_big_quiet_step (fail))
    go_big_quiet_step (first | (go_at_call 8; exact Calls.over _ (hC _ (ht.known (hkn _)))))
    repeat (go_big_quiet_step (fail))
    go_big_quiet_step (first | (go_at_call 8; exact Calls.over _ (hA _ (ht.known (hkn _)))))
    repeat (go_big_quiet_step (fail))
    go_big_quiet_step (first | (go_at_call 8; exact Calls.over _ (hC _ (ht.known (hkn _)))))
    repeat (go_big_quiet_step (fail))
    refine wpQuiet_nil ?_; intro wx hB; clear hov hkn; have hR := hB.rules; simp only [Rules, World.size_alloc, Nat.add_one_le_iff, List.setIfInBounds_toArray, List.set_cons_zero, List.set_cons_succ] at hR
    go_wp2
    (first | with_reducible refine wp_region_tab hB ?hm ?hB ?_ | with_reducible refine wp_region_tab hB.alloc ?hm ?hB ?_ | with_reducible refine wp_region_tab hB.alloc.alloc ?hm ?hB ?_ | with_reducible refine wp_region_tab hB.alloc.alloc.alloc ?hm ?hB ?_ | with_reducible refine wp_region_tab hB.alloc.alloc.alloc.alloc ?hm ?hB ?_ | with_reducible refine wp_region_tab hB.alloc.alloc.alloc.alloc.alloc ?hm ?hB ?_ | with_reducible refine wp_region_tab hB.alloc.alloc.alloc.alloc.alloc.alloc ?hm ?hB ?_); (case hm => kernel_rfl); (case hB => kernel_rfl); (try clear hR); intro hov hkn; simp only [Rules, World.size_alloc, Nat.add_one_le_iff, List.setIfInBounds_toArray, List.set_cons_zero, List.set_cons_succ] at hov
    repeat (go_big_quiet_step (fail))
    go_big_quiet_step (first | (go_at_call 11; exact Calls.over _ (hT _ (ht.known (hkn _)))))
    repeat (go_big_quiet_step (fail))
    refine wpQuiet_nil ?_; intro wx hB; clear hov hkn; have hR := hB.rules; simp only [Rules, World.size_alloc, Nat.add_one_le_iff, List.setIfInBounds_toArray, List.set_cons_zero, List.set_cons_succ] at hR
    go_wp2
    refine bodyPost_ret (v := .bool true) ?_ rfl ⟨rfl, ?_⟩
    · first | (simp [results, Tryd.results5, go_sem]; done) | (simp [results, Tryd.results5, go_sem]; omega)
    · repeat (first | exact ext_refl _ | exact hB.below | apply ext_alloc | apply ext_drew | (refine ext_set ?_ ?_; · first | (dsimp only; omega) | (simp; omega) | (simp; done)))

end Go.Proofs.YtgdpdbboccoljaaDoor
