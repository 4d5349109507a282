/-
  The contracts of the functions that make texts: strconv.Itoa (the shelf's, laid at this program), the reference's Decimal, and the String methods of points and rectangles with the thin package's and the reference's: what each hands back, and that it changes nothing that was there.
  Conditions: the library's table of powers of ten reads as its initialiser lays it; the numbers are of 64 bits.
-/
import Derived.Test.YtgdpdbboccoljaaDoorSpec
import Derived.Test.YtgdpdbboccoljaaDoorArith
import Derived.Test.YtgdpdbboccoljaaDoorShelf
import Derived.Lib.AppendIntMem
import Derived.Lib.ItoaLen
import Derived.Laws.IdiomStrings
namespace Go.Proofs.YtgdpdbboccoljaaDoor
open Go.RowKit
set_option linter.unusedSimpArgs false
set_option linter.unusedVariables false
set_option maxHeartbeats 2000000

/-- The library's table of powers of ten reads as its initialiser lays it. -/
def Tab (w : World) : Prop := Lib.TabIs Tryd.prog w "internal/strconv.uint64pow10" .u64 Lib.pow10Tab
theorem Tab.on {w w' : World} (h : Tab w) (hb : Below w.heap.size w w') : Tab w' := Lib.tabBelow_of_tabIs h w' hb
theorem Tab.known {w w' : World} {l : List (Nat × Array Value × TypeId)} (h : Tab w) (hb : Known w w' l) : Tab w' := h.on hb.below

/-- The texts. -/
def ptText (x y : Int) : List UInt8 := 40 :: (Lib.itoa x ++ 44 :: (Lib.itoa y ++ [41]))
def rcText (a b c d : Int) : List UInt8 := ptText a b ++ 45 :: ptText c d
def ofList (l : List UInt8) : ByteArray := ⟨l.toArray⟩

theorem itoa_any (n : Int) (on : Ok n) (w : World) (ht : Tab w) : Calls Tryd.prog 17 #[.int .i64 n] w (Gives (.string (ofList (Lib.itoa n))) w) :=
  (Tryd.strconv_Itoa n on.1 on.2 w ht).mono fun e w' ⟨he, k, os, hw⟩ => ⟨he, by rw [hw]; exact Lib.below_grow _ _ (Nat.le_refl _) k os⟩

/-- A region that draws, with what is known of old memory. -/
theorem wp_region_tab {P : Program} {id : Nat} {Q : Exit → Act → World → Prop} {a : Act} {w w0 : World} {ks : List (Nat × Array Value × TypeId)} {l : List Oper} (hk : Known w0 w ks) (hm : P.follows .mixedOrders = true) (hB : Region.lexB .any l.toArray = true)
    (h : (∀ x : Over w, Rules x.wd ks) → (∀ x : Over w, Known w0 x.wd ks) → wpQuiet P l.toArray (fun w' => ∃ x : Over w, w' = x.wd) (fun a' => ∀ w', Known w0 w' ks → Q .normal a' w') l a) : (Code.region id l.toArray true).wp P Q a w :=
  wp_region_over hm hB fun _ => wpQuiet_post (fun _ h' w' hw' => h' w' (hk.keep hw')) _ a (h (fun x => (hk.keep x.below).rules) (fun x => hk.keep x.below))

theorem add_list (P : Program) (w : World) (x y : List UInt8) (h : x.length + y.length ≤ 1000) : (Op.stringOp .add (ofList x) (ofList y)).run P w = .ok (.string (ofList (x ++ y))) w := by
  have e : ofList x ++ ofList y = ofList (x ++ y) := by
    apply ByteArray.ext
    simp [ofList]
  rw [run_string_add_sum, e]
  simp [ofList, ByteArray.size]
  omega
theorem itoa_len {n : Int} (on : Ok n) : (Lib.itoa n).length ≤ 21 := Lib.itoa_length_le n on.1 on.2
theorem size_ofList (l : List UInt8) : (ofList l).size = l.length := by simp [ofList, ByteArray.size]
theorem size_itoa {n : Int} (on : Ok n) : (ofList (Lib.itoa n)).size ≤ 21 := by rw [size_ofList]; exact itoa_len on
theorem cat_list (x y : List UInt8) : ofList x ++ ofList y = ofList (x ++ y) := by
  apply ByteArray.ext
  simp [ofList]
theorem pt_cat (x y : Int) : (⟨#[40]⟩ : ByteArray) ++ ofList (Lib.itoa x) ++ ⟨#[44]⟩ ++ ofList (Lib.itoa y) ++ ⟨#[41]⟩ = ofList (ptText x y) := by
  rw [show (⟨#[40]⟩ : ByteArray) = ofList [40] from rfl, show (⟨#[44]⟩ : ByteArray) = ofList [44] from rfl, show (⟨#[41]⟩ : ByteArray) = ofList [41] from rfl, cat_list, cat_list, cat_list, cat_list]
  simp [ptText]
theorem rc_cat (a b c d : Int) : ofList (ptText a b) ++ (⟨#[45]⟩ : ByteArray) ++ ofList (ptText c d) = ofList (rcText a b c d) := by
  rw [show (⟨#[45]⟩ : ByteArray) = ofList [45] from rfl, cat_list, cat_list]
  simp [rcText]
theorem size_pt {x y : Int} (ox : Ok x) (oy : Ok y) : (ofList (ptText x y)).size ≤ 45 := by
  have lx := itoa_len ox
  have ly := itoa_len oy
  rw [size_ofList]
  simp [ptText]; omega

theorem pstr_any (x y : Int) (ox : Ok x) (oy : Ok y) (w : World) (ht : Tab w) : Calls Tryd.prog 14 #[.agg #[.int .i64 x, .int .i64 y]] w (Gives (.string (ofList (ptText x y))) w) := by
  have s1 := size_itoa ox
  have s2 := size_itoa oy
  have hB := Known.start w
  go_enter Tryd.func14, Tryd.ntmps14
  go_wp2
  (first | with_reducible refine wp_region_tab hB ?hm ?hB ?_ | with_reducible refine wp_region_tab hB.alloc ?hm ?hB ?_ | with_reducible refine wp_region_tab hB.alloc.alloc ?hm ?hB ?_ | with_reducible refine wp_region_tab hB.alloc.alloc.alloc ?hm ?hB ?_ | with_reducible refine wp_region_tab hB.alloc.alloc.alloc.alloc ?hm ?hB ?_ | with_reducible refine wp_region_tab hB.alloc.alloc.alloc.alloc.alloc ?hm ?hB ?_ | with_reducible refine wp_region_tab hB.alloc.alloc.alloc.alloc.alloc.alloc ?hm ?hB ?_); (case hm => kernel_rfl); (case hB => kernel_rfl); (try clear hR); intro hov hkn; simp only [Rules, World.size_alloc, Nat.add_one_le_iff, List.setIfInBounds_toArray, List.set_cons_zero, List.set_cons_succ] at hov
  repeat (go_big_quiet_step (first | (go_at_call 17; exact Calls.over _ (itoa_any _ ox _ (ht.known (hkn _)))) | (go_at_call 17; exact Calls.over _ (itoa_any _ oy _ (ht.known (hkn _))))))
  refine wpQuiet_nil ?_; intro wx hB; clear hov hkn; have hR := hB.rules; simp only [Rules, World.size_alloc, Nat.add_one_le_iff, List.setIfInBounds_toArray, List.set_cons_zero, List.set_cons_succ] at hR
  go_wp2
  refine bodyPost_ret (v := .string (ofList (ptText x y))) ?_ rfl ⟨rfl, ?_⟩
  · simp [results, Tryd.results14, go_sem, pt_cat]
  · repeat (first | exact ext_refl _ | exact hB.below | apply ext_alloc | apply ext_drew | (refine ext_set ?_ ?_; · first | (dsimp only; omega) | (simp; omega) | (simp; done)))
/-- What a call hands back, under a name. -/
def Hid (p : Prop) : Prop := p
theorem pstr_named (x y : Int) (ox : Ok x) (oy : Ok y) : ∃ S : ByteArray, S.size ≤ 45 ∧ Hid (S = ofList (ptText x y)) ∧ ∀ w, Tab w → Calls Tryd.prog 14 #[.agg #[.int .i64 x, .int .i64 y]] w (Gives (.string S) w) :=
  ⟨_, size_pt ox oy, rfl, fun w ht => pstr_any x y ox oy w ht⟩
theorem rstr_any (a b c d : Int) (oa : Ok a) (ob : Ok b) (oc : Ok c) (od : Ok d) (w : World) (ht : Tab w) : Calls Tryd.prog 16 #[.agg #[.int .i64 a, .int .i64 b, .int .i64 c, .int .i64 d]] w (Gives (.string (ofList (rcText a b c d))) w) := by
  rw [← rc_cat]
  obtain ⟨S, s1, hS, hp1⟩ := pstr_named a b oa ob
  obtain ⟨T, s2, hT, hp2⟩ := pstr_named c d oc od
  have hS' : ofList (ptText a b) = S := Eq.symm hS
  have hT' : ofList (ptText c d) = T := Eq.symm hT
  rw [hS', hT']
  clear hS hT hS' hT'
  have hB := Known.start w
  go_enter Tryd.func16, Tryd.ntmps16
  go_wp2
  (first | with_reducible refine wp_region_tab hB ?hm ?hB ?_ | with_reducible refine wp_region_tab hB.alloc ?hm ?hB ?_ | with_reducible refine wp_region_tab hB.alloc.alloc ?hm ?hB ?_ | with_reducible refine wp_region_tab hB.alloc.alloc.alloc ?hm ?hB ?_ | with_reducible refine wp_region_tab hB.alloc.alloc.alloc.alloc ?hm ?hB ?_ | with_reducible refine wp_region_tab hB.alloc.alloc.alloc.alloc.alloc ?hm ?hB ?_ | with_reducible refine wp_region_tab hB.alloc.alloc.alloc.alloc.alloc.alloc ?hm ?hB ?_); (case hm => kernel_rfl); (case hB => kernel_rfl); (try clear hR); intro hov hkn; simp only [Rules, World.size_alloc, Nat.add_one_le_iff, List.setIfInBounds_toArray, List.set_cons_zero, List.set_cons_succ] at hov
  repeat (go_big_quiet_step (fail))
  go_big_quiet_step (first | (go_at_call 14; exact Calls.over _ (hp1 _ (ht.known (hkn _)))))
  repeat (go_big_quiet_step (fail))
  go_big_quiet_step (first | (go_at_call 14; exact Calls.over _ (hp2 _ (ht.known (hkn _)))))
  repeat (go_big_quiet_step (fail))
  refine wpQuiet_nil ?_; intro wx hB; clear hov hkn; have hR := hB.rules; simp only [Rules, World.size_alloc, Nat.add_one_le_iff, List.setIfInBounds_toArray, List.set_cons_zero, List.set_cons_succ] at hR
  go_wp2
  refine bodyPost_ret (v := .string (S ++ ⟨#[45]⟩ ++ T)) ?_ rfl ⟨rfl, ?_⟩
  · simp [results, Tryd.results16, go_sem]
  · repeat (first | exact ext_refl _ | exact hB.below | apply ext_alloc | apply ext_drew | (refine ext_set ?_ ?_; · first | (dsimp only; omega) | (simp; omega) | (simp; done)))
theorem iPointString (x y : Int) (ox : Ok x) (oy : Ok y) (w : World) (ht : Tab w) : Calls Tryd.prog 8 #[.agg #[.int .i64 x, .int .i64 y]] w (Gives (.string (ofList (ptText x y))) w) := by
  have hB := Known.start w
  go_enter Tryd.func8, Tryd.ntmps8
  go_wp2_with (first | (go_at_call 13; refine (point_any _ _ _).mono ?_; rintro e w1 ⟨rfl, hn⟩; (first | with_reducible replace hB := (hB).keep hn | with_reducible replace hB := (hB.alloc).keep hn | with_reducible replace hB := (hB.alloc.alloc).keep hn | with_reducible replace hB := (hB.alloc.alloc.alloc).keep hn | with_reducible replace hB := (hB.alloc.alloc.alloc.alloc).keep hn | with_reducible replace hB := (hB.alloc.alloc.alloc.alloc.alloc).keep hn | with_reducible replace hB := (hB.alloc.alloc.alloc.alloc.alloc.alloc).keep hn | with_reducible replace hB := (((hB.set1 hb1 hb2).set1 hb1 hb2)).keep hn | with_reducible replace hB := (((((hB.set1 hb1 hb2).set1 hb1 hb2).set1 hb1 hb2).set1 hb1 hb2)).keep hn); clear hn; (try clear hR); have hR := hB.rules; simp only [Rules, World.size_alloc, Nat.add_one_le_iff, List.setIfInBounds_toArray, List.set_cons_zero, List.set_cons_succ] at hR) | (go_at_call 14; refine (pstr_any _ _ ox oy _ ?ht).mono ?_; (case ht => first | with_reducible exact ht.known hB | with_reducible exact ht.known hB.alloc | with_reducible exact ht.known hB.alloc.alloc | with_reducible exact ht.known hB.alloc.alloc.alloc | with_reducible exact ht.known hB.alloc.alloc.alloc.alloc | with_reducible exact ht.known hB.alloc.alloc.alloc.alloc.alloc | with_reducible exact ht.known hB.alloc.alloc.alloc.alloc.alloc.alloc); rintro e w1 ⟨rfl, hn⟩; (first | with_reducible replace hB := (hB).keep hn | with_reducible replace hB := (hB.alloc).keep hn | with_reducible replace hB := (hB.alloc.alloc).keep hn | with_reducible replace hB := (hB.alloc.alloc.alloc).keep hn | with_reducible replace hB := (hB.alloc.alloc.alloc.alloc).keep hn | with_reducible replace hB := (hB.alloc.alloc.alloc.alloc.alloc).keep hn | with_reducible replace hB := (hB.alloc.alloc.alloc.alloc.alloc.alloc).keep hn | with_reducible replace hB := (((hB.set1 hb1 hb2).set1 hb1 hb2)).keep hn | with_reducible replace hB := (((((hB.set1 hb1 hb2).set1 hb1 hb2).set1 hb1 hb2).set1 hb1 hb2)).keep hn); clear hn; (try clear hR); have hR := hB.rules; simp only [Rules, World.size_alloc, Nat.add_one_le_iff, List.setIfInBounds_toArray, List.set_cons_zero, List.set_cons_succ] at hR))
  refine bodyPost_ret (v := .string (ofList (ptText x y))) ?_ rfl ⟨rfl, ?_⟩
  · simp [results, Tryd.results8, go_sem]
  · repeat (first | exact ext_refl _ | exact hB.below | apply ext_alloc | apply ext_drew | (refine ext_set ?_ ?_; · first | (dsimp only; omega) | (simp; omega) | (simp; done)))
theorem iRectString (a b c d : Int) (oa : Ok a) (ob : Ok b) (oc : Ok c) (od : Ok d) (w : World) (ht : Tab w) : Calls Tryd.prog 11 #[.agg #[.int .i64 a, .int .i64 b, .int .i64 c, .int .i64 d]] w (Gives (.string (ofList (rcText a b c d))) w) := by
  have hB := Known.start w
  go_enter Tryd.func11, Tryd.ntmps11
  go_wp2_with (first | (go_at_call 15; refine (rectangle_any _ _ _ _ _).mono ?_; rintro e w1 ⟨rfl, hn⟩; (first | with_reducible replace hB := (hB).keep hn | with_reducible replace hB := (hB.alloc).keep hn | with_reducible replace hB := (hB.alloc.alloc).keep hn | with_reducible replace hB := (hB.alloc.alloc.alloc).keep hn | with_reducible replace hB := (hB.alloc.alloc.alloc.alloc).keep hn | with_reducible replace hB := (hB.alloc.alloc.alloc.alloc.alloc).keep hn | with_reducible replace hB := (hB.alloc.alloc.alloc.alloc.alloc.alloc).keep hn | with_reducible replace hB := (((hB.set1 hb1 hb2).set1 hb1 hb2)).keep hn | with_reducible replace hB := (((((hB.set1 hb1 hb2).set1 hb1 hb2).set1 hb1 hb2).set1 hb1 hb2)).keep hn); clear hn; (try clear hR); have hR := hB.rules; simp only [Rules, World.size_alloc, Nat.add_one_le_iff, List.setIfInBounds_toArray, List.set_cons_zero, List.set_cons_succ] at hR) | (go_at_call 16; refine (rstr_any _ _ _ _ oa ob oc od _ ?ht).mono ?_; (case ht => first | with_reducible exact ht.known hB | with_reducible exact ht.known hB.alloc | with_reducible exact ht.known hB.alloc.alloc | with_reducible exact ht.known hB.alloc.alloc.alloc | with_reducible exact ht.known hB.alloc.alloc.alloc.alloc | with_reducible exact ht.known hB.alloc.alloc.alloc.alloc.alloc | with_reducible exact ht.known hB.alloc.alloc.alloc.alloc.alloc.alloc); rintro e w1 ⟨rfl, hn⟩; (first | with_reducible replace hB := (hB).keep hn | with_reducible replace hB := (hB.alloc).keep hn | with_reducible replace hB := (hB.alloc.alloc).keep hn | with_reducible replace hB := (hB.alloc.alloc.alloc).keep hn | with_reducible replace hB := (hB.alloc.alloc.alloc.alloc).keep hn | with_reducible replace hB := (hB.alloc.alloc.alloc.alloc.alloc).keep hn | with_reducible replace hB := (hB.alloc.alloc.alloc.alloc.alloc.alloc).keep hn | with_reducible replace hB := (((hB.set1 hb1 hb2).set1 hb1 hb2)).keep hn | with_reducible replace hB := (((((hB.set1 hb1 hb2).set1 hb1 hb2).set1 hb1 hb2).set1 hb1 hb2)).keep hn); clear hn; (try clear hR); have hR := hB.rules; simp only [Rules, World.size_alloc, Nat.add_one_le_iff, List.setIfInBounds_toArray, List.set_cons_zero, List.set_cons_succ] at hR))
  refine bodyPost_ret (v := .string (ofList (rcText a b c d))) ?_ rfl ⟨rfl, ?_⟩
  · simp [results, Tryd.results11, go_sem]
  · repeat (first | exact ext_refl _ | exact hB.below | apply ext_alloc | apply ext_drew | (refine ext_set ?_ ?_; · first | (dsimp only; omega) | (simp; omega) | (simp; done)))

/-- How far Decimal's loop has come: the digits of m are still to be written ahead of l. -/
def DR (n m : Int) (l : List UInt8) : Prop := Ok m ∧ Lib.decDigits n.natAbs = Lib.decDigits m.natAbs ++ l
def dig (m : Int) : UInt8 := UInt8.ofNat (48 + m.natAbs % 10)
theorem dig_nat (m : Int) : ((dig m).toNat : Int) = 48 + ((m.natAbs % 10 : Nat) : Int) := by
  unfold dig
  have : m.natAbs % 10 < 10 := Nat.mod_lt _ (by omega)
  rw [UInt8.toNat_ofNat_of_lt' (by simp [UInt8.size]; omega)]
  omega
theorem tmod_abs (m : Int) : ((m.tmod 10).natAbs : Int) = ((m.natAbs % 10 : Nat) : Int) := by rw [Int.natAbs_tmod]; rfl
theorem dig_pos {m : Int} (h : ¬ m.tmod 10 < 0) : wrap64 (48 + m.tmod 10) % 256 = ((dig m).toNat : Int) := by
  rw [dig_nat]
  have e := tmod_abs m
  have : m.natAbs % 10 < 10 := Nat.mod_lt _ (by omega)
  generalize m.natAbs % 10 = k at *
  generalize m.tmod 10 = z at *
  rw [wrap_in (by omega) (by omega)]
  omega
theorem dig_neg {m : Int} (h : m.tmod 10 < 0) : wrap64 (48 + wrap64 (-m.tmod 10)) % 256 = ((dig m).toNat : Int) := by
  rw [dig_nat]
  have e := tmod_abs m
  have : m.natAbs % 10 < 10 := Nat.mod_lt _ (by omega)
  generalize m.natAbs % 10 = k at *
  generalize m.tmod 10 = z at *
  rw [wrap_in (x := -z) (by omega) (by omega), wrap_in (by omega) (by omega)]
  omega
/-- 'string([]byte{c})'. -/
theorem conv_one (wz : World) {v : Int} {c : UInt8} (hv : v = (c.toNat : Int)) :
    (convert 39 9 (.slice (some ⟨wz.heap.size, 0, none⟩) 1 1)).run Tryd.prog (wz.alloc (.cells #[.int .u8 v] 5)) = .ok (.string (ofList [c])) (wz.alloc (.cells #[.int .u8 v] 5)) := by
  subst hv
  exact run_convert_bytes_back _ 39 9 5 ⟨wz.heap.size, 0, none⟩ 1 [c] Tryd.underlying39 Tryd.underlying5 Tryd.underlying9 (fun j hj => by
    have : j = 0 := by simpa using hj
    subst this
    have hk := (Known.start wz).alloc (cs := #[.int .u8 (c.toNat : Int)]) (t := 5)
    have := hk.rules.1 0
    simp [Addr.add])
theorem tdiv_abs {m : Int} (om : Ok m) : wrap64 (m.tdiv 10) = m.tdiv 10 ∧ (m.tdiv 10).natAbs = m.natAbs / 10 := by
  refine ⟨wrap_ok (tdiv_ok om (by omega) (by omega)), ?_⟩
  rw [Int.natAbs_tdiv]; rfl
theorem dr_step {n m : Int} {l : List UInt8} (h : DR n m l) (hz : (wrap64 (m.tdiv 10) == 0) = false) : DR n (wrap64 (m.tdiv 10)) (dig m :: l) ∧ (wrap64 (m.tdiv 10)).natAbs < m.natAbs := by
  obtain ⟨e1, e2⟩ := tdiv_abs h.1
  have hz' : wrap64 (m.tdiv 10) ≠ 0 := by simpa using hz
  rw [e1] at hz' ⊢
  have h10 : ¬ m.natAbs < 10 := by omega
  refine ⟨⟨tdiv_ok h.1 (by omega) (by omega), ?_⟩, by omega⟩
  rw [h.2, e2]
  conv => lhs; rw [Lib.decDigits, dif_neg h10]
  simp [dig]
theorem dr_last {n m : Int} {l : List UInt8} (h : DR n m l) (hz : (wrap64 (m.tdiv 10) == 0) = true) : Lib.decDigits n.natAbs = dig m :: l := by
  obtain ⟨e1, e2⟩ := tdiv_abs h.1
  have hz' : wrap64 (m.tdiv 10) = 0 := by simpa using hz
  rw [e1] at hz'
  have h10 : m.natAbs < 10 := by omega
  rw [h.2, Lib.decDigits_one h10]
  simp [dig, Nat.mod_eq_of_lt h10]
theorem dr_len {n m : Int} {l : List UInt8} (on : Ok n) (h : DR n m l) : (ofList l).size ≤ 20 := by
  rw [size_ofList]
  have h1 := congrArg List.length h.2
  have h2 := Lib.nDigits_le20 n.natAbs (by unfold Ok at on; omega)
  rw [Lib.decDigits_length, List.length_append] at h1
  omega
theorem decimal_any (n : Int) (on : Ok n) (w : World) : Calls Tryd.prog 12 #[.int .i64 n] w (Gives (.string (ofList (Lib.itoa n))) w) := by
  have hB := Known.start w
  go_enter Tryd.func12, Tryd.ntmps12
  go_wp2
  go_loopw [3, 4] (fun os ms wr => ∃ (m : Int) (l : List UInt8), os = .string (ofList l) ∧ ms = .int .i64 m ∧ DR n m l ∧ Known w wr []) (fun _ ms _ => (intOf ms).natAbs)
  case atStart => exact ⟨n, [], rfl, rfl, ⟨on, by simp⟩, hB⟩
  case round =>
    obtain ⟨m, l, rfl, rfl, hD, hK⟩ := hrel
    clear hB
    have hB := hK
    clear hK
    have s1 := dr_len on hD
    have s0 : (ofList [dig m]).size = 1 := rfl
    by_cases hd : m.tmod 10 < 0
    all_goals
      first | have hcv := fun wz => conv_one wz (dig_neg hd) | have hcv := fun wz => conv_one wz (dig_pos hd)
      cases hz : (wrap64 (m.tdiv 10) == 0)
      · obtain ⟨hN, hm⟩ := dr_step hD hz
        go_wp2
        go_roundw
        case rel => exact ⟨_, dig m :: l, by rw [cat_list]; rfl, rfl, hN, ⟨hB.alloc.1, fun _ h => by cases h⟩⟩
        case measure => simpa [intOf] using hm
      · have hL := dr_last hD hz
        by_cases hn : n < 0
        · have e : (⟨#[45]⟩ : ByteArray) ++ (ofList [dig m] ++ ofList l) = ofList (Lib.itoa n) := by
            rw [show (⟨#[45]⟩ : ByteArray) = ofList [45] from rfl, cat_list, cat_list]
            unfold Lib.itoa
            rw [if_pos hn, hL]
            rfl
          clear hL
          go_wp2
          refine bodyPost_ret (v := .string (ofList (Lib.itoa n))) ?_ rfl ⟨rfl, ?_⟩
          · simp [results, Tryd.results12, go_sem, e]
          · repeat (first | exact ext_refl _ | exact hB.below | apply ext_alloc | apply ext_drew | (refine ext_set ?_ ?_; · first | (dsimp only; omega) | (simp; omega) | (simp; done)))
        · have e : ofList [dig m] ++ ofList l = ofList (Lib.itoa n) := by
            rw [cat_list]
            unfold Lib.itoa
            rw [if_neg hn, show n.toNat = n.natAbs by omega, hL]
            rfl
          clear hL
          go_wp2
          refine bodyPost_ret (v := .string (ofList (Lib.itoa n))) ?_ rfl ⟨rfl, ?_⟩
          · simp [results, Tryd.results12, go_sem, e]
          · repeat (first | exact ext_refl _ | exact hB.below | apply ext_alloc | apply ext_drew | (refine ext_set ?_ ?_; · first | (dsimp only; omega) | (simp; omega) | (simp; done)))

theorem sPointString (x y : Int) (ox : Ok x) (oy : Ok y) (w : World) : Calls Tryd.prog 6 #[.agg #[.int .i64 x, .int .i64 y]] w (Gives (.string (ofList (ptText x y))) w) := by
  have s1 := size_itoa ox
  have s2 := size_itoa oy
  have hB := Known.start w
  go_enter Tryd.func6, Tryd.ntmps6
  go_wp2
  (first | with_reducible refine wp_region_known hB ?hm ?hB ?_ | with_reducible refine wp_region_known hB.alloc ?hm ?hB ?_ | with_reducible refine wp_region_known hB.alloc.alloc ?hm ?hB ?_ | with_reducible refine wp_region_known hB.alloc.alloc.alloc ?hm ?hB ?_ | with_reducible refine wp_region_known hB.alloc.alloc.alloc.alloc ?hm ?hB ?_ | with_reducible refine wp_region_known hB.alloc.alloc.alloc.alloc.alloc ?hm ?hB ?_ | with_reducible refine wp_region_known hB.alloc.alloc.alloc.alloc.alloc.alloc ?hm ?hB ?_); (case hm => kernel_rfl); (case hB => kernel_rfl); (try clear hR); intro hov; simp only [Rules, World.size_alloc, Nat.add_one_le_iff, List.setIfInBounds_toArray, List.set_cons_zero, List.set_cons_succ] at hov
  repeat (go_big_quiet_step (fail))
  go_big_quiet_step (first | (go_at_call 12; exact Calls.over _ (decimal_any _ ox _)))
  repeat (go_big_quiet_step (fail))
  go_big_quiet_step (first | (go_at_call 12; exact Calls.over _ (decimal_any _ oy _)))
  repeat (go_big_quiet_step (fail))
  refine wpQuiet_nil ?_; intro wx hB; clear hov; have hR := hB.rules; simp only [Rules, World.size_alloc, Nat.add_one_le_iff, List.setIfInBounds_toArray, List.set_cons_zero, List.set_cons_succ] at hR
  go_wp2
  refine bodyPost_ret (v := .string (ofList (ptText x y))) ?_ rfl ⟨rfl, ?_⟩
  · simp [results, Tryd.results6, go_sem, pt_cat]
  · repeat (first | exact ext_refl _ | exact hB.below | apply ext_alloc | apply ext_drew | (refine ext_set ?_ ?_; · first | (dsimp only; omega) | (simp; omega) | (simp; done)))
theorem spstr_named (x y : Int) (ox : Ok x) (oy : Ok y) : ∃ S : ByteArray, S.size ≤ 45 ∧ Hid (S = ofList (ptText x y)) ∧ ∀ w, Calls Tryd.prog 6 #[.agg #[.int .i64 x, .int .i64 y]] w (Gives (.string S) w) :=
  ⟨_, size_pt ox oy, rfl, fun w => sPointString x y ox oy w⟩
theorem sRectString (a b c d : Int) (oa : Ok a) (ob : Ok b) (oc : Ok c) (od : Ok d) (w : World) : Calls Tryd.prog 9 #[.agg #[.int .i64 a, .int .i64 b, .int .i64 c, .int .i64 d]] w (Gives (.string (ofList (rcText a b c d))) w) := by
  rw [← rc_cat]
  obtain ⟨S, s1, hS, hp1⟩ := spstr_named a b oa ob
  obtain ⟨T, s2, hT, hp2⟩ := spstr_named c d oc od
  have hS' : ofList (ptText a b) = S := Eq.symm hS
  have hT' : ofList (ptText c d) = T := Eq.symm hT
  rw [hS', hT']
  clear hS hT hS' hT'
  have hB := Known.start w
  go_enter Tryd.func9, Tryd.ntmps9
  go_wp2
  (first | with_reducible refine wp_region_known hB ?hm ?hB ?_ | with_reducible refine wp_region_known hB.alloc ?hm ?hB ?_ | with_reducible refine wp_region_known hB.alloc.alloc ?hm ?hB ?_ | with_reducible refine wp_region_known hB.alloc.alloc.alloc ?hm ?hB ?_ | with_reducible refine wp_region_known hB.alloc.alloc.alloc.alloc ?hm ?hB ?_ | with_reducible refine wp_region_known hB.alloc.alloc.alloc.alloc.alloc ?hm ?hB ?_ | with_reducible refine wp_region_known hB.alloc.alloc.alloc.alloc.alloc.alloc ?hm ?hB ?_); (case hm => kernel_rfl); (case hB => kernel_rfl); (try clear hR); intro hov; simp only [Rules, World.size_alloc, Nat.add_one_le_iff, List.setIfInBounds_toArray, List.set_cons_zero, List.set_cons_succ] at hov
  repeat (go_big_quiet_step (fail))
  go_big_quiet_step (first | (go_at_call 6; exact Calls.over _ (hp1 _)))
  repeat (go_big_quiet_step (fail))
  go_big_quiet_step (first | (go_at_call 6; exact Calls.over _ (hp2 _)))
  repeat (go_big_quiet_step (fail))
  refine wpQuiet_nil ?_; intro wx hB; clear hov; have hR := hB.rules; simp only [Rules, World.size_alloc, Nat.add_one_le_iff, List.setIfInBounds_toArray, List.set_cons_zero, List.set_cons_succ] at hR
  go_wp2
  refine bodyPost_ret (v := .string (S ++ ⟨#[45]⟩ ++ T)) ?_ rfl ⟨rfl, ?_⟩
  · simp [results, Tryd.results9, go_sem]
  · repeat (first | exact ext_refl _ | exact hB.below | apply ext_alloc | apply ext_drew | (refine ext_set ?_ ?_; · first | (dsimp only; omega) | (simp; omega) | (simp; done)))

end Go.Proofs.YtgdpdbboccoljaaDoor
