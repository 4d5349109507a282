/-
  Proved: the tied card Rows.FnStringRoadsCardSaid: The text of a rectangle is that of its corners with a sign between them, and unlike points and rectangles have unlike texts.
  Conditions: none beyond the card's own: for every input; three tables of the library start as the program's text lays them (the card ties them to it, over a pruned copy of the project).
-/
import Derived.Test.YtgdpdbboccoljaaDoorStrRow
import Derived.Test.YtgdpdbboccoljaaDoorCards
import Derived.Test.YtgdpdbboccoljaaDoorTie
import Derived.SevenTiedAt
namespace Go.Proofs.YtgdpdbboccoljaaDoor.fnStringRoads
open Go Go.ChangeShapes Go.WideShapes Go.ChangeAt Go.RowKit
set_option linter.unusedVariables false
set_option maxRecDepth 100000
theorem lifted (os : Os) (started : os.Started) (H : Type) (enc : TypeId × Value → H) :
    ReturnsInHanded {} Tryd.checked os 5 .any (fun w args => (Rows.fnStringRoadsSpec.pre enc Tryd.prog Tryd.f5 [] false w args ∧ laidMetH Tryd.prog laid3 w) ∧ sizedMet enc Tryd.prog Tryd.f5 (OpenSpec.ofChange Rows.fnStringRoadsSpec) false w args)
      (Rows.fnStringRoadsSpec.post enc Tryd.prog Tryd.f5 false true false false) := by
  refine returnsInHanded_of_change_and (C := Tryd.checked) (X := fun w _ => laidMetH Tryd.prog laid3 w) (fun _ _ _ hh h => h.of_heap hh) own started (by kernel_rfl) Tryd.func5
    (ChangeSpec.witness_shaped (enc := enc) (C := Tryd.checked) (os := os) (X := fun w _ => laidMetH Tryd.prog laid3 w) false (World.doorLaid Tryd.prog 4000 os) #[.agg #[.int .i64 0, .int .i64 0, .int .i64 0, .int .i64 0], .agg #[.int .i64 0, .int .i64 0, .int .i64 0, .int .i64 0]] 8 rfl (World.shaped_of_RefB (by kernel_rfl) (by kernel_rfl)) (by kernel_rfl) (by kernel_rfl) (by kernel_rfl) (door_met os _)) ?_
  intro W base args ds gs before hval0 hW _ _ hL _
  have hval : ∀ (j : Nat) t v, Tryd.f5.params[j]? = some t → args[j]? = some v → Value.okWide Tryd.prog W .any base t v := hval0
  have hW' := hW
  obtain ⟨p, q, hA0, hV, rfl, hfz, hnd⟩ := hW
  have hA : DataW.TrodAll enc Tryd.prog W 0 (fun _ => true) true Tryd.f5.params.toList args.toList ds p := hA0
  rw [Tryd.params5] at hA hval
  obtain ⟨v0, vs0, d0, ds0, p0, q0, hargs, rfl, rfl, h0, r0⟩ := trodAll_cons hA
  obtain ⟨v1, vs1, d1, ds1, p1, q1, rfl, rfl, rfl, h1, r1⟩ := trodAll_cons r0
  obtain ⟨rfl, rfl, rfl⟩ := trodAll_nil r1
  obtain rfl : args = #[v0, v1] := by cases args; simp_all
  obtain ⟨rfl, rfl⟩ := trodVars_none hV
  obtain ⟨x0_0, x0_1, x0_2, x0_3, rfl, rfl, rfl, wx0_0, wx0_1, wx0_2, wx0_3⟩ := open_arr4 Tryd.underlying26 Tryd.underlying2 (by kernel_rfl) (by kernel_rfl) (hval 0 26 v0 rfl rfl) h0
  obtain ⟨x1_0, x1_1, x1_2, x1_3, rfl, rfl, rfl, wx1_0, wx1_1, wx1_2, wx1_3⟩ := open_arr4 Tryd.underlying26 Tryd.underlying2 (by kernel_rfl) (by kernel_rfl) (hval 1 26 v1 rfl rfl) h1
  clear hA0 hval0
  refine (walkRoads x0_0 x0_1 x0_2 x0_3 x1_0 x1_1 x1_2 x1_3 (bounds_i64 wx0_0) (bounds_i64 wx0_1) (bounds_i64 wx0_2) (bounds_i64 wx0_3) (bounds_i64 wx1_0) (bounds_i64 wx1_1) (bounds_i64 wx1_2) (bounds_i64 wx1_3) W (tab_of_laid hL)).mono fun e W' ⟨he, bel⟩ => ?_
  subst he
  exact ⟨_, rfl, _, _, _, [], _, [], hW', trodAll_mk1 (shut_bool Tryd.underlying4 _), (trodAll_cons_mk (shut_arr4 Tryd.underlying26 Tryd.underlying2 (by kernel_rfl) (by kernel_rfl) wx0_0 wx0_1 wx0_2 wx0_3) (trodAll_cons_mk (shut_arr4 Tryd.underlying26 Tryd.underlying2 (by kernel_rfl) (by kernel_rfl) wx1_0 wx1_1 wx1_2 wx1_3) trodAll_mk0)), rfl, bel.frame _, fun h => by cases h⟩

theorem said : Rows.FnStringRoadsSaid :=
  OpenClaim.holds_of_wide 5 Tryd.f5 rfl rfl rfl rfl rfl rfl rfl ⟨rfl, rfl, rfl, rfl, rfl⟩ rfl rfl rfl rfl rfl (by kernel_rfl) Tryd.func5 (by kernel_rfl)
    (of_decide_eq_true (by kernel_rfl)) (by unfold Func.isWrapper; first | (rw [if_pos (by decide +kernel)]; kernel_rfl) | (rw [if_neg (by decide +kernel)]; exact ⟨rfl, rfl⟩))
    (fun os started H enc _ => lifted os started H enc)

/-- THE STATEMENT: the tied card. -/
theorem proved : Rows.FnStringRoadsCardSaid :=
  Claim7.holds_tied_plain_at .later [] [.data, .data, .data] true (true, "c95c7bbb4b9773ce316f5385ea5e7a36cbb13c019240e25f8b4d6d8ddd9f2f3a") false
    said (fun _ h => by cases h) (by kernel_rfl) (fun _ h => by cases h) fnStringRoads_row_tie rfl ⟨rfl, rfl⟩ (by kernel_rfl) rfl
    (fun f fn hf hfn => by
      obtain rfl : f = 5 := Option.some.inj ((show Tryd.prog.funcNamed Tryd.f5.name = some 5 by kernel_rfl).symm.trans hf) |>.symm
      obtain rfl : fn = Tryd.f5 := (Option.some.inj (Tryd.func5.symm.trans hfn)).symm
      exact ⟨by kernel_rfl, fun j t ht => by
        rw [Tryd.params5] at ht
        have hm : t ∈ [26, 26] := by simpa using Array.mem_of_getElem? ht
        have hall : ([26, 26].all fun u => !Tryd.prog.wantsStandIn u) = true := by kernel_rfl
        exact (show Tryd.prog.wantsStandIn t = false by simpa using List.all_eq_true.1 hall t hm)⟩)
    (by kernel_rfl)
#print axioms proved
end Go.Proofs.YtgdpdbboccoljaaDoor.fnStringRoads
