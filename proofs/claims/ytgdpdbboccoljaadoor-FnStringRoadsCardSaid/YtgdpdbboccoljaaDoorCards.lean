/-
  DERIVED. GIVEN WITH THE SEED: THE CARDS: each row of YtgdpdbboccoljaaDoorRows.lean that lists a variable, with what it lists TIED to the program's text (the seventh form; the later family's looks); each row that meets fmt, with fmt's text TOLD by the authors' own Lean function (tested against real Go, not proved from fmt's source: count such statements apart). THE CARD IS WHAT COUNTS. Prove the row's statement (the work); the ties are given (YtgdpdbboccoljaaDoorTie.lean); close each card by the builder's one call (the guide's Derived/Test/ToyasCard.lean, 'card_holds'). Laid BY PROGRAM, IN A SANDBOX (cutbox-door.mjs). By AI agents, Wed Nov 11 2026. No macro, syntax, notation, axiom, sorry.
-/
import Derived.Test.YtgdpdbboccoljaaDoorRows
import GoSem.ClaimSeven
namespace Go.Proofs.YtgdpdbboccoljaaDoor
namespace Rows

/-- THE TIED CARD OF 'laws.FnExactPointString'. -/
def fnExactPointStringCard : Claim7 := { stood := { row := fnExactPointStringRow, standIns := [], harness := (true, "c95c7bbb4b9773ce316f5385ea5e7a36cbb13c019240e25f8b4d6d8ddd9f2f3a"), looks := false }, kinds := [], alts := [], laidByText := true, laidKinds := [.data, .data, .data], laidTests := true, laidLooks := .later }
def FnExactPointStringCardSaid : Prop := Claim7.holds Tryd.pinned (.plain (OpenSpec.ofChange fnExactPointStringSpec)) fnExactPointStringCard

/-- THE TIED CARD OF 'laws.FnExactRectString'. -/
def fnExactRectStringCard : Claim7 := { stood := { row := fnExactRectStringRow, standIns := [], harness := (true, "c95c7bbb4b9773ce316f5385ea5e7a36cbb13c019240e25f8b4d6d8ddd9f2f3a"), looks := false }, kinds := [], alts := [], laidByText := true, laidKinds := [.data, .data, .data], laidTests := true, laidLooks := .later }
def FnExactRectStringCardSaid : Prop := Claim7.holds Tryd.pinned (.plain (OpenSpec.ofChange fnExactRectStringSpec)) fnExactRectStringCard

/-- THE TIED CARD OF 'laws.FnStringRoads'. -/
def fnStringRoadsCard : Claim7 := { stood := { row := fnStringRoadsRow, standIns := [], harness := (true, "c95c7bbb4b9773ce316f5385ea5e7a36cbb13c019240e25f8b4d6d8ddd9f2f3a"), looks := false }, kinds := [], alts := [], laidByText := true, laidKinds := [.data, .data, .data], laidTests := true, laidLooks := .later }
def FnStringRoadsCardSaid : Prop := Claim7.holds Tryd.pinned (.plain (OpenSpec.ofChange fnStringRoadsSpec)) fnStringRoadsCard

/-- THE SECOND FORM's CARD OF 'laws.FnExactPointString'. -/
def fnExactPointStringUptoCard : Claim7 := { stood := { row := fnExactPointStringUptoRow, standIns := [], harness := (true, "c95c7bbb4b9773ce316f5385ea5e7a36cbb13c019240e25f8b4d6d8ddd9f2f3a"), looks := false }, kinds := [], alts := [], laidByText := true, laidKinds := [.data, .data, .data], laidTests := true, laidLooks := .later }
def FnExactPointStringUptoCardSaid : Prop := Claim7.holds Tryd.pinned (.plain (OpenSpec.upto fnExactPointStringSpec)) fnExactPointStringUptoCard

/-- THE SECOND FORM's CARD OF 'laws.FnExactRectString'. -/
def fnExactRectStringUptoCard : Claim7 := { stood := { row := fnExactRectStringUptoRow, standIns := [], harness := (true, "c95c7bbb4b9773ce316f5385ea5e7a36cbb13c019240e25f8b4d6d8ddd9f2f3a"), looks := false }, kinds := [], alts := [], laidByText := true, laidKinds := [.data, .data, .data], laidTests := true, laidLooks := .later }
def FnExactRectStringUptoCardSaid : Prop := Claim7.holds Tryd.pinned (.plain (OpenSpec.upto fnExactRectStringSpec)) fnExactRectStringUptoCard

/-- THE SECOND FORM's CARD OF 'laws.FnStringRoads'. -/
def fnStringRoadsUptoCard : Claim7 := { stood := { row := fnStringRoadsUptoRow, standIns := [], harness := (true, "c95c7bbb4b9773ce316f5385ea5e7a36cbb13c019240e25f8b4d6d8ddd9f2f3a"), looks := false }, kinds := [], alts := [], laidByText := true, laidKinds := [.data, .data, .data], laidTests := true, laidLooks := .later }
def FnStringRoadsUptoCardSaid : Prop := Claim7.holds Tryd.pinned (.plain (OpenSpec.upto fnStringRoadsSpec)) fnStringRoadsUptoCard
end Rows
end Go.Proofs.YtgdpdbboccoljaaDoor
