/-
  DERIVED. GIVEN WITH THE SEED: THE CARDS: each row of Qxb6604459aDoorRows.lean that lists a variable, with what it lists TIED to the program's text (the seventh form; the later family's looks); each row that meets fmt, with fmt's text TOLD by the authors' own Lean function (tested against real Go, not proved from fmt's source: count such statements apart). THE CARD IS WHAT COUNTS. Prove the row's statement (the work); the ties are given (Qxb6604459aDoorTie.lean); close each card by the builder's one call (the guide's Derived/Test/ToyasCard.lean, 'card_holds'). Laid BY PROGRAM, IN A SANDBOX (cutbox-door.mjs). By AI agents, Wed Nov 11 2026. No macro, syntax, notation, axiom, sorry.
-/
import Derived.Test.Qxb6604459aDoorRows
import GoSem.ClaimSeven
namespace Go.Proofs.Qxb6604459aDoor
namespace Rows

/-- THE TIED CARD OF 'zzlaws_root_b1.FnPosStringReadsBackAsFileLineCol'. -/
def fnPosStringReadsBackAsFileLineColCard : Claim7 := { stood := { row := fnPosStringReadsBackAsFileLineColRow, standIns := [], harness := (true, "21ebbf512dcbe8e193b87f7588ea997eda4bdbb6b2189c5942bda1498fe78110"), looks := false }, kinds := [], alts := [], laidByText := true, laidKinds := [.data, .data, .data], laidTests := true, laidLooks := .later }
def FnPosStringReadsBackAsFileLineColCardSaid : Prop := Claim7.holds Tryd.pinned (.plain (OpenSpec.ofChange fnPosStringReadsBackAsFileLineColSpec)) fnPosStringReadsBackAsFileLineColCard

/-- THE TIED CARD OF 'zzlaws_root_b1.FnPosStringTellsPositionsApart'. -/
def fnPosStringTellsPositionsApartCard : Claim7 := { stood := { row := fnPosStringTellsPositionsApartRow, standIns := [], harness := (true, "21ebbf512dcbe8e193b87f7588ea997eda4bdbb6b2189c5942bda1498fe78110"), looks := false }, kinds := [], alts := [], laidByText := true, laidKinds := [.data, .data, .data], laidTests := true, laidLooks := .later }
def FnPosStringTellsPositionsApartCardSaid : Prop := Claim7.holds Tryd.pinned (.plain (OpenSpec.ofChange fnPosStringTellsPositionsApartSpec)) fnPosStringTellsPositionsApartCard

/-- THE TIED CARD OF 'zzlaws_root_b1.FnNewLangTableHoldsNothingEmptyAndAnything'. -/
def fnNewLangTableHoldsNothingEmptyAndAnythingCard : Claim7 := { stood := { row := fnNewLangTableHoldsNothingEmptyAndAnythingRow, standIns := [], harness := (true, "21ebbf512dcbe8e193b87f7588ea997eda4bdbb6b2189c5942bda1498fe78110"), looks := false }, kinds := [], alts := [], laidByText := true, laidKinds := [.data, .data, .data], laidTests := true, laidLooks := .later }
def FnNewLangTableHoldsNothingEmptyAndAnythingCardSaid : Prop := Claim7.holds Tryd.pinned (.plain (OpenSpec.ofChange fnNewLangTableHoldsNothingEmptyAndAnythingSpec)) fnNewLangTableHoldsNothingEmptyAndAnythingCard

/-- THE TIED CARD OF 'zzlaws_root_b1.FnNewLangTableInternsEachLanguageOnce'. -/
def fnNewLangTableInternsEachLanguageOnceCard : Claim7 := { stood := { row := fnNewLangTableInternsEachLanguageOnceRow, standIns := [], harness := (true, "21ebbf512dcbe8e193b87f7588ea997eda4bdbb6b2189c5942bda1498fe78110"), looks := false }, kinds := [], alts := [], laidByText := true, laidKinds := [.data, .data, .data], laidTests := true, laidLooks := .later }
def FnNewLangTableInternsEachLanguageOnceCardSaid : Prop := Claim7.holds Tryd.pinned (.plain (OpenSpec.ofChange fnNewLangTableInternsEachLanguageOnceSpec)) fnNewLangTableInternsEachLanguageOnceCard
end Rows
end Go.Proofs.Qxb6604459aDoor
