/-
  DERIVED. GIVEN WITH THE SEED: THE CARDS: each row of Qxb6605998aDoorRows.lean that lists a variable, with what it lists TIED to the program's text (the seventh form; the later family's looks); each row that meets fmt, with fmt's text TOLD by the authors' own Lean function (tested against real Go, not proved from fmt's source: count such statements apart). THE CARD IS WHAT COUNTS. Prove the row's statement (the work); the ties are given (Qxb6605998aDoorTie.lean); close each card by the builder's one call (the guide's Derived/Test/ToyasCard.lean, 'card_holds'). Laid BY PROGRAM, IN A SANDBOX (cutbox-door.mjs). By AI agents, Wed Nov 11 2026. No macro, syntax, notation, axiom, sorry.
-/
import Derived.Test.Qxb6605998aDoorRows
import GoSem.ClaimSeven
namespace Go.Proofs.Qxb6605998aDoor
namespace Rows

/-- THE TIED CARD OF 'zzlaws_pkg_decision_b1.FnStatementNameReadsBack'. -/
def fnStatementNameReadsBackCard : Claim7 := { stood := { row := fnStatementNameReadsBackRow, standIns := [], harness := (true, "0e534f435748648df763eae103c2514858c3d0548f0cc1374db6c81f154e488c"), looks := false }, kinds := [], alts := [], laidByText := true, laidKinds := [.data, .data, .data], laidTests := true, laidLooks := .later }
def FnStatementNameReadsBackCardSaid : Prop := Claim7.holds Tryd.pinned (.plain (OpenSpec.ofChange fnStatementNameReadsBackSpec)) fnStatementNameReadsBackCard

/-- THE TIED CARD OF 'zzlaws_pkg_decision_b1.FnStatementNameTellsApart'. -/
def fnStatementNameTellsApartCard : Claim7 := { stood := { row := fnStatementNameTellsApartRow, standIns := [], harness := (true, "0e534f435748648df763eae103c2514858c3d0548f0cc1374db6c81f154e488c"), looks := false }, kinds := [], alts := [], laidByText := true, laidKinds := [.data, .data, .data], laidTests := true, laidLooks := .later }
def FnStatementNameTellsApartCardSaid : Prop := Claim7.holds Tryd.pinned (.plain (OpenSpec.ofChange fnStatementNameTellsApartSpec)) fnStatementNameTellsApartCard

/-- THE TIED CARD OF 'zzlaws_pkg_decision_b1.FnParseNumberAgainstGrammarModel'. -/
def fnParseNumberAgainstGrammarModelCard : Claim7 := { stood := { row := fnParseNumberAgainstGrammarModelRow, standIns := [], harness := (true, "0e534f435748648df763eae103c2514858c3d0548f0cc1374db6c81f154e488c"), looks := false }, kinds := [], alts := [], laidByText := true, laidKinds := [.data, .pinned], laidTests := true, laidLooks := .later }
def FnParseNumberAgainstGrammarModelCardSaid : Prop := Claim7.holds Tryd.pinned (.plain (OpenSpec.ofChange fnParseNumberAgainstGrammarModelSpec)) fnParseNumberAgainstGrammarModelCard

/-- THE TIED CARD OF 'zzlaws_pkg_decision_b1.FnParseNumberExponentScales'. -/
def fnParseNumberExponentScalesCard : Claim7 := { stood := { row := fnParseNumberExponentScalesRow, standIns := [], harness := (true, "0e534f435748648df763eae103c2514858c3d0548f0cc1374db6c81f154e488c"), looks := false }, kinds := [], alts := [], laidByText := true, laidKinds := [.data, .pinned], laidTests := true, laidLooks := .later }
def FnParseNumberExponentScalesCardSaid : Prop := Claim7.holds Tryd.pinned (.plain (OpenSpec.ofChange fnParseNumberExponentScalesSpec)) fnParseNumberExponentScalesCard
end Rows
end Go.Proofs.Qxb6605998aDoor
