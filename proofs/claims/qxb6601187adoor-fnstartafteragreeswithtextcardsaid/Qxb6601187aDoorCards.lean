/-
  DERIVED. GIVEN WITH THE SEED: THE CARDS: each row of Qxb6601187aDoorRows.lean that lists a variable, with what it lists TIED to the program's text (the seventh form; the later family's looks); each row that meets fmt, with fmt's text TOLD by the authors' own Lean function (tested against real Go, not proved from fmt's source: count such statements apart). THE CARD IS WHAT COUNTS. Prove the row's statement (the work); the ties are given (Qxb6601187aDoorTie.lean); close each card by the builder's one call (the guide's Derived/Test/ToyasCard.lean, 'card_holds'). Laid BY PROGRAM, IN A SANDBOX (cutbox-door.mjs). By AI agents, Wed Nov 11 2026. No macro, syntax, notation, axiom, sorry.
-/
import Derived.Test.Qxb6601187aDoorRows
import GoSem.ClaimSeven
namespace Go.Proofs.Qxb6601187aDoor
namespace Rows

/-- THE TIED CARD OF 'zzlaws_root_b1.FnStartStringIdentifiesStart'. -/
def fnStartStringIdentifiesStartCard : Claim7 := { stood := { row := fnStartStringIdentifiesStartRow, standIns := [], harness := (true, "8f9e541fcc40ea6ebd7ef8a76407c316e1d759073db0cbefd8bc19d36acf64cf"), looks := false }, kinds := [], alts := [], laidByText := true, laidKinds := [.data, .data, .data], laidTests := true, laidLooks := .later }
def FnStartStringIdentifiesStartCardSaid : Prop := Claim7.holds Tryd.pinned (.plain (OpenSpec.ofChange fnStartStringIdentifiesStartSpec)) fnStartStringIdentifiesStartCard

/-- THE TIED CARD OF 'zzlaws_root_b1.FnStartAfterIgnoresStreamUnlessOldestOrHead'. -/
def fnStartAfterIgnoresStreamUnlessOldestOrHeadCard : Claim7 := { stood := { row := fnStartAfterIgnoresStreamUnlessOldestOrHeadRow, standIns := [], harness := (true, "8f9e541fcc40ea6ebd7ef8a76407c316e1d759073db0cbefd8bc19d36acf64cf"), looks := false }, kinds := [], alts := [], laidByText := true, laidKinds := [.data, .data, .data], laidTests := true, laidLooks := .later }
def FnStartAfterIgnoresStreamUnlessOldestOrHeadCardSaid : Prop := Claim7.holds Tryd.pinned (.plain (OpenSpec.ofChange fnStartAfterIgnoresStreamUnlessOldestOrHeadSpec)) fnStartAfterIgnoresStreamUnlessOldestOrHeadCard

/-- THE TIED CARD OF 'zzlaws_root_b1.FnStartAfterAgreesWithText'. -/
def fnStartAfterAgreesWithTextCard : Claim7 := { stood := { row := fnStartAfterAgreesWithTextRow, standIns := [], harness := (true, "8f9e541fcc40ea6ebd7ef8a76407c316e1d759073db0cbefd8bc19d36acf64cf"), looks := false }, kinds := [], alts := [], laidByText := true, laidKinds := [.data, .data, .data], laidTests := true, laidLooks := .later }
def FnStartAfterAgreesWithTextCardSaid : Prop := Claim7.holds Tryd.pinned (.plain (OpenSpec.ofChange fnStartAfterAgreesWithTextSpec)) fnStartAfterAgreesWithTextCard
end Rows
end Go.Proofs.Qxb6601187aDoor
