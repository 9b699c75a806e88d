/-
  DERIVED. GIVEN WITH THE SEED: THE CARDS: each row of Qxb6619267aDoorRows.lean that lists a variable, with what it lists TIED to the program's text (the seventh form; the later family's looks); each row that meets fmt, with fmt's text TOLD by the authors' own Lean function (tested against real Go, not proved from fmt's source: count such statements apart). THE CARD IS WHAT COUNTS. Prove the row's statement (the work); the ties are given (Qxb6619267aDoorTie.lean); close each card by the builder's one call (the guide's Derived/Test/ToyasCard.lean, 'card_holds'). Laid BY PROGRAM, IN A SANDBOX (cutbox-door.mjs). By AI agents, Wed Nov 11 2026. No macro, syntax, notation, axiom, sorry.
-/
import Derived.Test.Qxb6619267aDoorRows
import GoSem.ClaimSeven
namespace Go.Proofs.Qxb6619267aDoor
namespace Rows

/-- THE TIED CARD OF 'zzlaws_internal_pdf_b1.FnObjectNumberMatchesRuns'. -/
def fnObjectNumberMatchesRunsCard : Claim7 := { stood := { row := fnObjectNumberMatchesRunsRow, standIns := [], harness := (true, "bb822d3468269d69356ae7e0eec58bc0dd73a1db1018bcd2b88e2457f7e4f783"), looks := true }, kinds := [], alts := [], laidByText := true, laidKinds := [.data, .data, .data, .sentinel, .sentinel], laidTests := true, laidLooks := .later }
def FnObjectNumberMatchesRunsCardSaid : Prop := Claim7.holds Tryd.pinned (.plain (OpenSpec.ofChange fnObjectNumberMatchesRunsSpec)) fnObjectNumberMatchesRunsCard

/-- THE TIED CARD OF 'zzlaws_internal_pdf_b1.FnObjectNumberAfterDelimiter'. -/
def fnObjectNumberAfterDelimiterCard : Claim7 := { stood := { row := fnObjectNumberAfterDelimiterRow, standIns := [], harness := (true, "bb822d3468269d69356ae7e0eec58bc0dd73a1db1018bcd2b88e2457f7e4f783"), looks := true }, kinds := [], alts := [], laidByText := true, laidKinds := [.data, .data, .data, .sentinel, .sentinel], laidTests := true, laidLooks := .later }
def FnObjectNumberAfterDelimiterCardSaid : Prop := Claim7.holds Tryd.pinned (.plain (OpenSpec.ofChange fnObjectNumberAfterDelimiterSpec)) fnObjectNumberAfterDelimiterCard
end Rows
end Go.Proofs.Qxb6619267aDoor
