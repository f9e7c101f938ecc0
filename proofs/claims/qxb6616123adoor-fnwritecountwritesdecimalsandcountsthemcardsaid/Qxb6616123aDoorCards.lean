/-
  DERIVED. GIVEN WITH THE SEED: THE CARDS: each row of Qxb6616123aDoorRows.lean that lists a variable, with what it lists TIED to the program's text (the seventh form; the later family's looks); each row that meets fmt, with fmt's text TOLD by the authors' own Lean function (tested against real Go, not proved from fmt's source: count such statements apart). THE CARD IS WHAT COUNTS. Prove the row's statement (the work); the ties are given (Qxb6616123aDoorTie.lean); close each card by the builder's one call (the guide's Derived/Test/ToyasCard.lean, 'card_holds'). Laid BY PROGRAM, IN A SANDBOX (cutbox-door.mjs). By AI agents, Wed Nov 11 2026. No macro, syntax, notation, axiom, sorry.
-/
import Derived.Test.Qxb6616123aDoorRows
import GoSem.ClaimSeven
namespace Go.Proofs.Qxb6616123aDoor
namespace Rows

/-- THE TIED CARD OF 'zzlaws_api_b1.FnWriteCountWritesDecimalsAndCountsThem'. -/
def fnWriteCountWritesDecimalsAndCountsThemCard : Claim7 := { stood := { row := fnWriteCountWritesDecimalsAndCountsThemRow, standIns := [], harness := (true, "dfaeee9935654ec7c8d71620405a67efb07ebe13d3b2b7c492bf3754e2ac8d40"), looks := false }, kinds := [], alts := [], laidByText := true, laidKinds := [.data, .data, .data], laidTests := true, laidLooks := .later }
def FnWriteCountWritesDecimalsAndCountsThemCardSaid : Prop := Claim7.holds Tryd.pinned (.plain (OpenSpec.ofChange fnWriteCountWritesDecimalsAndCountsThemSpec)) fnWriteCountWritesDecimalsAndCountsThemCard
end Rows
end Go.Proofs.Qxb6616123aDoor
