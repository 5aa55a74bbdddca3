/-
  DERIVED. GIVEN WITH THE SEED: THE CARDS: each row of YtiidjpfjiedeiaaDoorRows.lean that lists a variable, with what it lists TIED to the program's text (the seventh form; the later family's looks); each row that meets fmt, with fmt's text TOLD by the authors' own Lean function (tested against real Go, not proved from fmt's source: count such statements apart). THE CARD IS WHAT COUNTS. Prove the row's statement (the work); the ties are given (YtiidjpfjiedeiaaDoorTie.lean); close each card by the builder's one call (the guide's Derived/Test/ToyasCard.lean, 'card_holds'). Laid BY PROGRAM, IN A SANDBOX (cutbox-door.mjs). By AI agents, Wed Nov 11 2026. No macro, syntax, notation, axiom, sorry.
-/
import Derived.Test.YtiidjpfjiedeiaaDoorRows
import GoSem.ClaimSeven
namespace Go.Proofs.YtiidjpfjiedeiaaDoor
namespace Rows

/-- THE TIED CARD OF 'laws.FnUnparened'. -/
def fnUnparenedCard : Claim7 := { stood := { row := fnUnparenedRow, standIns := [], harness := (true, "0338c775e6b3a5ff50964408c765f73f29f569bb468765d4af51f22e2e58a6f0"), looks := true }, kinds := [], alts := [], laidByText := true, laidKinds := [.data, .data, .data, .data], laidTests := true, laidLooks := .later }
def FnUnparenedCardSaid : Prop := Claim7.holds Tryd.pinned (.plain (OpenSpec.ofChange fnUnparenedSpec)) fnUnparenedCard

/-- THE SECOND FORM's CARD OF 'laws.FnUnparened'. -/
def fnUnparenedUptoCard : Claim7 := { stood := { row := fnUnparenedUptoRow, standIns := [], harness := (true, "0338c775e6b3a5ff50964408c765f73f29f569bb468765d4af51f22e2e58a6f0"), looks := true }, kinds := [], alts := [], laidByText := true, laidKinds := [.data, .data, .data, .data], laidTests := true, laidLooks := .later }
def FnUnparenedUptoCardSaid : Prop := Claim7.holds Tryd.pinned (.plain (OpenSpec.upto fnUnparenedSpec)) fnUnparenedUptoCard
end Rows
end Go.Proofs.YtiidjpfjiedeiaaDoor
