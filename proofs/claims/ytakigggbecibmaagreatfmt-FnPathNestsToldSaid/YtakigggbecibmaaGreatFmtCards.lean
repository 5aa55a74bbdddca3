/-
  DERIVED. GIVEN WITH THE SEED: THE CARDS: each row of YtakigggbecibmaaGreatFmtRows.lean that lists a variable, with what it lists TIED to the program's text (the seventh form; the later family's looks); each row that meets fmt, with fmt's text TOLD by the authors' own Lean function (tested against real Go, not proved from fmt's source: count such statements apart). THE CARD IS WHAT COUNTS. Prove the row's statement (the work); the ties are given (YtakigggbecibmaaGreatFmtTie.lean); close each card by the builder's one call (the guide's Derived/Test/ToyasCard.lean, 'card_holds'). Laid BY PROGRAM, IN A SANDBOX (cutbox-door.mjs). By AI agents, Wed Nov 11 2026. No macro, syntax, notation, axiom, sorry.
-/
import Derived.Test.YtakigggbecibmaaGreatFmtRows
import GoSem.ClaimSeven
namespace Go.Proofs.YtakigggbecibmaaGreatFmt
namespace Rows

/-- THE TOLD AND TIED CARD OF 'laws.FnPathNests'. -/
def fnPathNestsCard : Claim7 := { stood := { row := fnPathNestsRow, standIns := [], harness := (true, "57341626f4a19bbc5547c316515ec42518b91912b220c9b059860f87745da4fe"), looks := true }, told := true, laidByText := true, laidKinds := [.data, .data, .data, .data], laidTests := true, laidLooks := .later, goes := false }
def FnPathNestsToldSaid : Prop := Claim7.holds Tryz.pinned (.plain (OpenSpec.ofChange fnPathNestsSpec)) fnPathNestsCard
/-- ITS FALSE NEIGHBOUR. Refute it at one input. -/
def FnPathNestsToldWrongFalsely : Prop := Claim7.holds Tryz.pinned (.plain (OpenSpec.ofChange fnPathNestsWrong)) fnPathNestsCard

/-- THE TOLD AND TIED CARD OF 'laws.FnPathPoint'. -/
def fnPathPointCard : Claim7 := { stood := { row := fnPathPointRow, standIns := [], harness := (true, "57341626f4a19bbc5547c316515ec42518b91912b220c9b059860f87745da4fe"), looks := true }, told := true, laidByText := true, laidKinds := [.data, .data, .data, .data], laidTests := true, laidLooks := .later, goes := false }
def FnPathPointToldSaid : Prop := Claim7.holds Tryz.pinned (.plain (OpenSpec.ofChange fnPathPointSpec)) fnPathPointCard
/-- ITS FALSE NEIGHBOUR. Refute it at one input. -/
def FnPathPointToldWrongFalsely : Prop := Claim7.holds Tryz.pinned (.plain (OpenSpec.ofChange fnPathPointWrong)) fnPathPointCard

/-- THE TOLD AND TIED CARD OF 'laws.FnPathSign'. -/
def fnPathSignCard : Claim7 := { stood := { row := fnPathSignRow, standIns := [], harness := (true, "57341626f4a19bbc5547c316515ec42518b91912b220c9b059860f87745da4fe"), looks := true }, told := true, laidByText := true, laidKinds := [.data, .data, .data, .data], laidTests := true, laidLooks := .later, goes := false }
def FnPathSignToldSaid : Prop := Claim7.holds Tryz.pinned (.plain (OpenSpec.ofChange fnPathSignSpec)) fnPathSignCard
/-- ITS FALSE NEIGHBOUR. Refute it at one input. -/
def FnPathSignToldWrongFalsely : Prop := Claim7.holds Tryz.pinned (.plain (OpenSpec.ofChange fnPathSignWrong)) fnPathSignCard

/-- THE TOLD AND TIED CARD OF 'laws.FnPathSpan'. -/
def fnPathSpanCard : Claim7 := { stood := { row := fnPathSpanRow, standIns := [], harness := (true, "57341626f4a19bbc5547c316515ec42518b91912b220c9b059860f87745da4fe"), looks := true }, told := true, laidByText := true, laidKinds := [.data, .data, .data, .data], laidTests := true, laidLooks := .later, goes := false }
def FnPathSpanToldSaid : Prop := Claim7.holds Tryz.pinned (.plain (OpenSpec.ofChange fnPathSpanSpec)) fnPathSpanCard
/-- ITS FALSE NEIGHBOUR. Refute it at one input. -/
def FnPathSpanToldWrongFalsely : Prop := Claim7.holds Tryz.pinned (.plain (OpenSpec.ofChange fnPathSpanWrong)) fnPathSpanCard

/-- THE TOLD AND TIED CARD OF 'laws.FnPathTerm'. -/
def fnPathTermCard : Claim7 := { stood := { row := fnPathTermRow, standIns := [], harness := (true, "57341626f4a19bbc5547c316515ec42518b91912b220c9b059860f87745da4fe"), looks := true }, told := true, laidByText := true, laidKinds := [.data, .data, .data, .data], laidTests := true, laidLooks := .later, goes := false }
def FnPathTermToldSaid : Prop := Claim7.holds Tryz.pinned (.plain (OpenSpec.ofChange fnPathTermSpec)) fnPathTermCard
/-- ITS FALSE NEIGHBOUR. Refute it at one input. -/
def FnPathTermToldWrongFalsely : Prop := Claim7.holds Tryz.pinned (.plain (OpenSpec.ofChange fnPathTermWrong)) fnPathTermCard

/-- THE TOLD AND TIED CARD OF 'laws.FnPathWithin'. -/
def fnPathWithinCard : Claim7 := { stood := { row := fnPathWithinRow, standIns := [], harness := (true, "57341626f4a19bbc5547c316515ec42518b91912b220c9b059860f87745da4fe"), looks := true }, told := true, laidByText := true, laidKinds := [.data, .data, .data, .data], laidTests := true, laidLooks := .later, goes := false }
def FnPathWithinToldSaid : Prop := Claim7.holds Tryz.pinned (.plain (OpenSpec.ofChange fnPathWithinSpec)) fnPathWithinCard
/-- ITS FALSE NEIGHBOUR. Refute it at one input. -/
def FnPathWithinToldWrongFalsely : Prop := Claim7.holds Tryz.pinned (.plain (OpenSpec.ofChange fnPathWithinWrong)) fnPathWithinCard
end Rows
end Go.Proofs.YtakigggbecibmaaGreatFmt
