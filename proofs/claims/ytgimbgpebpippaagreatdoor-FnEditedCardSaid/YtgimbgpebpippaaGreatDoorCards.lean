/-
  DERIVED. GIVEN WITH THE SEED: THE CARDS: each row of YtgimbgpebpippaaGreatDoorRows.lean that lists a variable, with what it lists TIED to the program's text (the seventh form; the later family's looks); each row that meets fmt, with fmt's text TOLD by the authors' own Lean function (tested against real Go, not proved from fmt's source: count such statements apart). THE CARD IS WHAT COUNTS. Prove the row's statement (the work); the ties are given (YtgimbgpebpippaaGreatDoorTie.lean); close each card by the builder's one call (the guide's Derived/Test/ToyasCard.lean, 'card_holds'). Laid BY PROGRAM, IN A SANDBOX (cutbox-door.mjs). By AI agents, Wed Nov 11 2026. No macro, syntax, notation, axiom, sorry.
-/
import Derived.Test.YtgimbgpebpippaaGreatDoorRows
import GoSem.ClaimSeven
namespace Go.Proofs.YtgimbgpebpippaaGreatDoor
namespace Rows

/-- THE TIED CARD OF 'laws.FnApply'. -/
def fnApplyCard : Claim7 := { stood := { row := fnApplyRow, standIns := [], harness := (true, "8d014987d0a38af777594a570c38e837aff30481889f8ed03e2b24af54dd1c52"), looks := true }, kinds := [], alts := [], laidByText := true, laidKinds := [.data, .data, .data, .data], laidTests := true, laidLooks := .later }
def FnApplyCardSaid : Prop := Claim7.holds Tryz.pinned (.plain (OpenSpec.ofChange fnApplySpec)) fnApplyCard

/-- THE TIED CARD OF 'laws.FnApplyOne'. -/
def fnApplyOneCard : Claim7 := { stood := { row := fnApplyOneRow, standIns := [], harness := (true, "8d014987d0a38af777594a570c38e837aff30481889f8ed03e2b24af54dd1c52"), looks := true }, kinds := [], alts := [], laidByText := true, laidKinds := [.data, .data, .data, .data], laidTests := true, laidLooks := .later }
def FnApplyOneCardSaid : Prop := Claim7.holds Tryz.pinned (.plain (OpenSpec.ofChange fnApplyOneSpec)) fnApplyOneCard

/-- THE TIED CARD OF 'laws.FnUnwrapped'. -/
def fnUnwrappedCard : Claim7 := { stood := { row := fnUnwrappedRow, standIns := [], harness := (true, "8d014987d0a38af777594a570c38e837aff30481889f8ed03e2b24af54dd1c52"), looks := true }, kinds := [], alts := [], laidByText := true, laidKinds := [.data, .data, .data, .data], laidTests := true, laidLooks := .later }
def FnUnwrappedCardSaid : Prop := Claim7.holds Tryz.pinned (.plain (OpenSpec.ofChange fnUnwrappedSpec)) fnUnwrappedCard

/-- THE TIED CARD OF 'laws.FnWrapped'. -/
def fnWrappedCard : Claim7 := { stood := { row := fnWrappedRow, standIns := [], harness := (true, "8d014987d0a38af777594a570c38e837aff30481889f8ed03e2b24af54dd1c52"), looks := true }, kinds := [], alts := [], laidByText := true, laidKinds := [.data, .data, .data, .data], laidTests := true, laidLooks := .later }
def FnWrappedCardSaid : Prop := Claim7.holds Tryz.pinned (.plain (OpenSpec.ofChange fnWrappedSpec)) fnWrappedCard

/-- THE TIED CARD OF 'laws.FnRenamed'. -/
def fnRenamedCard : Claim7 := { stood := { row := fnRenamedRow, standIns := [], harness := (true, "8d014987d0a38af777594a570c38e837aff30481889f8ed03e2b24af54dd1c52"), looks := true }, kinds := [], alts := [], laidByText := true, laidKinds := [.data, .data, .data, .data], laidTests := true, laidLooks := .later }
def FnRenamedCardSaid : Prop := Claim7.holds Tryz.pinned (.plain (OpenSpec.ofChange fnRenamedSpec)) fnRenamedCard

/-- THE TIED CARD OF 'laws.FnEdited'. -/
def fnEditedCard : Claim7 := { stood := { row := fnEditedRow, standIns := [], harness := (true, "8d014987d0a38af777594a570c38e837aff30481889f8ed03e2b24af54dd1c52"), looks := true }, kinds := [], alts := [], laidByText := true, laidKinds := [.data, .data, .data, .data], laidTests := true, laidLooks := .later }
def FnEditedCardSaid : Prop := Claim7.holds Tryz.pinned (.plain (OpenSpec.ofChange fnEditedSpec)) fnEditedCard

/-- THE TIED CARD OF 'laws.FnEditedTree'. -/
def fnEditedTreeCard : Claim7 := { stood := { row := fnEditedTreeRow, standIns := [], harness := (true, "8d014987d0a38af777594a570c38e837aff30481889f8ed03e2b24af54dd1c52"), looks := true }, kinds := [], alts := [], laidByText := true, laidKinds := [.data, .data, .data, .data], laidTests := true, laidLooks := .later }
def FnEditedTreeCardSaid : Prop := Claim7.holds Tryz.pinned (.plain (OpenSpec.ofChange fnEditedTreeSpec)) fnEditedTreeCard

/-- THE SECOND FORM's CARD OF 'laws.FnApply'. -/
def fnApplyUptoCard : Claim7 := { stood := { row := fnApplyUptoRow, standIns := [], harness := (true, "8d014987d0a38af777594a570c38e837aff30481889f8ed03e2b24af54dd1c52"), looks := true }, kinds := [], alts := [], laidByText := true, laidKinds := [.data, .data, .data, .data], laidTests := true, laidLooks := .later }
def FnApplyUptoCardSaid : Prop := Claim7.holds Tryz.pinned (.plain (OpenSpec.upto fnApplySpec)) fnApplyUptoCard

/-- THE SECOND FORM's CARD OF 'laws.FnApplyOne'. -/
def fnApplyOneUptoCard : Claim7 := { stood := { row := fnApplyOneUptoRow, standIns := [], harness := (true, "8d014987d0a38af777594a570c38e837aff30481889f8ed03e2b24af54dd1c52"), looks := true }, kinds := [], alts := [], laidByText := true, laidKinds := [.data, .data, .data, .data], laidTests := true, laidLooks := .later }
def FnApplyOneUptoCardSaid : Prop := Claim7.holds Tryz.pinned (.plain (OpenSpec.upto fnApplyOneSpec)) fnApplyOneUptoCard

/-- THE SECOND FORM's CARD OF 'laws.FnUnwrapped'. -/
def fnUnwrappedUptoCard : Claim7 := { stood := { row := fnUnwrappedUptoRow, standIns := [], harness := (true, "8d014987d0a38af777594a570c38e837aff30481889f8ed03e2b24af54dd1c52"), looks := true }, kinds := [], alts := [], laidByText := true, laidKinds := [.data, .data, .data, .data], laidTests := true, laidLooks := .later }
def FnUnwrappedUptoCardSaid : Prop := Claim7.holds Tryz.pinned (.plain (OpenSpec.upto fnUnwrappedSpec)) fnUnwrappedUptoCard

/-- THE SECOND FORM's CARD OF 'laws.FnWrapped'. -/
def fnWrappedUptoCard : Claim7 := { stood := { row := fnWrappedUptoRow, standIns := [], harness := (true, "8d014987d0a38af777594a570c38e837aff30481889f8ed03e2b24af54dd1c52"), looks := true }, kinds := [], alts := [], laidByText := true, laidKinds := [.data, .data, .data, .data], laidTests := true, laidLooks := .later }
def FnWrappedUptoCardSaid : Prop := Claim7.holds Tryz.pinned (.plain (OpenSpec.upto fnWrappedSpec)) fnWrappedUptoCard

/-- THE SECOND FORM's CARD OF 'laws.FnRenamed'. -/
def fnRenamedUptoCard : Claim7 := { stood := { row := fnRenamedUptoRow, standIns := [], harness := (true, "8d014987d0a38af777594a570c38e837aff30481889f8ed03e2b24af54dd1c52"), looks := true }, kinds := [], alts := [], laidByText := true, laidKinds := [.data, .data, .data, .data], laidTests := true, laidLooks := .later }
def FnRenamedUptoCardSaid : Prop := Claim7.holds Tryz.pinned (.plain (OpenSpec.upto fnRenamedSpec)) fnRenamedUptoCard

/-- THE SECOND FORM's CARD OF 'laws.FnEdited'. -/
def fnEditedUptoCard : Claim7 := { stood := { row := fnEditedUptoRow, standIns := [], harness := (true, "8d014987d0a38af777594a570c38e837aff30481889f8ed03e2b24af54dd1c52"), looks := true }, kinds := [], alts := [], laidByText := true, laidKinds := [.data, .data, .data, .data], laidTests := true, laidLooks := .later }
def FnEditedUptoCardSaid : Prop := Claim7.holds Tryz.pinned (.plain (OpenSpec.upto fnEditedSpec)) fnEditedUptoCard

/-- THE SECOND FORM's CARD OF 'laws.FnEditedTree'. -/
def fnEditedTreeUptoCard : Claim7 := { stood := { row := fnEditedTreeUptoRow, standIns := [], harness := (true, "8d014987d0a38af777594a570c38e837aff30481889f8ed03e2b24af54dd1c52"), looks := true }, kinds := [], alts := [], laidByText := true, laidKinds := [.data, .data, .data, .data], laidTests := true, laidLooks := .later }
def FnEditedTreeUptoCardSaid : Prop := Claim7.holds Tryz.pinned (.plain (OpenSpec.upto fnEditedTreeSpec)) fnEditedTreeUptoCard
end Rows
end Go.Proofs.YtgimbgpebpippaaGreatDoor
