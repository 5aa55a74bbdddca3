/- The closed facts of the row of FnEdited, one by one (all at once they want more memory than a proof may have). -/
import Derived.Test.YtgimbgpebpippaaGreatDoorRows
import Derived.JoinedCond
import Derived.KernelRfl
namespace Go.Proofs.YtgimbgpebpippaaGreatDoor
open Go
set_option maxRecDepth 100000
theorem andTFnEdited {a b : Bool} (ha : a = true) (hb : b = true) : (a && b) = true := by rw [ha, hb]; rfl
theorem factFnEdited0 : (Rows.fnEditedRow.wf (OpenSpec.ofChange (OpenSpec.ofChange Rows.fnEditedSpec).bare)) = true := by kernel_rfl
theorem factFnEdited1 : (laidOutB Tryz.pinned.checked.prog) = true := by kernel_rfl
theorem factFnEdited2 : (mapsRowed Tryz.pinned.checked.prog) = true := by kernel_rfl
theorem factFnEdited3 : (Tryz.f8.params.all (Tryz.pinned.checked.prog.readableRec ·)) = true := by kernel_rfl
theorem factFnEdited4 : (namedTie Tryz.pinned.checked.prog Rows.fnEditedRow.named (OpenSpec.ofChange Rows.fnEditedSpec).bare.vars) = true := by kernel_rfl
theorem factFnEdited5 : ((Rows.fnEditedRow.stops == [])) = true := by kernel_rfl
theorem factFnEdited6 : ((Tryz.pinned.checked.prog.stops == [])) = true := by kernel_rfl
theorem factFnEdited7 : ((Rows.fnEditedRow.knobs == [])) = true := by kernel_rfl
theorem factFnEdited8 : ((Tryz.pinned.checked.prog.stopKnobs == [])) = true := by kernel_rfl
theorem factFnEdited9 : ((Rows.fnEditedRow.inPlace == Tryz.pinned.checked.prog.inPlace 8)) = true := by kernel_rfl
theorem factFnEdited10 : ((Rows.fnEditedRow.unfollowed == Tryz.pinned.checked.prog.unfollowed 8)) = true := by kernel_rfl
theorem factFnEdited11 : ((Rows.fnEditedRow.recurses == Tryz.pinned.checked.prog.recurses 8)) = true := by kernel_rfl
theorem factFnEdited12 : ((Rows.fnEditedRow.named == Tryz.pinned.checked.prog.varsNamed 8)) = true := by kernel_rfl
theorem factFnEdited13 : ((Rows.fnEditedRow.maps == (Tryz.f8.params.toList ++ (OpenSpec.ofChange Rows.fnEditedSpec).bare.plain.varTypes Tryz.pinned.checked.prog).any (Tryz.pinned.checked.prog.mapsRec ·))) = true := by kernel_rfl
theorem factFnEdited14 : ((Rows.fnEditedRow.ifaces == (Tryz.f8.params.toList ++ (OpenSpec.ofChange Rows.fnEditedSpec).bare.plain.varTypes Tryz.pinned.checked.prog).any (Tryz.pinned.checked.prog.ifacesRec ·))) = true := by kernel_rfl
theorem factFnEdited15 : ((Rows.fnEditedRow.mapsOut == Tryz.pinned.checked.prog.mapsAmong Tryz.f8.resultTypes.toList)) = true := by kernel_rfl
theorem factFnEdited16 : ((Rows.fnEditedRow.loops == (Tryz.f8.params.toList ++ (OpenSpec.ofChange Rows.fnEditedSpec).bare.plain.varTypes Tryz.pinned.checked.prog).any (Tryz.pinned.checked.prog.loopsFrom ·))) = true := by kernel_rfl
theorem factFnEdited17 : ((Rows.fnEditedRow.wideKeys == (Tryz.f8.params.toList ++ (OpenSpec.ofChange Rows.fnEditedSpec).bare.plain.varTypes Tryz.pinned.checked.prog ++ Tryz.f8.resultTypes.toList).any (Tryz.pinned.checked.prog.wideKeysFrom ·))) = true := by kernel_rfl
theorem factFnEdited18 : ((OpenSpec.ofChange Rows.fnEditedSpec).bare.vars.all (Tryz.pinned.checked.prog.varReadable ·)) = true := by kernel_rfl
theorem factFnEdited19 : (Tryz.f8.resultTypes.all (fun t => Tryz.pinned.checked.prog.readableRec t && decide (t < Tryz.pinned.checked.prog.types.size))) = true := by kernel_rfl
theorem factFnEdited20 : ((Rows.fnEditedRow.ifacesOut == Tryz.f8.resultTypes.toList.any (Tryz.pinned.checked.prog.ifacesRec ·))) = true := by kernel_rfl
theorem factFnEdited21 : ((Rows.fnEditedRow.loopsOut == Tryz.f8.resultTypes.toList.any (Tryz.pinned.checked.prog.loopsFrom ·))) = true := by kernel_rfl
theorem factFnEdited22 : ((Rows.fnEditedRow.plainKeys == Tryz.pinned.checked.prog.plainKeys)) = true := by kernel_rfl
theorem factFnEdited23 : (Rows.fnEditedRow.shortTexts.isNone) = true := by kernel_rfl
theorem factFnEdited24 : (Tryz.pinned.checked.prog.stopsHeard) = true := by kernel_rfl
theorem factFnEdited25 : (Tryz.pinned.checked.prog.mayEnter) = true := by kernel_rfl
theorem factFnEdited26 : ((Rows.fnEditedRow.lifted == Tryz.pinned.checked.prog.liftsFinal)) = true := by kernel_rfl
theorem factFnEdited27 : ((Tryz.pinned.checked.prog.make == some Rows.fnEditedRow.make)) = true := by kernel_rfl
theorem factFnEdited28 : ((Rows.fnEditedRow.kinds == (if Rows.fnEditedRow.domain.isEmpty then [] else Tryz.f8.params.toList.map fun t => match Tryz.pinned.checked.prog.underlying t with | some (.int k) => some k | _ => none))) = true := by kernel_rfl
theorem factFnEdited29 : ((Rows.fnEditedRow.pinned == Rows.fnEditedRow.pinnedBy)) = true := by kernel_rfl
theorem factFnEdited30 : ((Rows.fnEditedRow.veiled == (Tryz.f8.params.toList ++ (OpenSpec.ofChange Rows.fnEditedSpec).bare.plain.varTypes Tryz.pinned.checked.prog ++ Tryz.f8.resultTypes.toList).any (Tryz.pinned.checked.prog.veiledRec ·))) = true := by kernel_rfl
theorem factFnEdited31 : (Rows.fnEditedRow.veiledFits Tryz.pinned.checked.prog Tryz.f8.params.toList (Tryz.f8.params.toList ++ (OpenSpec.ofChange Rows.fnEditedSpec).bare.plain.varTypes Tryz.pinned.checked.prog ++ Tryz.f8.resultTypes.toList)) = true := by kernel_rfl
theorem closedFnEdited : joinedFacts Tryz.pinned.checked.prog 8 Tryz.f8 (OpenSpec.ofChange Rows.fnEditedSpec).bare Rows.fnEditedRow = true := (andTFnEdited (andTFnEdited (andTFnEdited (andTFnEdited (andTFnEdited (andTFnEdited (andTFnEdited (andTFnEdited (andTFnEdited (andTFnEdited (andTFnEdited (andTFnEdited (andTFnEdited (andTFnEdited (andTFnEdited (andTFnEdited (andTFnEdited (andTFnEdited (andTFnEdited (andTFnEdited (andTFnEdited (andTFnEdited (andTFnEdited (andTFnEdited (andTFnEdited (andTFnEdited (andTFnEdited (andTFnEdited (andTFnEdited (andTFnEdited (andTFnEdited factFnEdited0 factFnEdited1) factFnEdited2) factFnEdited3) factFnEdited4) factFnEdited5) factFnEdited6) factFnEdited7) factFnEdited8) factFnEdited9) factFnEdited10) factFnEdited11) factFnEdited12) factFnEdited13) factFnEdited14) factFnEdited15) factFnEdited16) factFnEdited17) factFnEdited18) factFnEdited19) factFnEdited20) factFnEdited21) factFnEdited22) factFnEdited23) factFnEdited24) factFnEdited25) factFnEdited26) factFnEdited27) factFnEdited28) factFnEdited29) factFnEdited30) factFnEdited31)
end Go.Proofs.YtgimbgpebpippaaGreatDoor
