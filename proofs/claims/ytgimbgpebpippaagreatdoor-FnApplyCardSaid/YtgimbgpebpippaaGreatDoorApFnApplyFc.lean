/- The closed facts of the row of FnApply, one by one (all at once they want more memory than a proof may have). -/
import Derived.Test.YtgimbgpebpippaaGreatDoorRows
import Derived.JoinedCond
import Derived.KernelRfl
namespace Go.Proofs.YtgimbgpebpippaaGreatDoor
open Go
set_option maxRecDepth 100000
theorem andTFnApply {a b : Bool} (ha : a = true) (hb : b = true) : (a && b) = true := by rw [ha, hb]; rfl
theorem factFnApply0 : (Rows.fnApplyRow.wf (OpenSpec.ofChange (OpenSpec.ofChange Rows.fnApplySpec).bare)) = true := by kernel_rfl
theorem factFnApply1 : (laidOutB Tryz.pinned.checked.prog) = true := by kernel_rfl
theorem factFnApply2 : (mapsRowed Tryz.pinned.checked.prog) = true := by kernel_rfl
theorem factFnApply3 : (Tryz.f3.params.all (Tryz.pinned.checked.prog.readableRec ·)) = true := by kernel_rfl
theorem factFnApply4 : (namedTie Tryz.pinned.checked.prog Rows.fnApplyRow.named (OpenSpec.ofChange Rows.fnApplySpec).bare.vars) = true := by kernel_rfl
theorem factFnApply5 : ((Rows.fnApplyRow.stops == [])) = true := by kernel_rfl
theorem factFnApply6 : ((Tryz.pinned.checked.prog.stops == [])) = true := by kernel_rfl
theorem factFnApply7 : ((Rows.fnApplyRow.knobs == [])) = true := by kernel_rfl
theorem factFnApply8 : ((Tryz.pinned.checked.prog.stopKnobs == [])) = true := by kernel_rfl
theorem factFnApply9 : ((Rows.fnApplyRow.inPlace == Tryz.pinned.checked.prog.inPlace 3)) = true := by kernel_rfl
theorem factFnApply10 : ((Rows.fnApplyRow.unfollowed == Tryz.pinned.checked.prog.unfollowed 3)) = true := by kernel_rfl
theorem factFnApply11 : ((Rows.fnApplyRow.recurses == Tryz.pinned.checked.prog.recurses 3)) = true := by kernel_rfl
theorem factFnApply12 : ((Rows.fnApplyRow.named == Tryz.pinned.checked.prog.varsNamed 3)) = true := by kernel_rfl
theorem factFnApply13 : ((Rows.fnApplyRow.maps == (Tryz.f3.params.toList ++ (OpenSpec.ofChange Rows.fnApplySpec).bare.plain.varTypes Tryz.pinned.checked.prog).any (Tryz.pinned.checked.prog.mapsRec ·))) = true := by kernel_rfl
theorem factFnApply14 : ((Rows.fnApplyRow.ifaces == (Tryz.f3.params.toList ++ (OpenSpec.ofChange Rows.fnApplySpec).bare.plain.varTypes Tryz.pinned.checked.prog).any (Tryz.pinned.checked.prog.ifacesRec ·))) = true := by kernel_rfl
theorem factFnApply15 : ((Rows.fnApplyRow.mapsOut == Tryz.pinned.checked.prog.mapsAmong Tryz.f3.resultTypes.toList)) = true := by kernel_rfl
theorem factFnApply16 : ((Rows.fnApplyRow.loops == (Tryz.f3.params.toList ++ (OpenSpec.ofChange Rows.fnApplySpec).bare.plain.varTypes Tryz.pinned.checked.prog).any (Tryz.pinned.checked.prog.loopsFrom ·))) = true := by kernel_rfl
theorem factFnApply17 : ((Rows.fnApplyRow.wideKeys == (Tryz.f3.params.toList ++ (OpenSpec.ofChange Rows.fnApplySpec).bare.plain.varTypes Tryz.pinned.checked.prog ++ Tryz.f3.resultTypes.toList).any (Tryz.pinned.checked.prog.wideKeysFrom ·))) = true := by kernel_rfl
theorem factFnApply18 : ((OpenSpec.ofChange Rows.fnApplySpec).bare.vars.all (Tryz.pinned.checked.prog.varReadable ·)) = true := by kernel_rfl
theorem factFnApply19 : (Tryz.f3.resultTypes.all (fun t => Tryz.pinned.checked.prog.readableRec t && decide (t < Tryz.pinned.checked.prog.types.size))) = true := by kernel_rfl
theorem factFnApply20 : ((Rows.fnApplyRow.ifacesOut == Tryz.f3.resultTypes.toList.any (Tryz.pinned.checked.prog.ifacesRec ·))) = true := by kernel_rfl
theorem factFnApply21 : ((Rows.fnApplyRow.loopsOut == Tryz.f3.resultTypes.toList.any (Tryz.pinned.checked.prog.loopsFrom ·))) = true := by kernel_rfl
theorem factFnApply22 : ((Rows.fnApplyRow.plainKeys == Tryz.pinned.checked.prog.plainKeys)) = true := by kernel_rfl
theorem factFnApply23 : (Rows.fnApplyRow.shortTexts.isNone) = true := by kernel_rfl
theorem factFnApply24 : (Tryz.pinned.checked.prog.stopsHeard) = true := by kernel_rfl
theorem factFnApply25 : (Tryz.pinned.checked.prog.mayEnter) = true := by kernel_rfl
theorem factFnApply26 : ((Rows.fnApplyRow.lifted == Tryz.pinned.checked.prog.liftsFinal)) = true := by kernel_rfl
theorem factFnApply27 : ((Tryz.pinned.checked.prog.make == some Rows.fnApplyRow.make)) = true := by kernel_rfl
theorem factFnApply28 : ((Rows.fnApplyRow.kinds == (if Rows.fnApplyRow.domain.isEmpty then [] else Tryz.f3.params.toList.map fun t => match Tryz.pinned.checked.prog.underlying t with | some (.int k) => some k | _ => none))) = true := by kernel_rfl
theorem factFnApply29 : ((Rows.fnApplyRow.pinned == Rows.fnApplyRow.pinnedBy)) = true := by kernel_rfl
theorem factFnApply30 : ((Rows.fnApplyRow.veiled == (Tryz.f3.params.toList ++ (OpenSpec.ofChange Rows.fnApplySpec).bare.plain.varTypes Tryz.pinned.checked.prog ++ Tryz.f3.resultTypes.toList).any (Tryz.pinned.checked.prog.veiledRec ·))) = true := by kernel_rfl
theorem factFnApply31 : (Rows.fnApplyRow.veiledFits Tryz.pinned.checked.prog Tryz.f3.params.toList (Tryz.f3.params.toList ++ (OpenSpec.ofChange Rows.fnApplySpec).bare.plain.varTypes Tryz.pinned.checked.prog ++ Tryz.f3.resultTypes.toList)) = true := by kernel_rfl
theorem closedFnApply : joinedFacts Tryz.pinned.checked.prog 3 Tryz.f3 (OpenSpec.ofChange Rows.fnApplySpec).bare Rows.fnApplyRow = true := (andTFnApply (andTFnApply (andTFnApply (andTFnApply (andTFnApply (andTFnApply (andTFnApply (andTFnApply (andTFnApply (andTFnApply (andTFnApply (andTFnApply (andTFnApply (andTFnApply (andTFnApply (andTFnApply (andTFnApply (andTFnApply (andTFnApply (andTFnApply (andTFnApply (andTFnApply (andTFnApply (andTFnApply (andTFnApply (andTFnApply (andTFnApply (andTFnApply (andTFnApply (andTFnApply (andTFnApply factFnApply0 factFnApply1) factFnApply2) factFnApply3) factFnApply4) factFnApply5) factFnApply6) factFnApply7) factFnApply8) factFnApply9) factFnApply10) factFnApply11) factFnApply12) factFnApply13) factFnApply14) factFnApply15) factFnApply16) factFnApply17) factFnApply18) factFnApply19) factFnApply20) factFnApply21) factFnApply22) factFnApply23) factFnApply24) factFnApply25) factFnApply26) factFnApply27) factFnApply28) factFnApply29) factFnApply30) factFnApply31)
end Go.Proofs.YtgimbgpebpippaaGreatDoor
