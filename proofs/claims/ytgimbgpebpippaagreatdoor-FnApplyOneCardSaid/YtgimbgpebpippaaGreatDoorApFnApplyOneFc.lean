/- The closed facts of the row of FnApplyOne, one by one (all at once they want more memory than a proof may have). -/
import Derived.Test.YtgimbgpebpippaaGreatDoorRows
import Derived.JoinedCond
import Derived.KernelRfl
namespace Go.Proofs.YtgimbgpebpippaaGreatDoor
open Go
set_option maxRecDepth 100000
theorem andTFnApplyOne {a b : Bool} (ha : a = true) (hb : b = true) : (a && b) = true := by rw [ha, hb]; rfl
theorem factFnApplyOne0 : (Rows.fnApplyOneRow.wf (OpenSpec.ofChange (OpenSpec.ofChange Rows.fnApplyOneSpec).bare)) = true := by kernel_rfl
theorem factFnApplyOne1 : (laidOutB Tryz.pinned.checked.prog) = true := by kernel_rfl
theorem factFnApplyOne2 : (mapsRowed Tryz.pinned.checked.prog) = true := by kernel_rfl
theorem factFnApplyOne3 : (Tryz.f4.params.all (Tryz.pinned.checked.prog.readableRec ·)) = true := by kernel_rfl
theorem factFnApplyOne4 : (namedTie Tryz.pinned.checked.prog Rows.fnApplyOneRow.named (OpenSpec.ofChange Rows.fnApplyOneSpec).bare.vars) = true := by kernel_rfl
theorem factFnApplyOne5 : ((Rows.fnApplyOneRow.stops == [])) = true := by kernel_rfl
theorem factFnApplyOne6 : ((Tryz.pinned.checked.prog.stops == [])) = true := by kernel_rfl
theorem factFnApplyOne7 : ((Rows.fnApplyOneRow.knobs == [])) = true := by kernel_rfl
theorem factFnApplyOne8 : ((Tryz.pinned.checked.prog.stopKnobs == [])) = true := by kernel_rfl
theorem factFnApplyOne9 : ((Rows.fnApplyOneRow.inPlace == Tryz.pinned.checked.prog.inPlace 4)) = true := by kernel_rfl
theorem factFnApplyOne10 : ((Rows.fnApplyOneRow.unfollowed == Tryz.pinned.checked.prog.unfollowed 4)) = true := by kernel_rfl
theorem factFnApplyOne11 : ((Rows.fnApplyOneRow.recurses == Tryz.pinned.checked.prog.recurses 4)) = true := by kernel_rfl
theorem factFnApplyOne12 : ((Rows.fnApplyOneRow.named == Tryz.pinned.checked.prog.varsNamed 4)) = true := by kernel_rfl
theorem factFnApplyOne13 : ((Rows.fnApplyOneRow.maps == (Tryz.f4.params.toList ++ (OpenSpec.ofChange Rows.fnApplyOneSpec).bare.plain.varTypes Tryz.pinned.checked.prog).any (Tryz.pinned.checked.prog.mapsRec ·))) = true := by kernel_rfl
theorem factFnApplyOne14 : ((Rows.fnApplyOneRow.ifaces == (Tryz.f4.params.toList ++ (OpenSpec.ofChange Rows.fnApplyOneSpec).bare.plain.varTypes Tryz.pinned.checked.prog).any (Tryz.pinned.checked.prog.ifacesRec ·))) = true := by kernel_rfl
theorem factFnApplyOne15 : ((Rows.fnApplyOneRow.mapsOut == Tryz.pinned.checked.prog.mapsAmong Tryz.f4.resultTypes.toList)) = true := by kernel_rfl
theorem factFnApplyOne16 : ((Rows.fnApplyOneRow.loops == (Tryz.f4.params.toList ++ (OpenSpec.ofChange Rows.fnApplyOneSpec).bare.plain.varTypes Tryz.pinned.checked.prog).any (Tryz.pinned.checked.prog.loopsFrom ·))) = true := by kernel_rfl
theorem factFnApplyOne17 : ((Rows.fnApplyOneRow.wideKeys == (Tryz.f4.params.toList ++ (OpenSpec.ofChange Rows.fnApplyOneSpec).bare.plain.varTypes Tryz.pinned.checked.prog ++ Tryz.f4.resultTypes.toList).any (Tryz.pinned.checked.prog.wideKeysFrom ·))) = true := by kernel_rfl
theorem factFnApplyOne18 : ((OpenSpec.ofChange Rows.fnApplyOneSpec).bare.vars.all (Tryz.pinned.checked.prog.varReadable ·)) = true := by kernel_rfl
theorem factFnApplyOne19 : (Tryz.f4.resultTypes.all (fun t => Tryz.pinned.checked.prog.readableRec t && decide (t < Tryz.pinned.checked.prog.types.size))) = true := by kernel_rfl
theorem factFnApplyOne20 : ((Rows.fnApplyOneRow.ifacesOut == Tryz.f4.resultTypes.toList.any (Tryz.pinned.checked.prog.ifacesRec ·))) = true := by kernel_rfl
theorem factFnApplyOne21 : ((Rows.fnApplyOneRow.loopsOut == Tryz.f4.resultTypes.toList.any (Tryz.pinned.checked.prog.loopsFrom ·))) = true := by kernel_rfl
theorem factFnApplyOne22 : ((Rows.fnApplyOneRow.plainKeys == Tryz.pinned.checked.prog.plainKeys)) = true := by kernel_rfl
theorem factFnApplyOne23 : (Rows.fnApplyOneRow.shortTexts.isNone) = true := by kernel_rfl
theorem factFnApplyOne24 : (Tryz.pinned.checked.prog.stopsHeard) = true := by kernel_rfl
theorem factFnApplyOne25 : (Tryz.pinned.checked.prog.mayEnter) = true := by kernel_rfl
theorem factFnApplyOne26 : ((Rows.fnApplyOneRow.lifted == Tryz.pinned.checked.prog.liftsFinal)) = true := by kernel_rfl
theorem factFnApplyOne27 : ((Tryz.pinned.checked.prog.make == some Rows.fnApplyOneRow.make)) = true := by kernel_rfl
theorem factFnApplyOne28 : ((Rows.fnApplyOneRow.kinds == (if Rows.fnApplyOneRow.domain.isEmpty then [] else Tryz.f4.params.toList.map fun t => match Tryz.pinned.checked.prog.underlying t with | some (.int k) => some k | _ => none))) = true := by kernel_rfl
theorem factFnApplyOne29 : ((Rows.fnApplyOneRow.pinned == Rows.fnApplyOneRow.pinnedBy)) = true := by kernel_rfl
theorem factFnApplyOne30 : ((Rows.fnApplyOneRow.veiled == (Tryz.f4.params.toList ++ (OpenSpec.ofChange Rows.fnApplyOneSpec).bare.plain.varTypes Tryz.pinned.checked.prog ++ Tryz.f4.resultTypes.toList).any (Tryz.pinned.checked.prog.veiledRec ·))) = true := by kernel_rfl
theorem factFnApplyOne31 : (Rows.fnApplyOneRow.veiledFits Tryz.pinned.checked.prog Tryz.f4.params.toList (Tryz.f4.params.toList ++ (OpenSpec.ofChange Rows.fnApplyOneSpec).bare.plain.varTypes Tryz.pinned.checked.prog ++ Tryz.f4.resultTypes.toList)) = true := by kernel_rfl
theorem closedFnApplyOne : joinedFacts Tryz.pinned.checked.prog 4 Tryz.f4 (OpenSpec.ofChange Rows.fnApplyOneSpec).bare Rows.fnApplyOneRow = true := (andTFnApplyOne (andTFnApplyOne (andTFnApplyOne (andTFnApplyOne (andTFnApplyOne (andTFnApplyOne (andTFnApplyOne (andTFnApplyOne (andTFnApplyOne (andTFnApplyOne (andTFnApplyOne (andTFnApplyOne (andTFnApplyOne (andTFnApplyOne (andTFnApplyOne (andTFnApplyOne (andTFnApplyOne (andTFnApplyOne (andTFnApplyOne (andTFnApplyOne (andTFnApplyOne (andTFnApplyOne (andTFnApplyOne (andTFnApplyOne (andTFnApplyOne (andTFnApplyOne (andTFnApplyOne (andTFnApplyOne (andTFnApplyOne (andTFnApplyOne (andTFnApplyOne factFnApplyOne0 factFnApplyOne1) factFnApplyOne2) factFnApplyOne3) factFnApplyOne4) factFnApplyOne5) factFnApplyOne6) factFnApplyOne7) factFnApplyOne8) factFnApplyOne9) factFnApplyOne10) factFnApplyOne11) factFnApplyOne12) factFnApplyOne13) factFnApplyOne14) factFnApplyOne15) factFnApplyOne16) factFnApplyOne17) factFnApplyOne18) factFnApplyOne19) factFnApplyOne20) factFnApplyOne21) factFnApplyOne22) factFnApplyOne23) factFnApplyOne24) factFnApplyOne25) factFnApplyOne26) factFnApplyOne27) factFnApplyOne28) factFnApplyOne29) factFnApplyOne30) factFnApplyOne31)
end Go.Proofs.YtgimbgpebpippaaGreatDoor
