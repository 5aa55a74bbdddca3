/- The closed facts of the row of FnUnwrapped, one by one (all at once they want more memory than a proof may have). -/
import Derived.Test.YtgimbgpebpippaaGreatDoorRows
import Derived.JoinedCond
import Derived.KernelRfl
namespace Go.Proofs.YtgimbgpebpippaaGreatDoor
open Go
set_option maxRecDepth 100000
theorem andTFnUnwrapped {a b : Bool} (ha : a = true) (hb : b = true) : (a && b) = true := by rw [ha, hb]; rfl
theorem factFnUnwrapped0 : (Rows.fnUnwrappedRow.wf (OpenSpec.ofChange (OpenSpec.ofChange Rows.fnUnwrappedSpec).bare)) = true := by kernel_rfl
theorem factFnUnwrapped1 : (laidOutB Tryz.pinned.checked.prog) = true := by kernel_rfl
theorem factFnUnwrapped2 : (mapsRowed Tryz.pinned.checked.prog) = true := by kernel_rfl
theorem factFnUnwrapped3 : (Tryz.f5.params.all (Tryz.pinned.checked.prog.readableRec ·)) = true := by kernel_rfl
theorem factFnUnwrapped4 : (namedTie Tryz.pinned.checked.prog Rows.fnUnwrappedRow.named (OpenSpec.ofChange Rows.fnUnwrappedSpec).bare.vars) = true := by kernel_rfl
theorem factFnUnwrapped5 : ((Rows.fnUnwrappedRow.stops == [])) = true := by kernel_rfl
theorem factFnUnwrapped6 : ((Tryz.pinned.checked.prog.stops == [])) = true := by kernel_rfl
theorem factFnUnwrapped7 : ((Rows.fnUnwrappedRow.knobs == [])) = true := by kernel_rfl
theorem factFnUnwrapped8 : ((Tryz.pinned.checked.prog.stopKnobs == [])) = true := by kernel_rfl
theorem factFnUnwrapped9 : ((Rows.fnUnwrappedRow.inPlace == Tryz.pinned.checked.prog.inPlace 5)) = true := by kernel_rfl
theorem factFnUnwrapped10 : ((Rows.fnUnwrappedRow.unfollowed == Tryz.pinned.checked.prog.unfollowed 5)) = true := by kernel_rfl
theorem factFnUnwrapped11 : ((Rows.fnUnwrappedRow.recurses == Tryz.pinned.checked.prog.recurses 5)) = true := by kernel_rfl
theorem factFnUnwrapped12 : ((Rows.fnUnwrappedRow.named == Tryz.pinned.checked.prog.varsNamed 5)) = true := by kernel_rfl
theorem factFnUnwrapped13 : ((Rows.fnUnwrappedRow.maps == (Tryz.f5.params.toList ++ (OpenSpec.ofChange Rows.fnUnwrappedSpec).bare.plain.varTypes Tryz.pinned.checked.prog).any (Tryz.pinned.checked.prog.mapsRec ·))) = true := by kernel_rfl
theorem factFnUnwrapped14 : ((Rows.fnUnwrappedRow.ifaces == (Tryz.f5.params.toList ++ (OpenSpec.ofChange Rows.fnUnwrappedSpec).bare.plain.varTypes Tryz.pinned.checked.prog).any (Tryz.pinned.checked.prog.ifacesRec ·))) = true := by kernel_rfl
theorem factFnUnwrapped15 : ((Rows.fnUnwrappedRow.mapsOut == Tryz.pinned.checked.prog.mapsAmong Tryz.f5.resultTypes.toList)) = true := by kernel_rfl
theorem factFnUnwrapped16 : ((Rows.fnUnwrappedRow.loops == (Tryz.f5.params.toList ++ (OpenSpec.ofChange Rows.fnUnwrappedSpec).bare.plain.varTypes Tryz.pinned.checked.prog).any (Tryz.pinned.checked.prog.loopsFrom ·))) = true := by kernel_rfl
theorem factFnUnwrapped17 : ((Rows.fnUnwrappedRow.wideKeys == (Tryz.f5.params.toList ++ (OpenSpec.ofChange Rows.fnUnwrappedSpec).bare.plain.varTypes Tryz.pinned.checked.prog ++ Tryz.f5.resultTypes.toList).any (Tryz.pinned.checked.prog.wideKeysFrom ·))) = true := by kernel_rfl
theorem factFnUnwrapped18 : ((OpenSpec.ofChange Rows.fnUnwrappedSpec).bare.vars.all (Tryz.pinned.checked.prog.varReadable ·)) = true := by kernel_rfl
theorem factFnUnwrapped19 : (Tryz.f5.resultTypes.all (fun t => Tryz.pinned.checked.prog.readableRec t && decide (t < Tryz.pinned.checked.prog.types.size))) = true := by kernel_rfl
theorem factFnUnwrapped20 : ((Rows.fnUnwrappedRow.ifacesOut == Tryz.f5.resultTypes.toList.any (Tryz.pinned.checked.prog.ifacesRec ·))) = true := by kernel_rfl
theorem factFnUnwrapped21 : ((Rows.fnUnwrappedRow.loopsOut == Tryz.f5.resultTypes.toList.any (Tryz.pinned.checked.prog.loopsFrom ·))) = true := by kernel_rfl
theorem factFnUnwrapped22 : ((Rows.fnUnwrappedRow.plainKeys == Tryz.pinned.checked.prog.plainKeys)) = true := by kernel_rfl
theorem factFnUnwrapped23 : (Rows.fnUnwrappedRow.shortTexts.isNone) = true := by kernel_rfl
theorem factFnUnwrapped24 : (Tryz.pinned.checked.prog.stopsHeard) = true := by kernel_rfl
theorem factFnUnwrapped25 : (Tryz.pinned.checked.prog.mayEnter) = true := by kernel_rfl
theorem factFnUnwrapped26 : ((Rows.fnUnwrappedRow.lifted == Tryz.pinned.checked.prog.liftsFinal)) = true := by kernel_rfl
theorem factFnUnwrapped27 : ((Tryz.pinned.checked.prog.make == some Rows.fnUnwrappedRow.make)) = true := by kernel_rfl
theorem factFnUnwrapped28 : ((Rows.fnUnwrappedRow.kinds == (if Rows.fnUnwrappedRow.domain.isEmpty then [] else Tryz.f5.params.toList.map fun t => match Tryz.pinned.checked.prog.underlying t with | some (.int k) => some k | _ => none))) = true := by kernel_rfl
theorem factFnUnwrapped29 : ((Rows.fnUnwrappedRow.pinned == Rows.fnUnwrappedRow.pinnedBy)) = true := by kernel_rfl
theorem factFnUnwrapped30 : ((Rows.fnUnwrappedRow.veiled == (Tryz.f5.params.toList ++ (OpenSpec.ofChange Rows.fnUnwrappedSpec).bare.plain.varTypes Tryz.pinned.checked.prog ++ Tryz.f5.resultTypes.toList).any (Tryz.pinned.checked.prog.veiledRec ·))) = true := by kernel_rfl
theorem factFnUnwrapped31 : (Rows.fnUnwrappedRow.veiledFits Tryz.pinned.checked.prog Tryz.f5.params.toList (Tryz.f5.params.toList ++ (OpenSpec.ofChange Rows.fnUnwrappedSpec).bare.plain.varTypes Tryz.pinned.checked.prog ++ Tryz.f5.resultTypes.toList)) = true := by kernel_rfl
theorem closedFnUnwrapped : joinedFacts Tryz.pinned.checked.prog 5 Tryz.f5 (OpenSpec.ofChange Rows.fnUnwrappedSpec).bare Rows.fnUnwrappedRow = true := (andTFnUnwrapped (andTFnUnwrapped (andTFnUnwrapped (andTFnUnwrapped (andTFnUnwrapped (andTFnUnwrapped (andTFnUnwrapped (andTFnUnwrapped (andTFnUnwrapped (andTFnUnwrapped (andTFnUnwrapped (andTFnUnwrapped (andTFnUnwrapped (andTFnUnwrapped (andTFnUnwrapped (andTFnUnwrapped (andTFnUnwrapped (andTFnUnwrapped (andTFnUnwrapped (andTFnUnwrapped (andTFnUnwrapped (andTFnUnwrapped (andTFnUnwrapped (andTFnUnwrapped (andTFnUnwrapped (andTFnUnwrapped (andTFnUnwrapped (andTFnUnwrapped (andTFnUnwrapped (andTFnUnwrapped (andTFnUnwrapped factFnUnwrapped0 factFnUnwrapped1) factFnUnwrapped2) factFnUnwrapped3) factFnUnwrapped4) factFnUnwrapped5) factFnUnwrapped6) factFnUnwrapped7) factFnUnwrapped8) factFnUnwrapped9) factFnUnwrapped10) factFnUnwrapped11) factFnUnwrapped12) factFnUnwrapped13) factFnUnwrapped14) factFnUnwrapped15) factFnUnwrapped16) factFnUnwrapped17) factFnUnwrapped18) factFnUnwrapped19) factFnUnwrapped20) factFnUnwrapped21) factFnUnwrapped22) factFnUnwrapped23) factFnUnwrapped24) factFnUnwrapped25) factFnUnwrapped26) factFnUnwrapped27) factFnUnwrapped28) factFnUnwrapped29) factFnUnwrapped30) factFnUnwrapped31)
end Go.Proofs.YtgimbgpebpippaaGreatDoor
