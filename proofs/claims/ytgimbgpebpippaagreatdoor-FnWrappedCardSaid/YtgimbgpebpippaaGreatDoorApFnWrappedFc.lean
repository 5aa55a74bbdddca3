/- The closed facts of the row of FnWrapped, one by one (all at once they want more memory than a proof may have). -/
import Derived.Test.YtgimbgpebpippaaGreatDoorRows
import Derived.JoinedCond
import Derived.KernelRfl
namespace Go.Proofs.YtgimbgpebpippaaGreatDoor
open Go
set_option maxRecDepth 100000
theorem andTFnWrapped {a b : Bool} (ha : a = true) (hb : b = true) : (a && b) = true := by rw [ha, hb]; rfl
theorem factFnWrapped0 : (Rows.fnWrappedRow.wf (OpenSpec.ofChange (OpenSpec.ofChange Rows.fnWrappedSpec).bare)) = true := by kernel_rfl
theorem factFnWrapped1 : (laidOutB Tryz.pinned.checked.prog) = true := by kernel_rfl
theorem factFnWrapped2 : (mapsRowed Tryz.pinned.checked.prog) = true := by kernel_rfl
theorem factFnWrapped3 : (Tryz.f6.params.all (Tryz.pinned.checked.prog.readableRec ·)) = true := by kernel_rfl
theorem factFnWrapped4 : (namedTie Tryz.pinned.checked.prog Rows.fnWrappedRow.named (OpenSpec.ofChange Rows.fnWrappedSpec).bare.vars) = true := by kernel_rfl
theorem factFnWrapped5 : ((Rows.fnWrappedRow.stops == [])) = true := by kernel_rfl
theorem factFnWrapped6 : ((Tryz.pinned.checked.prog.stops == [])) = true := by kernel_rfl
theorem factFnWrapped7 : ((Rows.fnWrappedRow.knobs == [])) = true := by kernel_rfl
theorem factFnWrapped8 : ((Tryz.pinned.checked.prog.stopKnobs == [])) = true := by kernel_rfl
theorem factFnWrapped9 : ((Rows.fnWrappedRow.inPlace == Tryz.pinned.checked.prog.inPlace 6)) = true := by kernel_rfl
theorem factFnWrapped10 : ((Rows.fnWrappedRow.unfollowed == Tryz.pinned.checked.prog.unfollowed 6)) = true := by kernel_rfl
theorem factFnWrapped11 : ((Rows.fnWrappedRow.recurses == Tryz.pinned.checked.prog.recurses 6)) = true := by kernel_rfl
theorem factFnWrapped12 : ((Rows.fnWrappedRow.named == Tryz.pinned.checked.prog.varsNamed 6)) = true := by kernel_rfl
theorem factFnWrapped13 : ((Rows.fnWrappedRow.maps == (Tryz.f6.params.toList ++ (OpenSpec.ofChange Rows.fnWrappedSpec).bare.plain.varTypes Tryz.pinned.checked.prog).any (Tryz.pinned.checked.prog.mapsRec ·))) = true := by kernel_rfl
theorem factFnWrapped14 : ((Rows.fnWrappedRow.ifaces == (Tryz.f6.params.toList ++ (OpenSpec.ofChange Rows.fnWrappedSpec).bare.plain.varTypes Tryz.pinned.checked.prog).any (Tryz.pinned.checked.prog.ifacesRec ·))) = true := by kernel_rfl
theorem factFnWrapped15 : ((Rows.fnWrappedRow.mapsOut == Tryz.pinned.checked.prog.mapsAmong Tryz.f6.resultTypes.toList)) = true := by kernel_rfl
theorem factFnWrapped16 : ((Rows.fnWrappedRow.loops == (Tryz.f6.params.toList ++ (OpenSpec.ofChange Rows.fnWrappedSpec).bare.plain.varTypes Tryz.pinned.checked.prog).any (Tryz.pinned.checked.prog.loopsFrom ·))) = true := by kernel_rfl
theorem factFnWrapped17 : ((Rows.fnWrappedRow.wideKeys == (Tryz.f6.params.toList ++ (OpenSpec.ofChange Rows.fnWrappedSpec).bare.plain.varTypes Tryz.pinned.checked.prog ++ Tryz.f6.resultTypes.toList).any (Tryz.pinned.checked.prog.wideKeysFrom ·))) = true := by kernel_rfl
theorem factFnWrapped18 : ((OpenSpec.ofChange Rows.fnWrappedSpec).bare.vars.all (Tryz.pinned.checked.prog.varReadable ·)) = true := by kernel_rfl
theorem factFnWrapped19 : (Tryz.f6.resultTypes.all (fun t => Tryz.pinned.checked.prog.readableRec t && decide (t < Tryz.pinned.checked.prog.types.size))) = true := by kernel_rfl
theorem factFnWrapped20 : ((Rows.fnWrappedRow.ifacesOut == Tryz.f6.resultTypes.toList.any (Tryz.pinned.checked.prog.ifacesRec ·))) = true := by kernel_rfl
theorem factFnWrapped21 : ((Rows.fnWrappedRow.loopsOut == Tryz.f6.resultTypes.toList.any (Tryz.pinned.checked.prog.loopsFrom ·))) = true := by kernel_rfl
theorem factFnWrapped22 : ((Rows.fnWrappedRow.plainKeys == Tryz.pinned.checked.prog.plainKeys)) = true := by kernel_rfl
theorem factFnWrapped23 : (Rows.fnWrappedRow.shortTexts.isNone) = true := by kernel_rfl
theorem factFnWrapped24 : (Tryz.pinned.checked.prog.stopsHeard) = true := by kernel_rfl
theorem factFnWrapped25 : (Tryz.pinned.checked.prog.mayEnter) = true := by kernel_rfl
theorem factFnWrapped26 : ((Rows.fnWrappedRow.lifted == Tryz.pinned.checked.prog.liftsFinal)) = true := by kernel_rfl
theorem factFnWrapped27 : ((Tryz.pinned.checked.prog.make == some Rows.fnWrappedRow.make)) = true := by kernel_rfl
theorem factFnWrapped28 : ((Rows.fnWrappedRow.kinds == (if Rows.fnWrappedRow.domain.isEmpty then [] else Tryz.f6.params.toList.map fun t => match Tryz.pinned.checked.prog.underlying t with | some (.int k) => some k | _ => none))) = true := by kernel_rfl
theorem factFnWrapped29 : ((Rows.fnWrappedRow.pinned == Rows.fnWrappedRow.pinnedBy)) = true := by kernel_rfl
theorem factFnWrapped30 : ((Rows.fnWrappedRow.veiled == (Tryz.f6.params.toList ++ (OpenSpec.ofChange Rows.fnWrappedSpec).bare.plain.varTypes Tryz.pinned.checked.prog ++ Tryz.f6.resultTypes.toList).any (Tryz.pinned.checked.prog.veiledRec ·))) = true := by kernel_rfl
theorem factFnWrapped31 : (Rows.fnWrappedRow.veiledFits Tryz.pinned.checked.prog Tryz.f6.params.toList (Tryz.f6.params.toList ++ (OpenSpec.ofChange Rows.fnWrappedSpec).bare.plain.varTypes Tryz.pinned.checked.prog ++ Tryz.f6.resultTypes.toList)) = true := by kernel_rfl
theorem closedFnWrapped : joinedFacts Tryz.pinned.checked.prog 6 Tryz.f6 (OpenSpec.ofChange Rows.fnWrappedSpec).bare Rows.fnWrappedRow = true := (andTFnWrapped (andTFnWrapped (andTFnWrapped (andTFnWrapped (andTFnWrapped (andTFnWrapped (andTFnWrapped (andTFnWrapped (andTFnWrapped (andTFnWrapped (andTFnWrapped (andTFnWrapped (andTFnWrapped (andTFnWrapped (andTFnWrapped (andTFnWrapped (andTFnWrapped (andTFnWrapped (andTFnWrapped (andTFnWrapped (andTFnWrapped (andTFnWrapped (andTFnWrapped (andTFnWrapped (andTFnWrapped (andTFnWrapped (andTFnWrapped (andTFnWrapped (andTFnWrapped (andTFnWrapped (andTFnWrapped factFnWrapped0 factFnWrapped1) factFnWrapped2) factFnWrapped3) factFnWrapped4) factFnWrapped5) factFnWrapped6) factFnWrapped7) factFnWrapped8) factFnWrapped9) factFnWrapped10) factFnWrapped11) factFnWrapped12) factFnWrapped13) factFnWrapped14) factFnWrapped15) factFnWrapped16) factFnWrapped17) factFnWrapped18) factFnWrapped19) factFnWrapped20) factFnWrapped21) factFnWrapped22) factFnWrapped23) factFnWrapped24) factFnWrapped25) factFnWrapped26) factFnWrapped27) factFnWrapped28) factFnWrapped29) factFnWrapped30) factFnWrapped31)
end Go.Proofs.YtgimbgpebpippaaGreatDoor
