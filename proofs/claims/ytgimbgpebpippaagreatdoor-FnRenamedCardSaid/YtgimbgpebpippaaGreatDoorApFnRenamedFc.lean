/- The closed facts of the row of FnRenamed, one by one (all at once they want more memory than a proof may have). -/
import Derived.Test.YtgimbgpebpippaaGreatDoorRows
import Derived.JoinedCond
import Derived.KernelRfl
namespace Go.Proofs.YtgimbgpebpippaaGreatDoor
open Go
set_option maxRecDepth 100000
theorem andTFnRenamed {a b : Bool} (ha : a = true) (hb : b = true) : (a && b) = true := by rw [ha, hb]; rfl
theorem factFnRenamed0 : (Rows.fnRenamedRow.wf (OpenSpec.ofChange (OpenSpec.ofChange Rows.fnRenamedSpec).bare)) = true := by kernel_rfl
theorem factFnRenamed1 : (laidOutB Tryz.pinned.checked.prog) = true := by kernel_rfl
theorem factFnRenamed2 : (mapsRowed Tryz.pinned.checked.prog) = true := by kernel_rfl
theorem factFnRenamed3 : (Tryz.f7.params.all (Tryz.pinned.checked.prog.readableRec ·)) = true := by kernel_rfl
theorem factFnRenamed4 : (namedTie Tryz.pinned.checked.prog Rows.fnRenamedRow.named (OpenSpec.ofChange Rows.fnRenamedSpec).bare.vars) = true := by kernel_rfl
theorem factFnRenamed5 : ((Rows.fnRenamedRow.stops == [])) = true := by kernel_rfl
theorem factFnRenamed6 : ((Tryz.pinned.checked.prog.stops == [])) = true := by kernel_rfl
theorem factFnRenamed7 : ((Rows.fnRenamedRow.knobs == [])) = true := by kernel_rfl
theorem factFnRenamed8 : ((Tryz.pinned.checked.prog.stopKnobs == [])) = true := by kernel_rfl
theorem factFnRenamed9 : ((Rows.fnRenamedRow.inPlace == Tryz.pinned.checked.prog.inPlace 7)) = true := by kernel_rfl
theorem factFnRenamed10 : ((Rows.fnRenamedRow.unfollowed == Tryz.pinned.checked.prog.unfollowed 7)) = true := by kernel_rfl
theorem factFnRenamed11 : ((Rows.fnRenamedRow.recurses == Tryz.pinned.checked.prog.recurses 7)) = true := by kernel_rfl
theorem factFnRenamed12 : ((Rows.fnRenamedRow.named == Tryz.pinned.checked.prog.varsNamed 7)) = true := by kernel_rfl
theorem factFnRenamed13 : ((Rows.fnRenamedRow.maps == (Tryz.f7.params.toList ++ (OpenSpec.ofChange Rows.fnRenamedSpec).bare.plain.varTypes Tryz.pinned.checked.prog).any (Tryz.pinned.checked.prog.mapsRec ·))) = true := by kernel_rfl
theorem factFnRenamed14 : ((Rows.fnRenamedRow.ifaces == (Tryz.f7.params.toList ++ (OpenSpec.ofChange Rows.fnRenamedSpec).bare.plain.varTypes Tryz.pinned.checked.prog).any (Tryz.pinned.checked.prog.ifacesRec ·))) = true := by kernel_rfl
theorem factFnRenamed15 : ((Rows.fnRenamedRow.mapsOut == Tryz.pinned.checked.prog.mapsAmong Tryz.f7.resultTypes.toList)) = true := by kernel_rfl
theorem factFnRenamed16 : ((Rows.fnRenamedRow.loops == (Tryz.f7.params.toList ++ (OpenSpec.ofChange Rows.fnRenamedSpec).bare.plain.varTypes Tryz.pinned.checked.prog).any (Tryz.pinned.checked.prog.loopsFrom ·))) = true := by kernel_rfl
theorem factFnRenamed17 : ((Rows.fnRenamedRow.wideKeys == (Tryz.f7.params.toList ++ (OpenSpec.ofChange Rows.fnRenamedSpec).bare.plain.varTypes Tryz.pinned.checked.prog ++ Tryz.f7.resultTypes.toList).any (Tryz.pinned.checked.prog.wideKeysFrom ·))) = true := by kernel_rfl
theorem factFnRenamed18 : ((OpenSpec.ofChange Rows.fnRenamedSpec).bare.vars.all (Tryz.pinned.checked.prog.varReadable ·)) = true := by kernel_rfl
theorem factFnRenamed19 : (Tryz.f7.resultTypes.all (fun t => Tryz.pinned.checked.prog.readableRec t && decide (t < Tryz.pinned.checked.prog.types.size))) = true := by kernel_rfl
theorem factFnRenamed20 : ((Rows.fnRenamedRow.ifacesOut == Tryz.f7.resultTypes.toList.any (Tryz.pinned.checked.prog.ifacesRec ·))) = true := by kernel_rfl
theorem factFnRenamed21 : ((Rows.fnRenamedRow.loopsOut == Tryz.f7.resultTypes.toList.any (Tryz.pinned.checked.prog.loopsFrom ·))) = true := by kernel_rfl
theorem factFnRenamed22 : ((Rows.fnRenamedRow.plainKeys == Tryz.pinned.checked.prog.plainKeys)) = true := by kernel_rfl
theorem factFnRenamed23 : (Rows.fnRenamedRow.shortTexts.isNone) = true := by kernel_rfl
theorem factFnRenamed24 : (Tryz.pinned.checked.prog.stopsHeard) = true := by kernel_rfl
theorem factFnRenamed25 : (Tryz.pinned.checked.prog.mayEnter) = true := by kernel_rfl
theorem factFnRenamed26 : ((Rows.fnRenamedRow.lifted == Tryz.pinned.checked.prog.liftsFinal)) = true := by kernel_rfl
theorem factFnRenamed27 : ((Tryz.pinned.checked.prog.make == some Rows.fnRenamedRow.make)) = true := by kernel_rfl
theorem factFnRenamed28 : ((Rows.fnRenamedRow.kinds == (if Rows.fnRenamedRow.domain.isEmpty then [] else Tryz.f7.params.toList.map fun t => match Tryz.pinned.checked.prog.underlying t with | some (.int k) => some k | _ => none))) = true := by kernel_rfl
theorem factFnRenamed29 : ((Rows.fnRenamedRow.pinned == Rows.fnRenamedRow.pinnedBy)) = true := by kernel_rfl
theorem factFnRenamed30 : ((Rows.fnRenamedRow.veiled == (Tryz.f7.params.toList ++ (OpenSpec.ofChange Rows.fnRenamedSpec).bare.plain.varTypes Tryz.pinned.checked.prog ++ Tryz.f7.resultTypes.toList).any (Tryz.pinned.checked.prog.veiledRec ·))) = true := by kernel_rfl
theorem factFnRenamed31 : (Rows.fnRenamedRow.veiledFits Tryz.pinned.checked.prog Tryz.f7.params.toList (Tryz.f7.params.toList ++ (OpenSpec.ofChange Rows.fnRenamedSpec).bare.plain.varTypes Tryz.pinned.checked.prog ++ Tryz.f7.resultTypes.toList)) = true := by kernel_rfl
theorem closedFnRenamed : joinedFacts Tryz.pinned.checked.prog 7 Tryz.f7 (OpenSpec.ofChange Rows.fnRenamedSpec).bare Rows.fnRenamedRow = true := (andTFnRenamed (andTFnRenamed (andTFnRenamed (andTFnRenamed (andTFnRenamed (andTFnRenamed (andTFnRenamed (andTFnRenamed (andTFnRenamed (andTFnRenamed (andTFnRenamed (andTFnRenamed (andTFnRenamed (andTFnRenamed (andTFnRenamed (andTFnRenamed (andTFnRenamed (andTFnRenamed (andTFnRenamed (andTFnRenamed (andTFnRenamed (andTFnRenamed (andTFnRenamed (andTFnRenamed (andTFnRenamed (andTFnRenamed (andTFnRenamed (andTFnRenamed (andTFnRenamed (andTFnRenamed (andTFnRenamed factFnRenamed0 factFnRenamed1) factFnRenamed2) factFnRenamed3) factFnRenamed4) factFnRenamed5) factFnRenamed6) factFnRenamed7) factFnRenamed8) factFnRenamed9) factFnRenamed10) factFnRenamed11) factFnRenamed12) factFnRenamed13) factFnRenamed14) factFnRenamed15) factFnRenamed16) factFnRenamed17) factFnRenamed18) factFnRenamed19) factFnRenamed20) factFnRenamed21) factFnRenamed22) factFnRenamed23) factFnRenamed24) factFnRenamed25) factFnRenamed26) factFnRenamed27) factFnRenamed28) factFnRenamed29) factFnRenamed30) factFnRenamed31)
end Go.Proofs.YtgimbgpebpippaaGreatDoor
