/- childrenOf of a name. -/
import Derived.Test.YtakigggbecibmaaGreatFmtPathH
namespace Go.Proofs.YtakigggbecibmaaGreatFmt
open Go.RowKit
set_option maxRecDepth 100000
set_option maxHeartbeats 8000000
attribute [local go_sem] Tryz.taMissComment Tryz.taMissCommentGroup Tryz.taMissField Tryz.taMissFieldList Tryz.taMissBadExpr Tryz.taMissIdent Tryz.taMissBasicLit Tryz.taMissEllipsis Tryz.taMissFuncLit Tryz.taMissCompositeLit Tryz.taMissParenExpr Tryz.taMissSelectorExpr Tryz.taMissIndexExpr Tryz.taMissIndexListExpr Tryz.taMissSliceExpr Tryz.taMissTypeAssertExpr Tryz.taMissCallExpr Tryz.taMissStarExpr Tryz.taMissUnaryExpr Tryz.taMissBinaryExpr Tryz.taMissKeyValueExpr Tryz.taMissArrayType Tryz.taMissStructType Tryz.taMissFuncType Tryz.taMissInterfaceType Tryz.taMissMapType Tryz.taMissChanType Tryz.taMissBadStmt Tryz.taMissDeclStmt Tryz.taMissEmptyStmt Tryz.taMissLabeledStmt Tryz.taMissExprStmt Tryz.taMissSendStmt Tryz.taMissIncDecStmt Tryz.taMissAssignStmt Tryz.taMissGoStmt Tryz.taMissDeferStmt Tryz.taMissReturnStmt Tryz.taMissBranchStmt Tryz.taMissBlockStmt Tryz.taMissIfStmt Tryz.taMissCaseClause Tryz.taMissSwitchStmt Tryz.taMissTypeSwitchStmt Tryz.taMissCommClause Tryz.taMissSelectStmt Tryz.taMissForStmt Tryz.taMissRangeStmt Tryz.taMissImportSpec Tryz.taMissValueSpec Tryz.taMissTypeSpec Tryz.taMissBadDecl Tryz.taMissGenDecl Tryz.taMissFuncDecl Tryz.taMissFile Tryz.taMissPackage Tryz.taHitBinaryExpr Tryz.taHitValueSpec Tryz.taHitGenDecl Tryz.taHitFile Tryz.taHitIdent

theorem children_ident (w : World) (b : Nat) (p : Int) (nm : ByteArray) (hb : Blk w b 78 (identCells p nm)) (h0 : 0 ≤ p) (h1 : p ≤ 100000) (h2 : nm.size ≤ 1000) :
    Calls Tryz.prog 26 #[.iface 68 (ptr b)] w (Kids w [tokV p (p + nm.size)]) := by
  have k0 : w.cell? ⟨b, 0, none⟩ = some (.int .i64 p) := hb.cell 0
  have k1 : w.cell? ⟨b, 1, none⟩ = some (.string nm) := hb.cell 1
  have hlt := hb.lt
  obtain ⟨i0, hi0, hz0, hz1, hz2⟩ := info_parts Tryz.infoNode
  have HI := Lib.hid (And.intro hi0 (And.intro hz0 (And.intro hz1 hz2)))
  have HBk := Lib.hid hb
  clear hb hi0 hz0 hz1 hz2
  have q1 : 0 ≤ (nm.size : Int) := by omega
  go_enter Tryz.func26, Tryz.ntmps26
  go_wp2_with fail
  refine (inspect_of _ _ _ _ _ _ _ rfl (fun _ _ h => h.ret) (walk_ident _ w.heap.size w.heap.size (w.heap.size + 1) b _ hlt (ClSt.start w _) (by simp only [World.size_alloc]; omega) (selfsame_ptr _ (by kernel_rfl) Tryz.underlying68 (by kernel_rfl)))).mono ?_
  rintro e w1 ⟨v1, rfl, hst, hb1⟩
  have hbw : Below w.heap.size w w1 := Below.trans (by go_grown) hb1
  have k0' := (hbw.cell (p := ⟨b, 0, none⟩) hlt).trans k0
  have k1' := (hbw.cell (p := ⟨b, 1, none⟩) hlt).trans k1
  have cn : w1.cell? ⟨w.heap.size, 0, none⟩ = some (.iface 68 (ptr b)) := hst.nbox.cell 0
  have cc : w1.cell? ⟨w.heap.size + 1, 0, none⟩ = some v1 := hst.cbox.cell 0
  have cca : ∀ o, (w1.alloc o).cell? ⟨w.heap.size + 1, 0, none⟩ = some v1 := fun o => (hst.cbox.alloc o).cell 0
  have HS := Lib.hid (And.intro hst hbw)
  clear hst hbw hb1
  go_wp2_with fail
  have hBz : w.heap.size ≤ w1.heap.size := HS.out.2.size
  have HB := Lib.hid HS.out.2
  go_region_law (first
    | (refine step_append_lst _ (by rfl) _ _ _ (by rfl) 52 i0 .nilIface 16 Tryz.underlying45 HI.out.1 HI.out.2.1 HI.out.2.2.1 HI.out.2.2.2 rfl w.heap.size v1 [] (by rfl) (HS.out.1.lst.below (by go_grown)) ⟨w1.heap.size, 0, none⟩ 1 1 [tokV p (p + nm.size)] (by rfl) rfl (by decide) (cell_one_new _ _ _) (fun u hu => by cases List.mem_singleton.1 hu; rfl) (show 0 + 1 ≤ maxLen by decide) (show (0 + 1) * 16 ≤ 140737488355328 by decide) ?_; intro g' cap' w3 hrow hg hg'; obtain ⟨d0, d1, hnx⟩ := HS.out.1.app (u := tokV p (p + nm.size)) hBz (by go_grown) hrow hg hg'; have HN := Lib.hid hnx; clear hnx hrow hg hg')
    | (go_simp; go_at_call 34; refine (tok_any _ _ _ h0 h1 q1 (by omega)).mono ?_; rintro e wt ⟨rfl, rfl⟩))
  all_goals (go_wp2_with (go_at_call 37; refine (sort_1 _ _ _).mono ?_; rintro e ws ⟨rfl, rfl⟩))
  all_goals (go_ret; exact kids_end HN.out.1 (HB.out.trans HN.out.2.1) rfl)
end Go.Proofs.YtakigggbecibmaaGreatFmt
