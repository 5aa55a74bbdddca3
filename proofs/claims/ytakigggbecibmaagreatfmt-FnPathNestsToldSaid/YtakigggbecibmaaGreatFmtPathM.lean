/- childrenOf of a file. -/
import Derived.Test.YtakigggbecibmaaGreatFmtPathH
namespace Go.Proofs.YtakigggbecibmaaGreatFmt
open Go.RowKit
set_option maxRecDepth 100000
set_option maxHeartbeats 8000000
attribute [local go_sem] Tryz.taMissComment Tryz.taMissCommentGroup Tryz.taMissField Tryz.taMissFieldList Tryz.taMissBadExpr Tryz.taMissIdent Tryz.taMissBasicLit Tryz.taMissEllipsis Tryz.taMissFuncLit Tryz.taMissCompositeLit Tryz.taMissParenExpr Tryz.taMissSelectorExpr Tryz.taMissIndexExpr Tryz.taMissIndexListExpr Tryz.taMissSliceExpr Tryz.taMissTypeAssertExpr Tryz.taMissCallExpr Tryz.taMissStarExpr Tryz.taMissUnaryExpr Tryz.taMissBinaryExpr Tryz.taMissKeyValueExpr Tryz.taMissArrayType Tryz.taMissStructType Tryz.taMissFuncType Tryz.taMissInterfaceType Tryz.taMissMapType Tryz.taMissChanType Tryz.taMissBadStmt Tryz.taMissDeclStmt Tryz.taMissEmptyStmt Tryz.taMissLabeledStmt Tryz.taMissExprStmt Tryz.taMissSendStmt Tryz.taMissIncDecStmt Tryz.taMissAssignStmt Tryz.taMissGoStmt Tryz.taMissDeferStmt Tryz.taMissReturnStmt Tryz.taMissBranchStmt Tryz.taMissBlockStmt Tryz.taMissIfStmt Tryz.taMissCaseClause Tryz.taMissSwitchStmt Tryz.taMissTypeSwitchStmt Tryz.taMissCommClause Tryz.taMissSelectStmt Tryz.taMissForStmt Tryz.taMissRangeStmt Tryz.taMissImportSpec Tryz.taMissValueSpec Tryz.taMissTypeSpec Tryz.taMissBadDecl Tryz.taMissGenDecl Tryz.taMissFuncDecl Tryz.taMissFile Tryz.taMissPackage Tryz.taHitBinaryExpr Tryz.taHitValueSpec Tryz.taHitGenDecl Tryz.taHitFile Tryz.taHitIdent

theorem children_file (w : World) (b : Nat) (gD bN : Nat) (nm : ByteArray) (x : Value) (tx : TypeId) (px : Value) (lx hx v5 : Int) (hb : Blk w b 97 #[.pointer none, .int .i64 1, ptr bN, .slice (some ⟨gD, 0, none⟩) 1 1, .int .i64 1, .int .i64 v5, .pointer none, .slice none 0 0, .slice none 0 0, .slice none 0 0, .string ⟨#[]⟩]) (ex : x = .iface tx px) (hN : Blk w bN 78 (identCells 9 nm)) (h2 : nm.size ≤ 1000) (hD : Blk w gD 228 #[x]) (hne : tx ≠ 48) (ox : NodeOk w tx px lx hx) (l1 : 9 < lx) :
    Calls Tryz.prog 26 #[.iface 48 (ptr b)] w (Kids w [tokV 1 (1 + 7), .iface 68 (ptr bN), x]) := by
  have k1 : w.cell? ⟨b, 1, none⟩ = some (.int .i64 1) := hb.cell 1
  have hlt := hb.lt
  obtain ⟨i0, hi0, hz0, hz1, hz2⟩ := info_parts Tryz.infoNode
  have HI := Lib.hid (And.intro hi0 (And.intro hz0 (And.intro hz1 hz2)))
  have HBk := Lib.hid hb
  clear hb hi0 hz0 hz1 hz2
  have HO : Hid (∀ z ∈ [(.iface 68 (ptr bN), 9), (x, lx), (tokV 1 (1 + 7), 1)], OkIt w z) := Lib.hid (by
    intro z hz
    simp only [List.mem_cons, List.not_mem_nil, or_false] at hz
    rcases hz with rfl | rfl | rfl
    · exact ⟨_, _, 9 + nm.size, rfl, ident_ok _ _ _ w hN (show (0 : Int) ≤ 9 by decide) (show (9 : Int) ≤ 100000 by decide) h2⟩
    · exact ⟨tx, px, hx, ex, ox⟩
    · exact ⟨_, _, 1 + 7, rfl, tokNode_ok _ _ _⟩
  )
  have HE : Hid (∀ e w2, Kids w ((outer 2 1 [(.iface 68 (ptr bN), 9), (x, lx), (tokV 1 (1 + 7), 1)]).map (·.1)) e w2 → Kids w [tokV 1 (1 + 7), .iface 68 (ptr bN), x] e w2) := Lib.hid (by rw [outer_first _ _ _ _ _ _ (by decide) l1]; exact fun _ _ h => h)
  have HD := Lib.hid hD
  have EX := Lib.hid ex
  clear hD hN ox l1 ex
  go_enter Tryz.func26, Tryz.ntmps26
  go_wp2_with fail
  refine (inspect_of _ _ _ _ _ _ _ rfl (fun _ _ h => h.ret) (walk_file _ w.heap.size w.heap.size (w.heap.size + 1) b _ gD 1 bN _ _ _ _ _ _ _ _ x tx px EX.out hlt HD.out.lt hne (HBk.out.below (by go_grown) hlt) (HD.out.below (by go_grown) HD.out.lt) (ClSt.start w _) (by simp only [World.size_alloc]; omega) (selfsame_ptr _ (by kernel_rfl) Tryz.underlying48 (by kernel_rfl)))).mono ?_
  rintro e w1 ⟨v1, rfl, hst, hb1⟩
  have hbw : Below w.heap.size w w1 := Below.trans (by go_grown) hb1
  have k1' := (hbw.cell (p := ⟨b, 1, none⟩) hlt).trans k1
  have cn : w1.cell? ⟨w.heap.size, 0, none⟩ = some (.iface 48 (ptr b)) := hst.nbox.cell 0
  have cc : w1.cell? ⟨w.heap.size + 1, 0, none⟩ = some v1 := hst.cbox.cell 0
  have cca : ∀ o, (w1.alloc o).cell? ⟨w.heap.size + 1, 0, none⟩ = some v1 := fun o => (hst.cbox.alloc o).cell 0
  have HS := Lib.hid (And.intro hst hbw)
  clear hst hbw hb1
  go_wp2_with fail
  have hBz : w.heap.size ≤ w1.heap.size := HS.out.2.size
  have HB := Lib.hid HS.out.2
  go_region_law (first
    | (refine step_append_lst _ (by rfl) _ _ _ (by rfl) 52 i0 .nilIface 16 Tryz.underlying45 HI.out.1 HI.out.2.1 HI.out.2.2.1 HI.out.2.2.2 rfl w.heap.size v1 [.iface 68 (ptr bN), x] (by rfl) (HS.out.1.lst.below (by go_grown)) ⟨w1.heap.size, 0, none⟩ 1 1 [tokV 1 (1 + 7)] (by rfl) rfl (by decide) (cell_one_new _ _ _) (fun u hu => by cases List.mem_singleton.1 hu; rfl) (show 2 + 1 ≤ maxLen by decide) (show (2 + 1) * 16 ≤ 140737488355328 by decide) ?_; intro g' cap' w3 hrow hg hg'; obtain ⟨d0, d1, hnx⟩ := HS.out.1.app (u := tokV 1 (1 + 7)) hBz (by go_grown) hrow hg hg'; have HN := Lib.hid hnx; clear hnx hrow hg hg')
    | (go_simp; go_at_call 34; refine (tok_any 1 7 _ (by decide) (by decide) (by decide) (by decide)).mono ?_; rintro e wt ⟨rfl, rfl⟩))
  all_goals (have hss := sortst_of (w := w) [(.iface 68 (ptr bN), 9), (x, lx), (tokV 1 (1 + 7), 1)] HN.out.1 (HB.out.trans HN.out.2.1) HO.out)
  all_goals (go_wp2_with (go_at_call 37; refine (sort_3 _ _ _ _ _ _ hss rfl).mono ?_; rintro e w2 ⟨rfl, hs⟩; have hc2 := cell_sorted HN.out.1 hs; have HS2 := Lib.hid hs; clear hs))
  all_goals (go_ret; exact (HE.out) _ _ (kids_sorted HS2.out (by rw [outer_length]; rfl) rfl))
end Go.Proofs.YtakigggbecibmaaGreatFmt
