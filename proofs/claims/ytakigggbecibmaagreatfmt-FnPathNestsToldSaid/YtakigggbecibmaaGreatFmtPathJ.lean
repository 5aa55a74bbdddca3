/- childrenOf of a sum. -/
import Derived.Test.YtakigggbecibmaaGreatFmtPathH
namespace Go.Proofs.YtakigggbecibmaaGreatFmt
open Go.RowKit
set_option maxRecDepth 100000
set_option maxHeartbeats 8000000
attribute [local go_sem] Tryz.taMissComment Tryz.taMissCommentGroup Tryz.taMissField Tryz.taMissFieldList Tryz.taMissBadExpr Tryz.taMissIdent Tryz.taMissBasicLit Tryz.taMissEllipsis Tryz.taMissFuncLit Tryz.taMissCompositeLit Tryz.taMissParenExpr Tryz.taMissSelectorExpr Tryz.taMissIndexExpr Tryz.taMissIndexListExpr Tryz.taMissSliceExpr Tryz.taMissTypeAssertExpr Tryz.taMissCallExpr Tryz.taMissStarExpr Tryz.taMissUnaryExpr Tryz.taMissBinaryExpr Tryz.taMissKeyValueExpr Tryz.taMissArrayType Tryz.taMissStructType Tryz.taMissFuncType Tryz.taMissInterfaceType Tryz.taMissMapType Tryz.taMissChanType Tryz.taMissBadStmt Tryz.taMissDeclStmt Tryz.taMissEmptyStmt Tryz.taMissLabeledStmt Tryz.taMissExprStmt Tryz.taMissSendStmt Tryz.taMissIncDecStmt Tryz.taMissAssignStmt Tryz.taMissGoStmt Tryz.taMissDeferStmt Tryz.taMissReturnStmt Tryz.taMissBranchStmt Tryz.taMissBlockStmt Tryz.taMissIfStmt Tryz.taMissCaseClause Tryz.taMissSwitchStmt Tryz.taMissTypeSwitchStmt Tryz.taMissCommClause Tryz.taMissSelectStmt Tryz.taMissForStmt Tryz.taMissRangeStmt Tryz.taMissImportSpec Tryz.taMissValueSpec Tryz.taMissTypeSpec Tryz.taMissBadDecl Tryz.taMissGenDecl Tryz.taMissFuncDecl Tryz.taMissFile Tryz.taMissPackage Tryz.taHitBinaryExpr Tryz.taHitValueSpec Tryz.taHitGenDecl Tryz.taHitFile Tryz.taHitIdent

theorem children_bin (w : World) (b : Nat) (x y : Value) (tx ty : TypeId) (px py : Value) (o lx hx ly hy : Int) (hb : Blk w b 82 #[x, .int .i64 o, .int .i64 12, y]) (ex : x = .iface tx px) (ey : y = .iface ty py) (h0 : 0 ≤ o) (h1 : o ≤ 99000) (hT : Tok w 12 ⟨#[43]⟩) (ox : NodeOk w tx px lx hx) (oy : NodeOk w ty py ly hy) (l1 : lx < o) (l2 : o < ly) (ho1 : Other w.heap.size w x (.iface 79 (ptr b))) (ho2 : Other w.heap.size w y (.iface 79 (ptr b))) :
    Calls Tryz.prog 26 #[.iface 79 (ptr b)] w (Kids w [x, tokV o (o + 1), y]) := by
  have k1 : w.cell? ⟨b, 1, none⟩ = some (.int .i64 o) := hb.cell 1
  have k2 : w.cell? ⟨b, 2, none⟩ = some (.int .i64 12) := hb.cell 2
  have hlt := hb.lt
  obtain ⟨i0, hi0, hz0, hz1, hz2⟩ := info_parts Tryz.infoNode
  have HI := Lib.hid (And.intro hi0 (And.intro hz0 (And.intro hz1 hz2)))
  have HBk := Lib.hid hb
  clear hb hi0 hz0 hz1 hz2
  have HT := Lib.hid hT
  have HO1 := Lib.hid ho1
  have EX := Lib.hid ex
  have EY := Lib.hid ey
  have HO2 := Lib.hid ho2
  have HO : Hid (∀ z ∈ [(x, lx), (y, ly), (tokV o (o + 1), o)], OkIt w z) := Lib.hid (by
    intro z hz
    simp only [List.mem_cons, List.not_mem_nil, or_false] at hz
    rcases hz with rfl | rfl | rfl
    · exact ⟨tx, px, hx, ex, ox⟩
    · exact ⟨ty, py, hy, ey, oy⟩
    · exact ⟨_, _, o + 1, rfl, tokNode_ok _ _ _⟩)
  have HE : Hid (∀ e w2, Kids w ((outer 2 1 [(x, lx), (y, ly), (tokV o (o + 1), o)]).map (·.1)) e w2 → Kids w [x, tokV o (o + 1), y] e w2) := Lib.hid (by rw [outer_three _ _ _ _ _ _ l1 l2]; exact fun _ _ h => h)
  have h1' : o ≤ 100000 := by omega
  clear hT ho1 ho2 ox oy l1 l2 ex ey
  go_enter Tryz.func26, Tryz.ntmps26
  go_wp2_with fail
  refine (inspect_of _ _ _ _ _ _ _ rfl (fun _ _ h => h.ret) (walk_bin _ w.heap.size w.heap.size (w.heap.size + 1) b _ x y _ _ tx ty px py EX.out EY.out (HBk.out.below (by go_grown) hlt) hlt (ClSt.start w _) (by simp only [World.size_alloc]; omega) (selfsame_ptr _ (by kernel_rfl) Tryz.underlying79 (by kernel_rfl)) (HO1.out.below (by go_grown)) (HO2.out.below (by go_grown)))).mono ?_
  rintro e w1 ⟨v1, rfl, hst, hb1⟩
  have hbw : Below w.heap.size w w1 := Below.trans (by go_grown) hb1
  have k1' := (hbw.cell (p := ⟨b, 1, none⟩) hlt).trans k1
  have k2' := (hbw.cell (p := ⟨b, 2, none⟩) hlt).trans k2
  have cn : w1.cell? ⟨w.heap.size, 0, none⟩ = some (.iface 79 (ptr b)) := hst.nbox.cell 0
  have cc : w1.cell? ⟨w.heap.size + 1, 0, none⟩ = some v1 := hst.cbox.cell 0
  have cca : ∀ o, (w1.alloc o).cell? ⟨w.heap.size + 1, 0, none⟩ = some v1 := fun o => (hst.cbox.alloc o).cell 0
  have HS := Lib.hid (And.intro hst hbw)
  clear hst hbw hb1
  go_wp2_with fail
  have hBz : w.heap.size ≤ w1.heap.size := HS.out.2.size
  have HB := Lib.hid HS.out.2
  go_region_law (first
    | (refine step_append_lst _ (by rfl) _ _ _ (by rfl) 52 i0 .nilIface 16 Tryz.underlying45 HI.out.1 HI.out.2.1 HI.out.2.2.1 HI.out.2.2.2 rfl w.heap.size v1 [x, y] (by rfl) (HS.out.1.lst.below (by go_grown)) ⟨w1.heap.size, 0, none⟩ 1 1 [tokV o (o + 1)] (by rfl) rfl (by decide) (cell_one_new _ _ _) (fun u hu => by cases List.mem_singleton.1 hu; rfl) (show 2 + 1 ≤ maxLen by decide) (show (2 + 1) * 16 ≤ 140737488355328 by decide) ?_; intro g' cap' w3 hrow hg hg'; obtain ⟨d0, d1, hnx⟩ := HS.out.1.app (u := tokV o (o + 1)) hBz (by go_grown) hrow hg hg'; have HN := Lib.hid hnx; clear hnx hrow hg hg')
    | (go_simp; go_at_call 35; refine (plusString_any _ (HT.out.below (HS.out.2.trans (by go_grown)))).mono ?_; rintro e wt ⟨rfl, rfl⟩)
    | (go_simp; go_at_call 34; refine (tok_any _ 1 _ h0 (by omega) (by decide) (by decide)).mono ?_; rintro e wt ⟨rfl, rfl⟩))
  all_goals (have hss := sortst_of (w := w) [(x, lx), (y, ly), (tokV o (o + 1), o)] HN.out.1 (HB.out.trans HN.out.2.1) HO.out)
  all_goals (go_wp2_with (go_at_call 37; refine (sort_3 _ _ _ _ _ _ hss rfl).mono ?_; rintro e w2 ⟨rfl, hs⟩; have hc2 := cell_sorted HN.out.1 hs; have HS2 := Lib.hid hs; clear hs))
  all_goals (go_ret; exact (HE.out) _ _ (kids_sorted HS2.out (by rw [outer_length]; rfl) rfl))
end Go.Proofs.YtakigggbecibmaaGreatFmt
