/- childrenOf of a declaration. -/
import Derived.Test.YtakigggbecibmaaGreatFmtPathH
namespace Go.Proofs.YtakigggbecibmaaGreatFmt
open Go.RowKit
set_option maxRecDepth 100000
set_option maxHeartbeats 8000000
attribute [local go_sem] Tryz.taMissComment Tryz.taMissCommentGroup Tryz.taMissField Tryz.taMissFieldList Tryz.taMissBadExpr Tryz.taMissIdent Tryz.taMissBasicLit Tryz.taMissEllipsis Tryz.taMissFuncLit Tryz.taMissCompositeLit Tryz.taMissParenExpr Tryz.taMissSelectorExpr Tryz.taMissIndexExpr Tryz.taMissIndexListExpr Tryz.taMissSliceExpr Tryz.taMissTypeAssertExpr Tryz.taMissCallExpr Tryz.taMissStarExpr Tryz.taMissUnaryExpr Tryz.taMissBinaryExpr Tryz.taMissKeyValueExpr Tryz.taMissArrayType Tryz.taMissStructType Tryz.taMissFuncType Tryz.taMissInterfaceType Tryz.taMissMapType Tryz.taMissChanType Tryz.taMissBadStmt Tryz.taMissDeclStmt Tryz.taMissEmptyStmt Tryz.taMissLabeledStmt Tryz.taMissExprStmt Tryz.taMissSendStmt Tryz.taMissIncDecStmt Tryz.taMissAssignStmt Tryz.taMissGoStmt Tryz.taMissDeferStmt Tryz.taMissReturnStmt Tryz.taMissBranchStmt Tryz.taMissBlockStmt Tryz.taMissIfStmt Tryz.taMissCaseClause Tryz.taMissSwitchStmt Tryz.taMissTypeSwitchStmt Tryz.taMissCommClause Tryz.taMissSelectStmt Tryz.taMissForStmt Tryz.taMissRangeStmt Tryz.taMissImportSpec Tryz.taMissValueSpec Tryz.taMissTypeSpec Tryz.taMissBadDecl Tryz.taMissGenDecl Tryz.taMissFuncDecl Tryz.taMissFile Tryz.taMissPackage Tryz.taHitBinaryExpr Tryz.taHitValueSpec Tryz.taHitGenDecl Tryz.taHitFile Tryz.taHitIdent

theorem children_decl (w : World) (b : Nat) (gS : Nat) (x : Value) (tx : TypeId) (px : Value) (lx hx : Int) (hb : Blk w b 91 #[.pointer none, .int .i64 11, .int .i64 85, .int .i64 0, .slice (some ⟨gS, 0, none⟩) 1 1, .int .i64 0]) (ex : x = .iface tx px) (hS : Blk w gS 266 #[x]) (hne : tx ≠ 88) (hT : Tok w 85 ⟨#[118, 97, 114]⟩) (ox : NodeOk w tx px lx hx) (l1 : 11 < lx) :
    Calls Tryz.prog 26 #[.iface 88 (ptr b)] w (Kids w [tokV 11 (11 + 3), x]) := by
  have k1 : w.cell? ⟨b, 1, none⟩ = some (.int .i64 11) := hb.cell 1
  have k2 : w.cell? ⟨b, 2, none⟩ = some (.int .i64 85) := hb.cell 2
  have k3 : w.cell? ⟨b, 3, none⟩ = some (.int .i64 0) := hb.cell 3
  have hlt := hb.lt
  obtain ⟨i0, hi0, hz0, hz1, hz2⟩ := info_parts Tryz.infoNode
  have HI := Lib.hid (And.intro hi0 (And.intro hz0 (And.intro hz1 hz2)))
  have HBk := Lib.hid hb
  clear hb hi0 hz0 hz1 hz2
  have HO : Hid (∀ z ∈ [(x, lx), (tokV 11 (11 + 3), 11)], OkIt w z) := Lib.hid (by
    intro z hz
    simp only [List.mem_cons, List.not_mem_nil, or_false] at hz
    rcases hz with rfl | rfl
    · exact ⟨tx, px, hx, ex, ox⟩
    · exact ⟨_, _, 11 + 3, rfl, tokNode_ok _ _ _⟩
  )
  have HE : Hid (∀ e w2, Kids w ((outer 1 1 [(x, lx), (tokV 11 (11 + 3), 11)]).map (·.1)) e w2 → Kids w [tokV 11 (11 + 3), x] e w2) := Lib.hid (by rw [outer_two _ _ _ _ l1]; exact fun _ _ h => h)
  have HT := Lib.hid hT
  have HSb := Lib.hid hS
  have EX := Lib.hid ex
  clear hT hS ox l1 ex
  go_enter Tryz.func26, Tryz.ntmps26
  go_wp2_with fail
  refine (inspect_of _ _ _ _ _ _ _ rfl (fun _ _ h => h.ret) (walk_decl _ w.heap.size w.heap.size (w.heap.size + 1) b _ gS 1 _ _ _ _ x tx px EX.out hlt HSb.out.lt hne (HBk.out.below (by go_grown) hlt) (HSb.out.below (by go_grown) HSb.out.lt) (ClSt.start w _) (by simp only [World.size_alloc]; omega) (selfsame_ptr _ (by kernel_rfl) Tryz.underlying88 (by kernel_rfl)))).mono ?_
  rintro e w1 ⟨v1, rfl, hst, hb1⟩
  have hbw : Below w.heap.size w w1 := Below.trans (by go_grown) hb1
  have k1' := (hbw.cell (p := ⟨b, 1, none⟩) hlt).trans k1
  have k2' := (hbw.cell (p := ⟨b, 2, none⟩) hlt).trans k2
  have k3' := (hbw.cell (p := ⟨b, 3, none⟩) hlt).trans k3
  have cn : w1.cell? ⟨w.heap.size, 0, none⟩ = some (.iface 88 (ptr b)) := hst.nbox.cell 0
  have cc : w1.cell? ⟨w.heap.size + 1, 0, none⟩ = some v1 := hst.cbox.cell 0
  have cca : ∀ o, (w1.alloc o).cell? ⟨w.heap.size + 1, 0, none⟩ = some v1 := fun o => (hst.cbox.alloc o).cell 0
  have HS := Lib.hid (And.intro hst hbw)
  clear hst hbw hb1
  go_wp2_with fail
  have hBz : w.heap.size ≤ w1.heap.size := HS.out.2.size
  have HB := Lib.hid HS.out.2
  go_region_law (first
    | (refine step_append_lst _ (by rfl) _ _ _ (by rfl) 52 i0 .nilIface 16 Tryz.underlying45 HI.out.1 HI.out.2.1 HI.out.2.2.1 HI.out.2.2.2 rfl w.heap.size v1 [x] (by rfl) (HS.out.1.lst.below (by go_grown)) ⟨w1.heap.size, 0, none⟩ 1 1 [tokV 11 (11 + 3)] (by rfl) rfl (by decide) (cell_one_new _ _ _) (fun u hu => by cases List.mem_singleton.1 hu; rfl) (show 1 + 1 ≤ maxLen by decide) (show (1 + 1) * 16 ≤ 140737488355328 by decide) ?_; intro g' cap' w3 hrow hg hg'; obtain ⟨d0, d1, hnx⟩ := HS.out.1.app (u := tokV 11 (11 + 3)) hBz (by go_grown) hrow hg hg'; have HN := Lib.hid hnx; clear hnx hrow hg hg')
    | (go_simp; go_at_call 35; refine (varString_any _ (HT.out.below (HS.out.2.trans (by go_grown)))).mono ?_; rintro e wt ⟨rfl, rfl⟩)
    | (go_simp; go_at_call 34; refine (tok_any 11 3 _ (by decide) (by decide) (by decide) (by decide)).mono ?_; rintro e wt ⟨rfl, rfl⟩))
  all_goals (have k3n := ((HB.out.trans HN.out.2.2).cell (p := ⟨b, 3, none⟩) hlt).trans k3)
  all_goals (have hss := sortst_of (w := w) [(x, lx), (tokV 11 (11 + 3), 11)] HN.out.1 (HB.out.trans HN.out.2.1) HO.out)
  all_goals (go_wp2_with (go_at_call 37; refine (sort_2 _ _ _ _ _ _ hss rfl).mono ?_; rintro e w2 ⟨rfl, hs⟩; have hc2 := cell_sorted HN.out.1 hs; have HS2 := Lib.hid hs; clear hs))
  all_goals (go_ret; exact (HE.out) _ _ (kids_sorted HS2.out (by rw [outer_length]; rfl) rfl))
end Go.Proofs.YtakigggbecibmaaGreatFmt
