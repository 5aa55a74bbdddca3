/- childrenOf of a spec. -/
import Derived.Test.YtakigggbecibmaaGreatFmtPathH
namespace Go.Proofs.YtakigggbecibmaaGreatFmt
open Go.RowKit
set_option maxRecDepth 100000
set_option maxHeartbeats 8000000
attribute [local go_sem] Tryz.taMissComment Tryz.taMissCommentGroup Tryz.taMissField Tryz.taMissFieldList Tryz.taMissBadExpr Tryz.taMissIdent Tryz.taMissBasicLit Tryz.taMissEllipsis Tryz.taMissFuncLit Tryz.taMissCompositeLit Tryz.taMissParenExpr Tryz.taMissSelectorExpr Tryz.taMissIndexExpr Tryz.taMissIndexListExpr Tryz.taMissSliceExpr Tryz.taMissTypeAssertExpr Tryz.taMissCallExpr Tryz.taMissStarExpr Tryz.taMissUnaryExpr Tryz.taMissBinaryExpr Tryz.taMissKeyValueExpr Tryz.taMissArrayType Tryz.taMissStructType Tryz.taMissFuncType Tryz.taMissInterfaceType Tryz.taMissMapType Tryz.taMissChanType Tryz.taMissBadStmt Tryz.taMissDeclStmt Tryz.taMissEmptyStmt Tryz.taMissLabeledStmt Tryz.taMissExprStmt Tryz.taMissSendStmt Tryz.taMissIncDecStmt Tryz.taMissAssignStmt Tryz.taMissGoStmt Tryz.taMissDeferStmt Tryz.taMissReturnStmt Tryz.taMissBranchStmt Tryz.taMissBlockStmt Tryz.taMissIfStmt Tryz.taMissCaseClause Tryz.taMissSwitchStmt Tryz.taMissTypeSwitchStmt Tryz.taMissCommClause Tryz.taMissSelectStmt Tryz.taMissForStmt Tryz.taMissRangeStmt Tryz.taMissImportSpec Tryz.taMissValueSpec Tryz.taMissTypeSpec Tryz.taMissBadDecl Tryz.taMissGenDecl Tryz.taMissFuncDecl Tryz.taMissFile Tryz.taMissPackage Tryz.taHitBinaryExpr Tryz.taHitValueSpec Tryz.taHitGenDecl Tryz.taHitFile Tryz.taHitIdent

theorem children_spec (w : World) (b gN gV bV : Nat) (nm : ByteArray) (x : Value) (tx : TypeId) (px : Value) (lx hx : Int) (hb : Blk w b 87 #[.pointer none, .slice (some ⟨gN, 0, none⟩) 1 1, .nilIface, .slice (some ⟨gV, 0, none⟩) 1 1, .pointer none]) (ex : x = .iface tx px)
    (hN : Blk w gN 68 #[ptr bV]) (hG : Blk w gV 75 #[x]) (hV : Blk w bV 78 (identCells 15 nm)) (h2 : nm.size ≤ 1000) (hne : tx ≠ 83) (ox : NodeOk w tx px lx hx) (l1 : 15 ≤ lx) :
    Calls Tryz.prog 26 #[.iface 83 (ptr b)] w (Kids w [.iface 68 (ptr bV), x]) := by
  have hlt := hb.lt
  have HBk := Lib.hid hb
  have HO : Hid (∀ z ∈ [(.iface 68 (ptr bV), 15), (x, lx)], OkIt w z) := Lib.hid (by
    intro z hz
    simp only [List.mem_cons, List.not_mem_nil, or_false] at hz
    rcases hz with rfl | rfl
    · exact ⟨_, _, 15 + nm.size, rfl, ident_ok _ _ _ w hV (show (0 : Int) ≤ 15 by decide) (show (15 : Int) ≤ 100000 by decide) h2⟩
    · exact ⟨tx, px, hx, ex, ox⟩
  )
  have HE : Hid (∀ e w2, Kids w ((outer 1 1 [(.iface 68 (ptr bV), 15), (x, lx)]).map (·.1)) e w2 → Kids w [.iface 68 (ptr bV), x] e w2) := Lib.hid (by rw [outer_same _ _ _ _ l1]; exact fun _ _ h => h)
  have HNb := Lib.hid hN
  have HG := Lib.hid hG
  have EX := Lib.hid ex
  clear hb hN hG hV ox l1 ex
  go_enter Tryz.func26, Tryz.ntmps26
  go_wp2_with fail
  refine (inspect_of _ _ _ _ _ _ _ rfl (fun _ _ h => h.ret) (walk_spec _ w.heap.size w.heap.size (w.heap.size + 1) b _ gN 1 gV 1 bV x tx px EX.out hlt HNb.out.lt HG.out.lt hne (HBk.out.below (by go_grown) hlt) (HNb.out.below (by go_grown) HNb.out.lt) (HG.out.below (by go_grown) HG.out.lt) (ClSt.start w _) (by simp only [World.size_alloc]; omega) (selfsame_ptr _ (by kernel_rfl) Tryz.underlying83 (by kernel_rfl)))).mono ?_
  rintro e w1 ⟨v1, rfl, hst, hb1⟩
  have hbw : Below w.heap.size w w1 := Below.trans (by go_grown) hb1
  rcases hst.lst with ⟨_, hno⟩ | ⟨g', cap', rfl, _, _⟩
  · cases hno
  have cn : w1.cell? ⟨w.heap.size, 0, none⟩ = some (.iface 83 (ptr b)) := hst.nbox.cell 0
  have cc := hst.cbox.cell 0
  have hss := sortst_of (w := w) [(.iface 68 (ptr bV), 15), (x, lx)] hst hbw HO.out
  have HS := Lib.hid (And.intro hst hbw)
  clear hst hbw hb1
  go_wp2_with (go_at_call 37; refine (sort_2 _ _ _ _ _ _ hss rfl).mono ?_; rintro e w2 ⟨rfl, hs⟩; have hc2 := cell_sorted HS.out.1 hs; have HS2 := Lib.hid hs; clear hs)
  go_ret
  exact (HE.out) _ _ (kids_sorted HS2.out (by rw [outer_length]; rfl) rfl)
end Go.Proofs.YtakigggbecibmaaGreatFmt
