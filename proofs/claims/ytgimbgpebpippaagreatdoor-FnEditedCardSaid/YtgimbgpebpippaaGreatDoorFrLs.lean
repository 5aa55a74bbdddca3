/- The lists of a node: list, and the methods of the lists of expressions. -/
import Derived.Test.YtgimbgpebpippaaGreatDoorFrBase
namespace Go.Proofs.YtgimbgpebpippaaGreatDoor
open Go.RowKit
set_option maxRecDepth 100000
set_option maxHeartbeats 8000000
attribute [local go_sem] Tryz.taMissComment Tryz.taMissCommentGroup Tryz.taMissField Tryz.taMissFieldList Tryz.taMissBadExpr Tryz.taMissIdent Tryz.taMissBasicLit Tryz.taMissEllipsis Tryz.taMissFuncLit Tryz.taMissCompositeLit Tryz.taMissParenExpr Tryz.taMissSelectorExpr Tryz.taMissIndexExpr Tryz.taMissIndexListExpr Tryz.taMissSliceExpr Tryz.taMissTypeAssertExpr Tryz.taMissCallExpr Tryz.taMissStarExpr Tryz.taMissUnaryExpr Tryz.taMissBinaryExpr Tryz.taMissKeyValueExpr Tryz.taMissArrayType Tryz.taMissStructType Tryz.taMissFuncType Tryz.taMissInterfaceType Tryz.taMissMapType Tryz.taMissChanType Tryz.taMissBadStmt Tryz.taMissDeclStmt Tryz.taMissEmptyStmt Tryz.taMissLabeledStmt Tryz.taMissExprStmt Tryz.taMissSendStmt Tryz.taMissIncDecStmt Tryz.taMissAssignStmt Tryz.taMissGoStmt Tryz.taMissDeferStmt Tryz.taMissReturnStmt Tryz.taMissBranchStmt Tryz.taMissBlockStmt Tryz.taMissIfStmt Tryz.taMissCaseClause Tryz.taMissSwitchStmt Tryz.taMissTypeSwitchStmt Tryz.taMissCommClause Tryz.taMissSelectStmt Tryz.taMissForStmt Tryz.taMissRangeStmt Tryz.taMissImportSpec Tryz.taMissValueSpec Tryz.taMissTypeSpec Tryz.taMissBadDecl Tryz.taMissGenDecl Tryz.taMissFuncDecl Tryz.taMissFile Tryz.taMissPackage
abbrev listT : TypeId := 335
/-- A list of expressions: the address of the field. -/
abbrev listV (a : Addr) : Value := .iface 335 (.agg #[.pointer (some a)])
theorem list_callArgs (b : Nat) (w : World) : Calls Tryz.prog 73 #[.iface 87 (.pointer (some ⟨b, 0, none⟩)), .string ⟨#[65, 114, 103, 115]⟩] w fun e w' => e = .returned (listV ⟨b, 2, none⟩) ∧ w = w' := by
  have th : ∀ w, (Instr.typeAssert (.iface 87 (.pointer (some ⟨b, 0, none⟩))) 59 87 true).run Tryz.prog w = .ok (.tuple #[.pointer (some ⟨b, 0, none⟩), .bool true]) w := ta_hit Tryz.underlying87 _ _
  go_enter Tryz.func73, Tryz.ntmps73
  go_wp2_with fail
  go_ret
  exact ⟨rfl, rfl⟩
theorem lt_of_cell {w : World} {b k : Nat} {v : Value} (h : w.cell? ⟨b, k, none⟩ = some v) : b < w.heap.size := by
  rcases Nat.lt_or_ge b w.heap.size with h1 | h1
  · exact h1
  · simp [World.cell?, Array.getElem?_eq_none h1] at h
theorem listLen_any (b k : Nat) (A : Option Addr) (n c : Nat) (w : World) (h : w.cell? ⟨b, k, none⟩ = some (.slice A n c)) :
    Calls Tryz.prog 339 #[.agg #[.pointer (some ⟨b, k, none⟩)]] w fun e w' => e = .returned (.int .i64 n) ∧ w' = w.alloc (.cells #[.pointer (some ⟨b, k, none⟩)] 335) := by
  have zb := lt_of_cell h
  go_enter Tryz.func339, Tryz.ntmps339
  go_wp2_with fail
  go_ret
  exact ⟨rfl, rfl⟩
theorem listAt_any (b k : Nat) (g n c i : Nat) (t : TypeId) (u : Value) (w : World) (h : w.cell? ⟨b, k, none⟩ = some (.slice (some ⟨g, 0, none⟩) n c)) (hi : i < n) (hc : w.cell? ⟨g, i, none⟩ = some (.iface t u)) :
    Calls Tryz.prog 337 #[.agg #[.pointer (some ⟨b, k, none⟩)], .int .i64 i] w fun e w' => e = .returned (.iface t u) ∧ w' = w.alloc (.cells #[.pointer (some ⟨b, k, none⟩)] 335) := by
  have zb := lt_of_cell h
  have zg := lt_of_cell hc
  have q1 : (0 : Int) ≤ (i : Int) := by omega
  have q2 : (i : Int) < (n : Int) := by omega
  go_enter Tryz.func337, Tryz.ntmps337
  go_wp2_with fail
  go_ret
  exact ⟨rfl, rfl⟩
end Go.Proofs.YtgimbgpebpippaaGreatDoor
