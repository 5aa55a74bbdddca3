/- setField at each parent and field of an expression's tree. -/
import Derived.Test.YtgimbgpebpippaaGreatDoorFrLs
import Derived.RegionTactic
import Derived.Deep.RegionHeld3
namespace Go.Proofs.YtgimbgpebpippaaGreatDoor
open Go.RowKit
set_option maxRecDepth 100000
set_option maxHeartbeats 8000000
attribute [local go_sem] Tryz.taMissComment Tryz.taMissCommentGroup Tryz.taMissField Tryz.taMissFieldList Tryz.taMissBadExpr Tryz.taMissIdent Tryz.taMissBasicLit Tryz.taMissEllipsis Tryz.taMissFuncLit Tryz.taMissCompositeLit Tryz.taMissParenExpr Tryz.taMissSelectorExpr Tryz.taMissIndexExpr Tryz.taMissIndexListExpr Tryz.taMissSliceExpr Tryz.taMissTypeAssertExpr Tryz.taMissCallExpr Tryz.taMissStarExpr Tryz.taMissUnaryExpr Tryz.taMissBinaryExpr Tryz.taMissKeyValueExpr Tryz.taMissArrayType Tryz.taMissStructType Tryz.taMissFuncType Tryz.taMissInterfaceType Tryz.taMissMapType Tryz.taMissChanType Tryz.taMissBadStmt Tryz.taMissDeclStmt Tryz.taMissEmptyStmt Tryz.taMissLabeledStmt Tryz.taMissExprStmt Tryz.taMissSendStmt Tryz.taMissIncDecStmt Tryz.taMissAssignStmt Tryz.taMissGoStmt Tryz.taMissDeferStmt Tryz.taMissReturnStmt Tryz.taMissBranchStmt Tryz.taMissBlockStmt Tryz.taMissIfStmt Tryz.taMissCaseClause Tryz.taMissSwitchStmt Tryz.taMissTypeSwitchStmt Tryz.taMissCommClause Tryz.taMissSelectStmt Tryz.taMissForStmt Tryz.taMissRangeStmt Tryz.taMissImportSpec Tryz.taMissValueSpec Tryz.taMissTypeSpec Tryz.taMissBadDecl Tryz.taMissGenDecl Tryz.taMissFuncDecl Tryz.taMissFile Tryz.taMissPackage
theorem Tryz.taEIdent (v : Value) (w : World) : (Instr.typeAssert (.iface 79 v) 59 62 false).run Tryz.prog w = .ok (.iface 79 v) w := by kernel_rfl
theorem Tryz.taEBasicLit (v : Value) (w : World) : (Instr.typeAssert (.iface 125 v) 59 62 false).run Tryz.prog w = .ok (.iface 125 v) w := by kernel_rfl
theorem Tryz.taEParenExpr (v : Value) (w : World) : (Instr.typeAssert (.iface 71 v) 59 62 false).run Tryz.prog w = .ok (.iface 71 v) w := by kernel_rfl
theorem Tryz.taESelectorExpr (v : Value) (w : World) : (Instr.typeAssert (.iface 129 v) 59 62 false).run Tryz.prog w = .ok (.iface 129 v) w := by kernel_rfl
theorem Tryz.taEStarExpr (v : Value) (w : World) : (Instr.typeAssert (.iface 132 v) 59 62 false).run Tryz.prog w = .ok (.iface 132 v) w := by kernel_rfl
theorem Tryz.taEUnaryExpr (v : Value) (w : World) : (Instr.typeAssert (.iface 135 v) 59 62 false).run Tryz.prog w = .ok (.iface 135 v) w := by kernel_rfl
theorem Tryz.taEBinaryExpr (v : Value) (w : World) : (Instr.typeAssert (.iface 139 v) 59 62 false).run Tryz.prog w = .ok (.iface 139 v) w := by kernel_rfl
theorem Tryz.taEIndexExpr (v : Value) (w : World) : (Instr.typeAssert (.iface 142 v) 59 62 false).run Tryz.prog w = .ok (.iface 142 v) w := by kernel_rfl
theorem Tryz.taECallExpr (v : Value) (w : World) : (Instr.typeAssert (.iface 87 v) 59 62 false).run Tryz.prog w = .ok (.iface 87 v) w := by kernel_rfl
theorem taExpr (x : AE) (w : World) : (Instr.typeAssert x.val 59 62 false).run Tryz.prog w = .ok x.val w := by
  cases x with
  | ident b nm => exact Tryz.taEIdent _ w
  | lit b tx => exact Tryz.taEBasicLit _ w
  | paren b x => exact Tryz.taEParenExpr _ w
  | sel b x sb nm => exact Tryz.taESelectorExpr _ w
  | star b x => exact Tryz.taEStarExpr _ w
  | unary b op x => exact Tryz.taEUnaryExpr _ w
  | binary b op x y => exact Tryz.taEBinaryExpr _ w
  | index b x y => exact Tryz.taEIndexExpr _ w
  | call b f g cap args => exact Tryz.taECallExpr _ w
theorem sf_ParenX (b : Nat) (t : TypeId) (u old : Value) (w : World) (hE : ∀ w, (Instr.typeAssert (.iface t u) 59 62 false).run Tryz.prog w = .ok (.iface t u) w) (hc : w.cell? ⟨b, 1, none⟩ = some old) (hf : w.frozen? ⟨b, 1, none⟩ = false) :
    Calls Tryz.prog 74 #[.iface 71 (.pointer (some ⟨b, 0, none⟩)), .string ⟨#[88]⟩, .iface t u] w fun e w' => e = .returned (.tuple #[]) ∧ Sm (w.setCell ⟨b, 1, none⟩ (.iface t u)) w' := by
  have th : ∀ w, (Instr.typeAssert (.iface 71 (.pointer (some ⟨b, 0, none⟩))) 59 71 true).run Tryz.prog w = .ok (.tuple #[.pointer (some ⟨b, 0, none⟩), .bool true]) w := ta_hit Tryz.underlying71 _ _
  have zb := lt_of_cell hc
  have tr : ∀ w, (Instr.typeAssert (.iface 71 (.pointer (some ⟨b, 0, none⟩))) 59 110 true).run Tryz.prog w = .ok (.tuple #[.pointer none, .bool false]) w := fun w => by kernel_rfl
  go_enter Tryz.func74, Tryz.ntmps74
  go_wp2_with fail
  exact ⟨rfl, _, results_none rfl _ _ _, rfl, rfl, rfl, rfl, rfl⟩
theorem sf_StarX (b : Nat) (t : TypeId) (u old : Value) (w : World) (hE : ∀ w, (Instr.typeAssert (.iface t u) 59 62 false).run Tryz.prog w = .ok (.iface t u) w) (hc : w.cell? ⟨b, 1, none⟩ = some old) (hf : w.frozen? ⟨b, 1, none⟩ = false) :
    Calls Tryz.prog 74 #[.iface 132 (.pointer (some ⟨b, 0, none⟩)), .string ⟨#[88]⟩, .iface t u] w fun e w' => e = .returned (.tuple #[]) ∧ Sm (w.setCell ⟨b, 1, none⟩ (.iface t u)) w' := by
  have th : ∀ w, (Instr.typeAssert (.iface 132 (.pointer (some ⟨b, 0, none⟩))) 59 132 true).run Tryz.prog w = .ok (.tuple #[.pointer (some ⟨b, 0, none⟩), .bool true]) w := ta_hit Tryz.underlying132 _ _
  have zb := lt_of_cell hc
  have tr : ∀ w, (Instr.typeAssert (.iface 132 (.pointer (some ⟨b, 0, none⟩))) 59 110 true).run Tryz.prog w = .ok (.tuple #[.pointer none, .bool false]) w := fun w => by kernel_rfl
  go_enter Tryz.func74, Tryz.ntmps74
  go_wp2_with fail
  exact ⟨rfl, _, results_none rfl _ _ _, rfl, rfl, rfl, rfl, rfl⟩
theorem sf_UnaryX (b : Nat) (t : TypeId) (u old : Value) (w : World) (hE : ∀ w, (Instr.typeAssert (.iface t u) 59 62 false).run Tryz.prog w = .ok (.iface t u) w) (hc : w.cell? ⟨b, 2, none⟩ = some old) (hf : w.frozen? ⟨b, 2, none⟩ = false) :
    Calls Tryz.prog 74 #[.iface 135 (.pointer (some ⟨b, 0, none⟩)), .string ⟨#[88]⟩, .iface t u] w fun e w' => e = .returned (.tuple #[]) ∧ Sm (w.setCell ⟨b, 2, none⟩ (.iface t u)) w' := by
  have th : ∀ w, (Instr.typeAssert (.iface 135 (.pointer (some ⟨b, 0, none⟩))) 59 135 true).run Tryz.prog w = .ok (.tuple #[.pointer (some ⟨b, 0, none⟩), .bool true]) w := ta_hit Tryz.underlying135 _ _
  have zb := lt_of_cell hc
  have tr : ∀ w, (Instr.typeAssert (.iface 135 (.pointer (some ⟨b, 0, none⟩))) 59 110 true).run Tryz.prog w = .ok (.tuple #[.pointer none, .bool false]) w := fun w => by kernel_rfl
  go_enter Tryz.func74, Tryz.ntmps74
  go_wp2_with fail
  exact ⟨rfl, _, results_none rfl _ _ _, rfl, rfl, rfl, rfl, rfl⟩
theorem sf_SelX (b : Nat) (t : TypeId) (u old : Value) (w : World) (hE : ∀ w, (Instr.typeAssert (.iface t u) 59 62 false).run Tryz.prog w = .ok (.iface t u) w) (hc : w.cell? ⟨b, 0, none⟩ = some old) (hf : w.frozen? ⟨b, 0, none⟩ = false) :
    Calls Tryz.prog 74 #[.iface 129 (.pointer (some ⟨b, 0, none⟩)), .string ⟨#[88]⟩, .iface t u] w fun e w' => e = .returned (.tuple #[]) ∧ Sm (w.setCell ⟨b, 0, none⟩ (.iface t u)) w' := by
  have th : ∀ w, (Instr.typeAssert (.iface 129 (.pointer (some ⟨b, 0, none⟩))) 59 129 true).run Tryz.prog w = .ok (.tuple #[.pointer (some ⟨b, 0, none⟩), .bool true]) w := ta_hit Tryz.underlying129 _ _
  have zb := lt_of_cell hc
  have tr : ∀ w, (Instr.typeAssert (.iface 129 (.pointer (some ⟨b, 0, none⟩))) 59 110 true).run Tryz.prog w = .ok (.tuple #[.pointer none, .bool false]) w := fun w => by kernel_rfl
  go_enter Tryz.func74, Tryz.ntmps74
  go_wp2_with fail
  exact ⟨rfl, _, results_none rfl _ _ _, rfl, rfl, rfl, rfl, rfl⟩
theorem sf_SelS (b : Nat) (u old : Value) (w : World) (hc : w.cell? ⟨b, 1, none⟩ = some old) (hf : w.frozen? ⟨b, 1, none⟩ = false) (o : Option Addr) (hu : u = .pointer o) :
    Calls Tryz.prog 74 #[.iface 129 (.pointer (some ⟨b, 0, none⟩)), .string ⟨#[83, 101, 108]⟩, .iface 79 u] w fun e w' => e = .returned (.tuple #[]) ∧ Sm (w.setCell ⟨b, 1, none⟩ u) w' := by
  subst hu
  have hE : ∀ w, (Instr.typeAssert (.iface 79 (.pointer o)) 59 79 false).run Tryz.prog w = .ok (.pointer o) w := fun w => by kernel_rfl
  have th : ∀ w, (Instr.typeAssert (.iface 129 (.pointer (some ⟨b, 0, none⟩))) 59 129 true).run Tryz.prog w = .ok (.tuple #[.pointer (some ⟨b, 0, none⟩), .bool true]) w := ta_hit Tryz.underlying129 _ _
  have zb := lt_of_cell hc
  have tr : ∀ w, (Instr.typeAssert (.iface 129 (.pointer (some ⟨b, 0, none⟩))) 59 110 true).run Tryz.prog w = .ok (.tuple #[.pointer none, .bool false]) w := fun w => by kernel_rfl
  go_enter Tryz.func74, Tryz.ntmps74
  go_wp2_with fail
  exact ⟨rfl, _, results_none rfl _ _ _, rfl, rfl, rfl, rfl, rfl⟩
theorem sf_BinX (b : Nat) (t : TypeId) (u old : Value) (w : World) (hE : ∀ w, (Instr.typeAssert (.iface t u) 59 62 false).run Tryz.prog w = .ok (.iface t u) w) (hc : w.cell? ⟨b, 0, none⟩ = some old) (hf : w.frozen? ⟨b, 0, none⟩ = false) :
    Calls Tryz.prog 74 #[.iface 139 (.pointer (some ⟨b, 0, none⟩)), .string ⟨#[88]⟩, .iface t u] w fun e w' => e = .returned (.tuple #[]) ∧ Sm (w.setCell ⟨b, 0, none⟩ (.iface t u)) w' := by
  have th : ∀ w, (Instr.typeAssert (.iface 139 (.pointer (some ⟨b, 0, none⟩))) 59 139 true).run Tryz.prog w = .ok (.tuple #[.pointer (some ⟨b, 0, none⟩), .bool true]) w := ta_hit Tryz.underlying139 _ _
  have zb := lt_of_cell hc
  have tr : ∀ w, (Instr.typeAssert (.iface 139 (.pointer (some ⟨b, 0, none⟩))) 59 110 true).run Tryz.prog w = .ok (.tuple #[.pointer none, .bool false]) w := fun w => by kernel_rfl
  go_enter Tryz.func74, Tryz.ntmps74
  go_wp2_with fail
  exact ⟨rfl, _, results_none rfl _ _ _, rfl, rfl, rfl, rfl, rfl⟩
theorem sf_BinY (b : Nat) (t : TypeId) (u old : Value) (w : World) (hE : ∀ w, (Instr.typeAssert (.iface t u) 59 62 false).run Tryz.prog w = .ok (.iface t u) w) (hc : w.cell? ⟨b, 3, none⟩ = some old) (hf : w.frozen? ⟨b, 3, none⟩ = false) :
    Calls Tryz.prog 74 #[.iface 139 (.pointer (some ⟨b, 0, none⟩)), .string ⟨#[89]⟩, .iface t u] w fun e w' => e = .returned (.tuple #[]) ∧ Sm (w.setCell ⟨b, 3, none⟩ (.iface t u)) w' := by
  have th : ∀ w, (Instr.typeAssert (.iface 139 (.pointer (some ⟨b, 0, none⟩))) 59 139 true).run Tryz.prog w = .ok (.tuple #[.pointer (some ⟨b, 0, none⟩), .bool true]) w := ta_hit Tryz.underlying139 _ _
  have zb := lt_of_cell hc
  have tr : ∀ w, (Instr.typeAssert (.iface 139 (.pointer (some ⟨b, 0, none⟩))) 59 110 true).run Tryz.prog w = .ok (.tuple #[.pointer none, .bool false]) w := fun w => by kernel_rfl
  go_enter Tryz.func74, Tryz.ntmps74
  go_wp2_with fail
  exact ⟨rfl, _, results_none rfl _ _ _, rfl, rfl, rfl, rfl, rfl⟩
theorem sf_IdxX (b : Nat) (t : TypeId) (u old : Value) (w : World) (hE : ∀ w, (Instr.typeAssert (.iface t u) 59 62 false).run Tryz.prog w = .ok (.iface t u) w) (hc : w.cell? ⟨b, 0, none⟩ = some old) (hf : w.frozen? ⟨b, 0, none⟩ = false) :
    Calls Tryz.prog 74 #[.iface 142 (.pointer (some ⟨b, 0, none⟩)), .string ⟨#[88]⟩, .iface t u] w fun e w' => e = .returned (.tuple #[]) ∧ Sm (w.setCell ⟨b, 0, none⟩ (.iface t u)) w' := by
  have th : ∀ w, (Instr.typeAssert (.iface 142 (.pointer (some ⟨b, 0, none⟩))) 59 142 true).run Tryz.prog w = .ok (.tuple #[.pointer (some ⟨b, 0, none⟩), .bool true]) w := ta_hit Tryz.underlying142 _ _
  have zb := lt_of_cell hc
  have tr : ∀ w, (Instr.typeAssert (.iface 142 (.pointer (some ⟨b, 0, none⟩))) 59 110 true).run Tryz.prog w = .ok (.tuple #[.pointer none, .bool false]) w := fun w => by kernel_rfl
  go_enter Tryz.func74, Tryz.ntmps74
  go_wp2_with fail
  exact ⟨rfl, _, results_none rfl _ _ _, rfl, rfl, rfl, rfl, rfl⟩
theorem sf_IdxI (b : Nat) (t : TypeId) (u old : Value) (w : World) (hE : ∀ w, (Instr.typeAssert (.iface t u) 59 62 false).run Tryz.prog w = .ok (.iface t u) w) (hc : w.cell? ⟨b, 2, none⟩ = some old) (hf : w.frozen? ⟨b, 2, none⟩ = false) :
    Calls Tryz.prog 74 #[.iface 142 (.pointer (some ⟨b, 0, none⟩)), .string ⟨#[73, 110, 100, 101, 120]⟩, .iface t u] w fun e w' => e = .returned (.tuple #[]) ∧ Sm (w.setCell ⟨b, 2, none⟩ (.iface t u)) w' := by
  have th : ∀ w, (Instr.typeAssert (.iface 142 (.pointer (some ⟨b, 0, none⟩))) 59 142 true).run Tryz.prog w = .ok (.tuple #[.pointer (some ⟨b, 0, none⟩), .bool true]) w := ta_hit Tryz.underlying142 _ _
  have zb := lt_of_cell hc
  have tr : ∀ w, (Instr.typeAssert (.iface 142 (.pointer (some ⟨b, 0, none⟩))) 59 110 true).run Tryz.prog w = .ok (.tuple #[.pointer none, .bool false]) w := fun w => by kernel_rfl
  go_enter Tryz.func74, Tryz.ntmps74
  go_wp2_with fail
  exact ⟨rfl, _, results_none rfl _ _ _, rfl, rfl, rfl, rfl, rfl⟩
theorem sf_CallF (b : Nat) (t : TypeId) (u old : Value) (w : World) (hE : ∀ w, (Instr.typeAssert (.iface t u) 59 62 false).run Tryz.prog w = .ok (.iface t u) w) (hc : w.cell? ⟨b, 0, none⟩ = some old) (hf : w.frozen? ⟨b, 0, none⟩ = false) :
    Calls Tryz.prog 74 #[.iface 87 (.pointer (some ⟨b, 0, none⟩)), .string ⟨#[70, 117, 110]⟩, .iface t u] w fun e w' => e = .returned (.tuple #[]) ∧ Sm (w.setCell ⟨b, 0, none⟩ (.iface t u)) w' := by
  have th : ∀ w, (Instr.typeAssert (.iface 87 (.pointer (some ⟨b, 0, none⟩))) 59 87 true).run Tryz.prog w = .ok (.tuple #[.pointer (some ⟨b, 0, none⟩), .bool true]) w := ta_hit Tryz.underlying87 _ _
  have zb := lt_of_cell hc
  have tr : ∀ w, (Instr.typeAssert (.iface 87 (.pointer (some ⟨b, 0, none⟩))) 59 110 true).run Tryz.prog w = .ok (.tuple #[.pointer none, .bool false]) w := fun w => by kernel_rfl
  go_enter Tryz.func74, Tryz.ntmps74
  go_wp2_with fail
  exact ⟨rfl, _, results_none rfl _ _ _, rfl, rfl, rfl, rfl, rfl⟩
theorem sf_Root (b : Nat) (t : TypeId) (u old : Value) (w : World) (hc : w.cell? ⟨b, 0, none⟩ = some old) (hf : w.frozen? ⟨b, 0, none⟩ = false) :
    Calls Tryz.prog 74 #[.iface 110 (.pointer (some ⟨b, 0, none⟩)), .string ⟨#[78, 111, 100, 101]⟩, .iface t u] w fun e w' => e = .returned (.tuple #[]) ∧ Sm (w.setCell ⟨b, 0, none⟩ (.iface t u)) w' := by
  have th : ∀ w, (Instr.typeAssert (.iface 110 (.pointer (some ⟨b, 0, none⟩))) 59 110 true).run Tryz.prog w = .ok (.tuple #[.pointer (some ⟨b, 0, none⟩), .bool true]) w := fun w => by kernel_rfl
  have zb := lt_of_cell hc
  go_enter Tryz.func74, Tryz.ntmps74
  go_wp2_with fail
  exact ⟨rfl, _, results_none rfl _ _ _, rfl, rfl, rfl, rfl, rfl⟩
end Go.Proofs.YtgimbgpebpippaaGreatDoor
