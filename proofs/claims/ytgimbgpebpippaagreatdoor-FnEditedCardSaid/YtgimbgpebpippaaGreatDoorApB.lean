/- isNil; what a client of Apply promises of its functions, and what apply then does. -/
import Derived.Test.YtgimbgpebpippaaGreatDoorApTa
import Derived.Test.YtgimbgpebpippaaGreatDoorApA
namespace Go.Proofs.YtgimbgpebpippaaGreatDoor
open Go.RowKit
set_option maxRecDepth 100000
set_option maxHeartbeats 8000000
attribute [local go_sem] Tryz.taMissComment Tryz.taMissCommentGroup Tryz.taMissField Tryz.taMissFieldList Tryz.taMissBadExpr Tryz.taMissIdent Tryz.taMissBasicLit Tryz.taMissEllipsis Tryz.taMissFuncLit Tryz.taMissCompositeLit Tryz.taMissParenExpr Tryz.taMissSelectorExpr Tryz.taMissIndexExpr Tryz.taMissIndexListExpr Tryz.taMissSliceExpr Tryz.taMissTypeAssertExpr Tryz.taMissCallExpr Tryz.taMissStarExpr Tryz.taMissUnaryExpr Tryz.taMissBinaryExpr Tryz.taMissKeyValueExpr Tryz.taMissArrayType Tryz.taMissStructType Tryz.taMissFuncType Tryz.taMissInterfaceType Tryz.taMissMapType Tryz.taMissChanType Tryz.taMissBadStmt Tryz.taMissDeclStmt Tryz.taMissEmptyStmt Tryz.taMissLabeledStmt Tryz.taMissExprStmt Tryz.taMissSendStmt Tryz.taMissIncDecStmt Tryz.taMissAssignStmt Tryz.taMissGoStmt Tryz.taMissDeferStmt Tryz.taMissReturnStmt Tryz.taMissBranchStmt Tryz.taMissBlockStmt Tryz.taMissIfStmt Tryz.taMissCaseClause Tryz.taMissSwitchStmt Tryz.taMissTypeSwitchStmt Tryz.taMissCommClause Tryz.taMissSelectStmt Tryz.taMissForStmt Tryz.taMissRangeStmt Tryz.taMissImportSpec Tryz.taMissValueSpec Tryz.taMissTypeSpec Tryz.taMissBadDecl Tryz.taMissGenDecl Tryz.taMissFuncDecl Tryz.taMissFile Tryz.taMissPackage

theorem isNil_any (x : AE) (w : World) : Calls Tryz.prog 85 #[x.val] w fun e w' => e = .returned (.bool false) ∧ w = w' := by
  cases x with
  | ident b nm =>
    unfold AE.val
    have th : ∀ w, (Instr.typeAssert (.iface 79 (.pointer (some ⟨b, 0, none⟩))) 59 79 true).run Tryz.prog w = .ok (.tuple #[.pointer (some ⟨b, 0, none⟩), .bool true]) w := ta_hit Tryz.underlying79 _ _
    go_enter Tryz.func85, Tryz.ntmps85
    go_wp2_with fail
    go_ret
    exact ⟨rfl, rfl⟩
  | lit b tx =>
    unfold AE.val
    have th : ∀ w, (Instr.typeAssert (.iface 125 (.pointer (some ⟨b, 0, none⟩))) 59 125 true).run Tryz.prog w = .ok (.tuple #[.pointer (some ⟨b, 0, none⟩), .bool true]) w := ta_hit Tryz.underlying125 _ _
    go_enter Tryz.func85, Tryz.ntmps85
    go_wp2_with fail
    go_ret
    exact ⟨rfl, rfl⟩
  | paren b x =>
    unfold AE.val
    have th : ∀ w, (Instr.typeAssert (.iface 71 (.pointer (some ⟨b, 0, none⟩))) 59 71 true).run Tryz.prog w = .ok (.tuple #[.pointer (some ⟨b, 0, none⟩), .bool true]) w := ta_hit Tryz.underlying71 _ _
    go_enter Tryz.func85, Tryz.ntmps85
    go_wp2_with fail
    go_ret
    exact ⟨rfl, rfl⟩
  | sel b x sb nm =>
    unfold AE.val
    have th : ∀ w, (Instr.typeAssert (.iface 129 (.pointer (some ⟨b, 0, none⟩))) 59 129 true).run Tryz.prog w = .ok (.tuple #[.pointer (some ⟨b, 0, none⟩), .bool true]) w := ta_hit Tryz.underlying129 _ _
    go_enter Tryz.func85, Tryz.ntmps85
    go_wp2_with fail
    go_ret
    exact ⟨rfl, rfl⟩
  | star b x =>
    unfold AE.val
    have th : ∀ w, (Instr.typeAssert (.iface 132 (.pointer (some ⟨b, 0, none⟩))) 59 132 true).run Tryz.prog w = .ok (.tuple #[.pointer (some ⟨b, 0, none⟩), .bool true]) w := ta_hit Tryz.underlying132 _ _
    go_enter Tryz.func85, Tryz.ntmps85
    go_wp2_with fail
    go_ret
    exact ⟨rfl, rfl⟩
  | unary b op x =>
    unfold AE.val
    have th : ∀ w, (Instr.typeAssert (.iface 135 (.pointer (some ⟨b, 0, none⟩))) 59 135 true).run Tryz.prog w = .ok (.tuple #[.pointer (some ⟨b, 0, none⟩), .bool true]) w := ta_hit Tryz.underlying135 _ _
    go_enter Tryz.func85, Tryz.ntmps85
    go_wp2_with fail
    go_ret
    exact ⟨rfl, rfl⟩
  | binary b op x y =>
    unfold AE.val
    have th : ∀ w, (Instr.typeAssert (.iface 139 (.pointer (some ⟨b, 0, none⟩))) 59 139 true).run Tryz.prog w = .ok (.tuple #[.pointer (some ⟨b, 0, none⟩), .bool true]) w := ta_hit Tryz.underlying139 _ _
    go_enter Tryz.func85, Tryz.ntmps85
    go_wp2_with fail
    go_ret
    exact ⟨rfl, rfl⟩
  | index b x y =>
    unfold AE.val
    have th : ∀ w, (Instr.typeAssert (.iface 142 (.pointer (some ⟨b, 0, none⟩))) 59 142 true).run Tryz.prog w = .ok (.tuple #[.pointer (some ⟨b, 0, none⟩), .bool true]) w := ta_hit Tryz.underlying142 _ _
    go_enter Tryz.func85, Tryz.ntmps85
    go_wp2_with fail
    go_ret
    exact ⟨rfl, rfl⟩
  | call b f g cap args =>
    unfold AE.val
    have th : ∀ w, (Instr.typeAssert (.iface 87 (.pointer (some ⟨b, 0, none⟩))) 59 87 true).run Tryz.prog w = .ok (.tuple #[.pointer (some ⟨b, 0, none⟩), .bool true]) w := ta_hit Tryz.underlying87 _ _
    go_enter Tryz.func85, Tryz.ntmps85
    go_wp2_with fail
    go_ret
    exact ⟨rfl, rfl⟩

/-- The parent at a cursor: the root's, or a tree. -/
def ParIn (w : World) (p : Option AE) (pv : Value) : Prop := match p with | none => ∃ u, pv = .iface 110 u | some P => pv = P.val ∧ P.In w
/-- The blocks of the parent's tree. -/
def parBlocks : Option AE → List Nat | none => [] | some P => P.blocks
/-- A cursor at a node, and all that is apart from what the client owns. -/
structure AtCur (w : World) (ba : Nat) (fp fq : Value) (own : List Nat) (x : AE) (p : Option AE) (pv : Value) (nm : ByteArray) (it : Value) (ix st idx : Int) : Prop where
  app : App w ba fp fq pv nm it x.val ix st
  xin : x.In w
  pin : ParIn w p pv
  idx : IdxIn ba it ix idx
  glob : Glob w
  aw : ba ∉ own ∧ 0 ∉ own
  ax : ∀ b ∈ x.blocks, b ∉ own ∧ b ≠ ba
  ap : ∀ b ∈ parBlocks p, b ∉ own ∧ b ≠ ba
/-- What a client's function does at a cursor. -/
def CbSo (CI : VSt → World → List Nat → Prop) (own : List Nat) (w : World) (s' : VSt) (r : Bool) (e : Ending) (w' : World) : Prop := ∃ own', e = .returned (.bool r) ∧ CI s' w' own' ∧ Kept own w w' ∧ Grows w.heap.size own own'
/-- A client: what it holds lies in blocks of its own; its functions note the calls. -/
structure Client (q : Ask) (ba : Nat) (fp fq : Value) (CI : VSt → World → List Nat → Prop) : Prop where
  kept : ∀ s w w' own, CI s w own → w.heap.size ≤ w'.heap.size → (∀ k ∈ own, w'.heap[k]? = w.heap[k]?) → CI s w' own
  lt : ∀ s w own, CI s w own → ∀ b ∈ own, b < w.heap.size
  pre : q.pre = true → ∃ F caps, fp = .func (.func F) #[] caps ∧ (∀ args w, (callFunc F args).run Tryz.prog w = .ok (.enter F args) w) ∧ ∀ w s own x p pv nm it ix st idx, CI s w own → s.calls.length ≤ 40000 → AtCur w ba fp fq own x p pv nm it ix st idx →
    Calls Tryz.prog F (#[cur ba] ++ caps) w (CbSo CI own w (preV q x.node.kind x.node.text (spotAt p nm idx) s) (decide (x.node.kind ≠ q.skip)))
  nopre : q.pre = false → fp = .nilFunc
  post : q.post = true → ∃ F caps, fq = .func (.func F) #[] caps ∧ (∀ args w, (callFunc F args).run Tryz.prog w = .ok (.enter F args) w) ∧ ∀ w s own x p pv nm it ix st idx, CI s w own → s.calls.length ≤ 40000 → s.ends ≤ 40000 → 0 ≤ s.ends → AtCur w ba fp fq own x p pv nm it ix st idx →
    Calls Tryz.prog F (#[cur ba] ++ caps) w (CbSo CI own w (postV q x.node.kind x.node.text (spotAt p nm idx) s).1 (postV q x.node.kind x.node.text (spotAt p nm idx) s).2)
  nopost : q.post = false → fq = .nilFunc
/-- The panic by which all ends. -/
abbrev abortP : Value := .iface 114 (.agg #[])
/-- What apply does: the calls that are due, and all stays but for what the client owns and the application; it ends as the calls say. -/
def ApSo (CI : VSt → World → List Nat → Prop) (ba : Nat) (cs : Array Value) (own : List Nat) (w : World) (o : VSt × Bool) (e : Ending) (w' : World) : Prop :=
  ∃ own', CI o.1 w' own' ∧ Kept (ba :: own) w w' ∧ Grows w.heap.size own own' ∧ ((e = .returned (.tuple #[]) ∧ o.2 = true ∧ Blk w' ba 123 cs) ∨ (e = .panicked [{ v := abortP, recovered := false }] ∧ o.2 = false ∧ ∃ cs', Blk w' ba 123 cs'))
/-- What a cursor held before: nothing, or a parent and a node. -/
def OldCur (pv0 nv0 : Value) : Prop := (pv0 = .nilIface ∧ nv0 = .nilIface) ∨ ∃ t u t' u', pv0 = .iface t u ∧ nv0 = .iface t' u'
end Go.Proofs.YtgimbgpebpippaaGreatDoor
