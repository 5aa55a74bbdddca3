/- The frame of apply: what its parts promise, without a word on what the client does. -/
import Derived.Test.YtgimbgpebpippaaGreatDoorApB
import Derived.WalkLawsBesides
import Derived.Deep.QuietTactic
import Derived.BigQuiet
namespace Go.Proofs.YtgimbgpebpippaaGreatDoor
open Go.RowKit
set_option maxRecDepth 100000
set_option maxHeartbeats 8000000
theorem ParIn.iface {w : World} {p : Option AE} {pv : Value} (h : ParIn w p pv) : ∃ t u, pv = .iface t u := by
  cases p with
  | none => obtain ⟨u, rfl⟩ := h; exact ⟨_, _, rfl⟩
  | some P => obtain ⟨rfl, _⟩ := h; exact P.val_one
theorem IdxIn.ptr {ba : Nat} {it : Value} {ix idx : Int} (h : IdxIn ba it ix idx) : ∃ o, it = .pointer o := by
  rcases h with ⟨rfl, _⟩ | ⟨rfl, _⟩ <;> exact ⟨_, rfl⟩
theorem neqNil (w : World) : (binOp .neq 109 .nilFunc .nilFunc).run Tryz.prog w = .ok (.bool false) w := by kernel_rfl
theorem neqFunc (fn : Fn) (a c : Array Value) (w : World) : (binOp .neq 109 (.func fn a c) .nilFunc).run Tryz.prog w = .ok (.bool true) w := by kernel_rfl
theorem OldCur.one {pv0 nv0 : Value} (h : OldCur pv0 nv0) : pv0.oneCell' = true ∧ nv0.oneCell' = true := by
  rcases h with ⟨rfl, rfl⟩ | ⟨t, u, t', u', rfl, rfl⟩ <;> exact ⟨rfl, rfl⟩
/-- The world behind the cursor's setting. -/
def W7 (w : World) (ba : Nat) (pv : Value) (nm : ByteArray) (it nv : Value) (sv : Array Value) : World := (((((w.setCell ⟨ba, 2, none⟩ pv).setCell ⟨ba, 3, none⟩ (.string nm)).setCell ⟨ba, 4, none⟩ it).setCell ⟨ba, 5, none⟩ nv).alloc (.cells sv 119))
theorem W7_app {w : World} {ba : Nat} {fp fq pv0 nv0 it0 : Value} {nm0 : ByteArray} {ix st : Int} (h : App w ba fp fq pv0 nm0 it0 nv0 ix st) (pv : Value) (nm : ByteArray) (it nv : Value) (sv : Array Value) : App (W7 w ba pv nm it nv sv) ba fp fq pv nm it nv ix st :=
  ((((Blk.set_ h 2 pv).set_ 3 (.string nm)).set_ 4 it).set_ 5 nv).alloc _
theorem W7_saved (w : World) (ba : Nat) (pv : Value) (nm : ByteArray) (it nv : Value) (sv : Array Value) : Blk (W7 w ba pv nm it nv sv) w.heap.size 119 sv := by
  have := Blk.new ((((w.setCell ⟨ba, 2, none⟩ pv).setCell ⟨ba, 3, none⟩ (.string nm)).setCell ⟨ba, 4, none⟩ it).setCell ⟨ba, 5, none⟩ nv) 119 sv
  simpa [W7] using this
theorem W7_kept (w : World) (ba : Nat) (pv : Value) (nm : ByteArray) (it nv : Value) (sv : Array Value) : Kept [ba] w (W7 w ba pv nm it nv sv) := by
  have hm : ba ∈ [ba] := List.mem_cons_self
  exact (((((Kept.refl [ba] w).set (p := ⟨ba, 2, none⟩) (.inl hm) pv).set (p := ⟨ba, 3, none⟩) (.inl hm) (.string nm)).set (p := ⟨ba, 4, none⟩) (.inl hm) it).set (p := ⟨ba, 5, none⟩) (.inl hm) nv).alloc _
/-- The world behind the cursor's restoring. -/
def R4 (w : World) (ba : Nat) (pv : Value) (nm : ByteArray) (it nv : Value) : World := ((((w.setCell ⟨ba, 2, none⟩ pv).setCell ⟨ba, 3, none⟩ (.string nm)).setCell ⟨ba, 4, none⟩ it).setCell ⟨ba, 5, none⟩ nv)
/-- It speaks of memory alone. -/
def Heapy (R : World → Prop) : Prop := ∀ w w', Sm w w' → R w → R w'
/-- What a function of the client's, or none, does at a world: R says what it answers, and what then holds. -/
def FnSo (fv : Value) (ba : Nat) (w : World) (R : Bool → World → Prop) : Prop :=
  (fv = .nilFunc ∧ R true w) ∨ ∃ F cps, fv = .func (.func F) #[] cps ∧ (∀ args w, (callFunc F args).run Tryz.prog w = .ok (.enter F args) w) ∧
    ∀ w', Sm w w' → Calls Tryz.prog F (#[cur ba] ++ cps) w' fun e w'' => ∃ r, e = .returned (.bool r) ∧ R r w''
/-- The application's two functions, and the cursor that was saved. -/
def Fr (ba sb : Nat) (fp fq : Value) (sv : Array Value) (w : World) : Prop :=
  (∃ a b c d e f, Blk w ba 123 #[fp, fq, a, b, c, d, e, f]) ∧ Blk w sb 119 sv
theorem Fr.heapy (ba sb : Nat) (fp fq : Value) (sv : Array Value) : Heapy (Fr ba sb fp fq sv) := fun _ _ e h => by
  obtain ⟨⟨a, b, c, d, e', f, h1⟩, h2⟩ := h
  exact ⟨⟨a, b, c, d, e', f, h1.same (by rw [e.1])⟩, h2.same (by rw [e.1])⟩
/-- What apply does: it returns, the cursor as it was, or panics. -/
def FrOut (ba : Nat) (pv0 : Value) (nm0 : ByteArray) (it0 nv0 : Value) (R Pn : World → Prop) (e : Ending) (w' : World) : Prop :=
  (e = .returned (.tuple #[]) ∧ ∃ w1, R w1 ∧ w' = R4 w1 ba pv0 nm0 it0 nv0) ∨ (e = .panicked [{ v := abortP, recovered := false }] ∧ Pn w')
/-- What a part of apply's body does: it returns, or panics. -/
def ApOut (R Pn : World → Prop) (e : Ending) (w' : World) : Prop := (e = .returned (.tuple #[]) ∧ R w') ∨ (e = .panicked [{ v := abortP, recovered := false }] ∧ Pn w')
/-- What is below a node, as apply comes to it: from a world, what holds behind it (RC), or where it panics (PC). -/
abbrev KidsRule := World → (World → Prop) → (World → Prop) → Prop
/-- Nothing is below. -/
def kLeaf : KidsRule := fun w1 RC _ => RC w1
/-- An expression in a cell of the node's block. -/
def kOne (ba b c : Nat) (TV : Value) (nk : ByteArray) : KidsRule := fun w1 RC PC => ∃ tx vx, w1.cell? ⟨b, c, none⟩ = some (.iface tx vx) ∧
  ∀ w', Sm w1 w' → Calls Tryz.prog 68 #[.pointer (some ⟨ba, 0, none⟩), TV, .string nk, .pointer none, .iface tx vx] w' (ApOut RC PC)
/-- A pointer to a node of a type in a cell of the node's block. -/
def kPtr (ba b c : Nat) (TV : Value) (nk : ByteArray) (T : TypeId) : KidsRule := fun w1 RC PC => ∃ o, w1.cell? ⟨b, c, none⟩ = some (.pointer o) ∧
  ∀ w', Sm w1 w' → Calls Tryz.prog 68 #[.pointer (some ⟨ba, 0, none⟩), TV, .string nk, .pointer none, .iface T (.pointer o)] w' (ApOut RC PC)
/-- A list. -/
def kList (ba : Nat) (TV : Value) (nk : ByteArray) : KidsRule := fun w1 RC PC =>
  ∀ w', Sm w1 w' → Calls Tryz.prog 86 #[.pointer (some ⟨ba, 0, none⟩), TV, .string nk] w' (ApOut RC PC)
/-- One behind the other. -/
def kThen (K1 K2 : KidsRule) : KidsRule := fun w1 RC PC => ∃ M, K1 w1 M PC ∧ ∀ w2, M w2 → K2 w2 RC PC
/-- The frame of apply at a node: its parts' promises come together. -/
def FrameRule (ba : Nat) (TV : Value) (K : KidsRule) : Prop :=
  ∀ (w : World) (fp fq : Value) (t : TypeId) (u : Value) (nm : ByteArray) (o : Option Addr) (ix st : Int) (pv0 : Value) (nm0 : ByteArray) (o0 : Option Addr) (nv0 : Value) (R1 : Bool → World → Prop) (RC : World → Prop) (R2 : Bool → World → Prop) (PC : World → Prop),
    App w ba fp fq pv0 nm0 (.pointer o0) nv0 ix st → OldCur pv0 nv0 →
    FnSo fp ba (W7 w ba (.iface t u) nm (.pointer o) TV #[pv0, .string nm0, .pointer o0, nv0]) R1 → (∀ r, Heapy (R1 r)) → (∀ r w1, R1 r w1 → Fr ba w.heap.size fp fq #[pv0, .string nm0, .pointer o0, nv0] w1) →
    (∀ w1, R1 true w1 → K w1 RC PC) → Heapy RC → (∀ w1, RC w1 → Fr ba w.heap.size fp fq #[pv0, .string nm0, .pointer o0, nv0] w1) →
    (∀ w1, RC w1 → FnSo fq ba w1 R2) → (∀ r, Heapy (R2 r)) → (∀ r w1, R2 r w1 → Fr ba w.heap.size fp fq #[pv0, .string nm0, .pointer o0, nv0] w1) →
    Calls Tryz.prog 68 #[.pointer (some ⟨ba, 0, none⟩), .iface t u, .string nm, .pointer o, TV] w (FrOut ba pv0 nm0 (.pointer o0) nv0 (fun w1 => R1 false w1 ∨ R2 true w1) (fun w1 => PC w1 ∨ R2 false w1))
end Go.Proofs.YtgimbgpebpippaaGreatDoor
