/- What Unwrapped, Wrapped and Renamed make of a plain node, step by step. -/
import Derived.Test.YtgimbgpebpippaaGreatDoorPure
namespace Go.Proofs.YtgimbgpebpippaaGreatDoor
open Go.RowKit
set_option maxRecDepth 100000
/-- Renamed's way with a node. -/
def rpRen (fr tw : ByteArray) (_ : Bool) (n : Node) : Node := if n.kind = sName ∧ n.text = fr then .mk sName tw [] else n
/-- Unwrapped's. -/
def rpUn (_ : Bool) : Node → Node
  | .mk k t [c] => if k = sParen then c else .mk k t [c]
  | n => n
/-- Wrapped's. -/
def rpWrap (nm : ByteArray) (s : Bool) (n : Node) : Node := if n.kind = sName ∧ n.text = nm ∧ s = false then .mk sParen sEmpty [n] else n
/-! what a replacing client makes of a node -/
mutual
def Node.tr (rp : Bool → Node → Node) : Node → Node
  | .mk k t ks => rp false (.mk k (if k = sSel then (rp true (.mk sName t [])).text else t) (Node.trL rp ks))
def Node.trL (rp : Bool → Node → Node) : List Node → List Node
  | [] => []
  | n :: ns => n.tr rp :: Node.trL rp ns
end
theorem rpUn_ne {s : Bool} {k t : ByteArray} {ks : List Node} (h : k ≠ sParen) : rpUn s (.mk k t ks) = .mk k t ks := by
  unfold rpUn
  split
  · rename_i e
    injection e with e1 e2 e3
    subst e1 e2 e3
    rw [if_neg h]
  · rfl
theorem tr_un_paren (t : ByteArray) (c : Node) : (Node.mk sParen t [c]).tr rpUn = c.tr rpUn := by
  rw [Node.tr, if_neg (by decide), Node.trL, Node.trL, rpUn, if_pos rfl]
theorem tr_un_other {k : ByteArray} (t : ByteArray) (ks : List Node) (h : k ≠ sParen) : (Node.mk k t ks).tr rpUn = .mk k t (Node.trL rpUn ks) := by
  rw [Node.tr, rpUn_ne h]
  have e : (rpUn true (.mk sName t [])).text = t := by rw [rpUn_ne (by decide)]; rfl
  rw [e, ite_self]
theorem tr_wrap_name (nm t : ByteArray) : (Node.mk sName t []).tr (rpWrap nm) = if t = nm then .mk sParen sEmpty [.mk sName t []] else .mk sName t [] := by
  rw [Node.tr, if_neg (by decide), Node.trL, rpWrap]
  by_cases h : t = nm
  · rw [if_pos ⟨rfl, h, rfl⟩, if_pos h]
  · rw [if_neg (fun e => h e.2.1), if_neg h]
theorem tr_wrap_other {k : ByteArray} (nm t : ByteArray) (ks : List Node) (h : k ≠ sName) : (Node.mk k t ks).tr (rpWrap nm) = .mk k t (Node.trL (rpWrap nm) ks) := by
  rw [Node.tr]
  have e : (rpWrap nm true (.mk sName t [])).text = t := by rw [rpWrap, if_neg (by simp)]; rfl
  rw [e, ite_self, rpWrap, if_neg (fun e => h e.1)]
theorem tr_ren (fr tw k t : ByteArray) (ks : List Node) (h : k = sName → ks = []) : (Node.mk k t ks).tr (rpRen fr tw) = .mk k (if (k = sName ∨ k = sSel) ∧ t = fr then tw else t) (Node.trL (rpRen fr tw) ks) := by
  rw [Node.tr]
  by_cases hk : k = sName
  · subst hk
    rw [h rfl, if_neg (by decide), Node.trL, rpRen]
    by_cases ht : t = fr
    · rw [if_pos ⟨rfl, ht⟩, if_pos ⟨.inl rfl, ht⟩]
    · rw [if_neg (fun e => ht e.2), if_neg (fun e => ht e.2)]
  · by_cases hs : k = sSel
    · subst hs
      rw [if_pos rfl, rpRen, if_neg (by intro e; exact hk e.1), rpRen]
      by_cases ht : t = fr
      · rw [if_pos ⟨rfl, ht⟩, if_pos ⟨.inr rfl, ht⟩]; rfl
      · rw [if_neg (fun e => ht e.2), if_neg (fun e => ht e.2)]; rfl
    · rw [if_neg hs, rpRen, if_neg (fun e => hk e.1), if_neg (fun e => by rcases e.1 with e | e; exact hk e; exact hs e)]
end Go.Proofs.YtgimbgpebpippaaGreatDoor
