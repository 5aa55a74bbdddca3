/- The plain side of Apply: the calls of its two functions at the nodes of a tree, in order, without the program. -/
import Derived.Test.YtgimbgpebpippaaGreatDoorPure
namespace Go.Proofs.YtgimbgpebpippaaGreatDoor

/-- Where a node stands: the field and the index in its parent, and the parent's kind. -/
structure Spot where
  field : ByteArray
  index : Int
  parent : ByteArray
/-- A call of one of the two functions. -/
structure Vst where
  post : Bool
  kind : ByteArray
  text : ByteArray
  at_ : Spot
/-- What is asked: the kind below which nothing is visited, the number of calls behind the children at which all ends (0: never), which of the two functions there are. -/
structure Ask where
  skip : ByteArray
  stop : Int
  pre : Bool
  post : Bool
structure VSt where
  calls : List Vst
  ends : Int
abbrev fX : ByteArray := ⟨#[88]⟩
abbrev fY : ByteArray := ⟨#[89]⟩
abbrev fSel : ByteArray := ⟨#[83, 101, 108]⟩
abbrev fIndex : ByteArray := ⟨#[73, 110, 100, 101, 120]⟩
abbrev fFun : ByteArray := ⟨#[70, 117, 110]⟩
abbrev fArgs : ByteArray := ⟨#[65, 114, 103, 115]⟩
/-- The spot of the i-th node below one of a kind. -/
def spotOf (k : ByteArray) (i : Nat) : Spot :=
  if k = sBin ∧ i = 1 then ⟨fY, -1, k⟩ else if k = sIndex ∧ i = 1 then ⟨fIndex, -1, k⟩ else if k = sCall ∧ i = 0 then ⟨fFun, -1, k⟩ else if k = sCall then ⟨fArgs, (i : Int) - 1, k⟩ else ⟨fX, -1, k⟩
def preV (q : Ask) (k t : ByteArray) (p : Spot) (s : VSt) : VSt := if q.pre then { s with calls := s.calls ++ [⟨false, k, t, p⟩] } else s
def postV (q : Ask) (k t : ByteArray) (p : Spot) (s : VSt) : VSt × Bool := if q.post then (⟨s.calls ++ [⟨true, k, t, p⟩], s.ends + 1⟩, decide (s.ends + 1 ≠ q.stop)) else (s, true)
def leafV (q : Ask) (k t : ByteArray) (p : Spot) (s : VSt) : VSt × Bool := if q.pre = true ∧ k = q.skip then (preV q k t p s, true) else postV q k t p (preV q k t p s)
mutual
def walkN (q : Ask) : Node → Spot → VSt → VSt × Bool
  | .mk k t ks, p, s =>
    if q.pre = true ∧ k = q.skip then (preV q k t p s, true) else
    match walkL q k 0 ks (preV q k t p s) with
    | (s2, false) => (s2, false)
    | (s2, true) =>
      match (if k = sSel then leafV q sName t ⟨fSel, -1, k⟩ s2 else (s2, true)) with
      | (s3, false) => (s3, false)
      | (s3, true) => postV q k t p s3
def walkL (q : Ask) (k : ByteArray) : Nat → List Node → VSt → VSt × Bool
  | _, [], s => (s, true)
  | i, n :: ns, s =>
    match walkN q n (spotOf k i) s with
    | (s2, false) => (s2, false)
    | (s2, true) => walkL q k (i + 1) ns s2
end
/-! how many calls there are -/
mutual
def Node.size : Node → Nat
  | .mk _ _ ks => 2 + sizeL ks
def sizeL : List Node → Nat
  | [] => 0
  | n :: ns => n.size + sizeL ns
end
theorem preV_len (q : Ask) (k t : ByteArray) (p : Spot) (s : VSt) : (preV q k t p s).calls.length ≤ s.calls.length + 1 ∧ (preV q k t p s).ends = s.ends := by
  unfold preV; split <;> simp
theorem postV_len (q : Ask) (k t : ByteArray) (p : Spot) (s : VSt) : (postV q k t p s).1.calls.length ≤ s.calls.length + 1 ∧ (postV q k t p s).1.ends ≤ s.ends + 1 ∧ s.ends ≤ (postV q k t p s).1.ends := by
  unfold postV; split
  · refine ⟨by simp, ?_, ?_⟩ <;> simp only <;> omega
  · refine ⟨by simp, ?_, ?_⟩ <;> simp only <;> omega
theorem leafV_len (q : Ask) (k t : ByteArray) (p : Spot) (s : VSt) : (leafV q k t p s).1.calls.length ≤ s.calls.length + 2 ∧ (leafV q k t p s).1.ends ≤ s.ends + 1 ∧ s.ends ≤ (leafV q k t p s).1.ends := by
  have h := preV_len q k t p s
  have h2 := postV_len q k t p (preV q k t p s)
  unfold leafV; split
  · simp only; omega
  · omega
mutual
theorem walkN_len (q : Ask) : ∀ (n : Node) (p : Spot) (s : VSt), (walkN q n p s).1.calls.length ≤ s.calls.length + 2 * n.size ∧ (walkN q n p s).1.ends ≤ s.ends + n.size ∧ s.ends ≤ (walkN q n p s).1.ends
  | .mk k t ks, p, s => by
    have h0 := preV_len q k t p s
    have h1 := walkL_len q k 0 ks (preV q k t p s)
    simp only [walkN, Node.size]
    split
    · simp only; omega
    · split
      · rename_i s2 e
        rw [e] at h1
        simp only at h1 ⊢
        omega
      · rename_i s2 e
        rw [e] at h1
        simp only at h1
        have h2 := leafV_len q sName t ⟨fSel, -1, k⟩ s2
        split
        · rename_i s3 e3
          have : s3.calls.length ≤ s2.calls.length + 2 ∧ s3.ends ≤ s2.ends + 1 ∧ s2.ends ≤ s3.ends := by
            split at e3
            · rw [e3] at h2; exact h2
            · cases e3
          simp only; omega
        · rename_i s3 e3
          have : s3.calls.length ≤ s2.calls.length + 2 ∧ s3.ends ≤ s2.ends + 1 ∧ s2.ends ≤ s3.ends := by
            split at e3
            · rw [e3] at h2; exact h2
            · cases e3; omega
          have h3 := postV_len q k t p s3
          omega
theorem walkL_len (q : Ask) (k : ByteArray) : ∀ (i : Nat) (ns : List Node) (s : VSt), (walkL q k i ns s).1.calls.length ≤ s.calls.length + 2 * sizeL ns ∧ (walkL q k i ns s).1.ends ≤ s.ends + sizeL ns ∧ s.ends ≤ (walkL q k i ns s).1.ends
  | i, [], s => by simp only [walkL, sizeL]; omega
  | i, n :: ns, s => by
    have h1 := walkN_len q n (spotOf k i) s
    simp only [walkL, sizeL]
    split
    · rename_i s2 e
      rw [e] at h1
      simp only at h1 ⊢
      omega
    · rename_i s2 e
      rw [e] at h1
      simp only at h1
      have h2 := walkL_len q k (i + 1) ns s2
      omega
end
end Go.Proofs.YtgimbgpebpippaaGreatDoor
