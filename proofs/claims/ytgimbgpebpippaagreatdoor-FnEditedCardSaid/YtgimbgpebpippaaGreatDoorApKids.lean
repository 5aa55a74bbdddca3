/- The plain side of Apply, kind by kind: one thing behind the other. -/
import Derived.Test.YtgimbgpebpippaaGreatDoorAst
import Derived.Test.YtgimbgpebpippaaGreatDoorApPure
namespace Go.Proofs.YtgimbgpebpippaaGreatDoor

/-- One thing behind the other, if one goes on. -/
def andThen (o : VSt × Bool) (f : VSt → VSt × Bool) : VSt × Bool := if o.2 = true then f o.1 else o
theorem andThen_false {o : VSt × Bool} {f : VSt → VSt × Bool} (h : o.2 = false) : andThen o f = o := by unfold andThen; rw [if_neg (by rw [h]; simp)]
theorem andThen_true {o : VSt × Bool} {f : VSt → VSt × Bool} (h : o.2 = true) : andThen o f = f o.1 := by unfold andThen; rw [if_pos h]
/-- The first function, and what is behind it where it does not say no. -/
def skipOr (q : Ask) (k t : ByteArray) (p : Spot) (s : VSt) (f : VSt → VSt × Bool) : VSt × Bool := if q.pre = true ∧ k = q.skip then (preV q k t p s, true) else f (preV q k t p s)
theorem walkL_cons (q : Ask) (k : ByteArray) (i : Nat) (n : Node) (ns : List Node) (s : VSt) : walkL q k i (n :: ns) s = andThen (walkN q n (spotOf k i) s) (walkL q k (i + 1) ns) := by
  rw [walkL]
  generalize walkN q n (spotOf k i) s = o
  obtain ⟨s, b⟩ := o
  cases b <;> rfl
theorem walkL_nil (q : Ask) (k : ByteArray) (i : Nat) (s : VSt) : walkL q k i [] s = (s, true) := by rw [walkL]
theorem walkN_ne {q : Ask} {k t : ByteArray} {ks : List Node} {p : Spot} {s : VSt} (h : k ≠ sSel) : walkN q (.mk k t ks) p s = skipOr q k t p s (fun s1 => andThen (walkL q k 0 ks s1) (postV q k t p)) := by
  rw [walkN]
  unfold skipOr
  by_cases hs : q.pre = true ∧ k = q.skip
  · rw [if_pos hs, if_pos hs]
  · simp only [if_neg hs, if_neg h]
    show _ = andThen (walkL q k 0 ks (preV q k t p s)) (postV q k t p)
    generalize walkL q k 0 ks (preV q k t p s) = o
    obtain ⟨s2, b⟩ := o
    cases b <;> rfl
theorem walkN_sel {q : Ask} {t : ByteArray} {ks : List Node} {p : Spot} {s : VSt} : walkN q (.mk sSel t ks) p s = skipOr q sSel t p s (fun s1 => andThen (andThen (walkL q sSel 0 ks s1) (leafV q sName t ⟨fSel, -1, sSel⟩)) (postV q sSel t p)) := by
  rw [walkN]
  unfold skipOr
  by_cases hs : q.pre = true ∧ sSel = q.skip
  · rw [if_pos hs, if_pos hs]
  · rw [if_neg hs, if_neg hs]
    show _ = andThen (andThen (walkL q sSel 0 ks (preV q sSel t p s)) (leafV q sName t ⟨fSel, -1, sSel⟩)) (postV q sSel t p)
    simp only [if_pos]
    generalize walkL q sSel 0 ks (preV q sSel t p s) = o
    obtain ⟨s2, b⟩ := o
    cases b
    · rfl
    · show (match leafV q sName t ⟨fSel, -1, sSel⟩ s2 with | (s3, false) => (s3, false) | (s3, true) => postV q sSel t p s3) = andThen (leafV q sName t ⟨fSel, -1, sSel⟩ s2) (postV q sSel t p)
      generalize leafV q sName t ⟨fSel, -1, sSel⟩ s2 = o
      obtain ⟨s3, b⟩ := o
      cases b <;> rfl
theorem walkN_leaf {q : Ask} {k t : ByteArray} {p : Spot} {s : VSt} (h : k ≠ sSel) : walkN q (.mk k t []) p s = skipOr q k t p s (postV q k t p) := by
  rw [walkN_ne h]; rfl
theorem leafV_eq {q : Ask} {t : ByteArray} {p : Spot} {s : VSt} : leafV q sName t p s = walkN q (.mk sName t []) p s := by
  rw [walkN_leaf (by decide)]; rfl
/-! more calls, never fewer -/
def Mono (f : VSt → VSt × Bool) : Prop := ∀ s, s.calls.length ≤ (f s).1.calls.length ∧ s.ends ≤ (f s).1.ends
theorem Mono.then {f g : VSt → VSt × Bool} (hf : Mono f) (hg : Mono g) : Mono (fun s => andThen (f s) g) := fun s => by
  have h1 := hf s
  have h2 := hg (f s).1
  simp only [andThen]
  split <;> omega
theorem preV_ge (q : Ask) (k t : ByteArray) (p : Spot) (s : VSt) : s.calls.length ≤ (preV q k t p s).calls.length ∧ s.ends = (preV q k t p s).ends := by
  unfold preV; split <;> simp
theorem postV_mono (q : Ask) (k t : ByteArray) (p : Spot) : Mono (postV q k t p) := fun s => by
  unfold postV; split
  · refine ⟨by simp, ?_⟩
    simp only; omega
  · simp
theorem skipOr_mono {q : Ask} {k t : ByteArray} {p : Spot} {f : VSt → VSt × Bool} (hf : Mono f) : Mono (fun s => skipOr q k t p s f) := fun s => by
  have h := preV_ge q k t p s
  have h2 := hf (preV q k t p s)
  simp only [skipOr]
  split
  · simp only; omega
  · omega
mutual
theorem walkN_mono (q : Ask) : ∀ (n : Node) (p : Spot), Mono (walkN q n p)
  | .mk k t ks, p => by
    by_cases h : k = sSel
    · subst h
      have hl : Mono (leafV q sName t ⟨fSel, -1, sSel⟩) := by
        have : leafV q sName t ⟨fSel, -1, sSel⟩ = fun s => skipOr q sName t ⟨fSel, -1, sSel⟩ s (postV q sName t ⟨fSel, -1, sSel⟩) := rfl
        rw [this]; exact skipOr_mono (postV_mono _ _ _ _)
      intro s
      rw [walkN_sel]
      exact skipOr_mono (((walkL_mono q sSel 0 ks).then hl).then (postV_mono _ _ _ _)) s
    · intro s
      rw [walkN_ne h]
      exact skipOr_mono ((walkL_mono q k 0 ks).then (postV_mono _ _ _ _)) s
theorem walkL_mono (q : Ask) (k : ByteArray) : ∀ (i : Nat) (ns : List Node), Mono (walkL q k i ns)
  | i, [], s => by rw [walkL_nil]; simp
  | i, n :: ns, s => by
    rw [walkL_cons]
    exact (walkN_mono q n (spotOf k i)).then (walkL_mono q k (i + 1) ns) s
end
/-- What a bound on the whole says of a part. -/
def Bd (o : VSt × Bool) : Prop := o.1.calls.length ≤ 40000 ∧ o.1.ends ≤ 40000
theorem Bd.first {o : VSt × Bool} {f : VSt → VSt × Bool} (hf : Mono f) (h : Bd (andThen o f)) : Bd o := by
  have h1 := hf o.1
  unfold Bd andThen at *
  split at h
  · omega
  · exact h
theorem Bd.start {f : VSt → VSt × Bool} {s : VSt} (hf : Mono f) (h : Bd (f s)) : s.calls.length ≤ 40000 ∧ s.ends ≤ 40000 := by
  have h1 := hf s
  unfold Bd at h
  omega
theorem Bd.snd {o : VSt × Bool} {f : VSt → VSt × Bool} (ho : o.2 = true) (h : Bd (andThen o f)) : Bd (f o.1) := by rwa [andThen_true ho] at h
/-! the nodes below a node, in the order of the fields -/
def kidsFrom (k : ByteArray) : Nat → List ANode → List (ANode × Spot)
  | _, [] => []
  | i, n :: ns => (n, spotOf k i) :: kidsFrom k (i + 1) ns
def selKid (n : ANode) : List (ANode × Spot) := if n.kind = sSel then [(.mk sName n.text none 0 [], ⟨fSel, -1, n.kind⟩)] else []
def kidsOf (n : ANode) : List (ANode × Spot) := kidsFrom n.kind 0 n.kids ++ selKid n
def walkC (q : Ask) : List (ANode × Spot) → VSt → VSt × Bool
  | [], s => (s, true)
  | c :: l, s => andThen (walkN q c.1.erase c.2 s) (walkC q l)
theorem walkC_mono (q : Ask) : ∀ l, Mono (walkC q l)
  | [], s => by simp [walkC]
  | c :: l, s => (walkN_mono q c.1.erase c.2).then (walkC_mono q l) s
theorem walkC_append (q : Ask) : ∀ (l m : List (ANode × Spot)) (s : VSt), walkC q (l ++ m) s = andThen (walkC q l s) (walkC q m)
  | [], m, s => by simp [walkC, andThen]
  | c :: l, m, s => by
    simp only [List.cons_append, walkC]
    cases h : (walkN q c.1.erase c.2 s).2
    · rw [andThen_false h, andThen_false h, andThen_false h]
    · rw [andThen_true h, andThen_true h, walkC_append q l m]
theorem walkC_from (q : Ask) (k : ByteArray) : ∀ (i : Nat) (ns : List ANode) (s : VSt), walkC q (kidsFrom k i ns) s = walkL q k i (eraseL ns) s
  | i, [], s => by rw [eraseL, walkL_nil]; rfl
  | i, n :: ns, s => by
    rw [eraseL, walkL_cons, kidsFrom, walkC]
    congr 1
    funext s1
    exact walkC_from q k (i + 1) ns s1
theorem kidsOf_sel (t : ByteArray) (A : Option Addr) (cap : Nat) (ks : List ANode) : kidsOf (.mk sSel t A cap ks) = kidsFrom sSel 0 ks ++ [(.mk sName t none 0 [], ⟨fSel, -1, sSel⟩)] := rfl
theorem kidsOf_ne {k : ByteArray} (h : k ≠ sSel) (t : ByteArray) (A : Option Addr) (cap : Nat) (ks : List ANode) : kidsOf (.mk k t A cap ks) = kidsFrom k 0 ks := by
  have : selKid (.mk k t A cap ks) = [] := if_neg h
  rw [kidsOf, this, List.append_nil]; rfl
/-- A node's walk by the nodes below it. -/
theorem walkN_kids (q : Ask) (n : ANode) (p : Spot) (s : VSt) : walkN q n.erase p s = skipOr q n.kind n.text p s (fun s1 => andThen (walkC q (kidsOf n) s1) (postV q n.kind n.text p)) := by
  obtain ⟨k, t, A, cap, ks⟩ := n
  simp only [ANode.erase, ANode.kind, ANode.text]
  by_cases h : k = sSel
  · subst h
    rw [walkN_sel, kidsOf_sel]
    congr 1
    funext s1
    rw [walkC_append, walkC_from]
    congr 2
    funext s2
    rw [leafV_eq]
    simp only [walkC, ANode.erase, eraseL]
    generalize walkN q (Node.mk sName t []) _ s2 = o
    obtain ⟨s3, b⟩ := o
    cases b <;> rfl
  · rw [walkN_ne h, kidsOf_ne h]
    congr 1
    funext s1
    rw [walkC_from]
end Go.Proofs.YtgimbgpebpippaaGreatDoor
