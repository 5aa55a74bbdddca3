/- visit at whatever node of the tree. -/
import Derived.Test.YtakigggbecibmaaGreatFmtPathP
import Derived.Test.YtakigggbecibmaaGreatFmtPathQ
import Derived.Test.YtakigggbecibmaaGreatFmtPathR
namespace Go.Proofs.YtakigggbecibmaaGreatFmt
open Go.RowKit
set_option maxRecDepth 100000

def nodeOut (k : Kid) : Out := match k.node with | none => .stop true | some x => .go x
theorem scan_two {A D : Int} {c d : Kid} (h1 : c.lo ≤ A) (h2 : D ≤ d.hi) : (c.hi ≤ A ∧ D ≤ d.lo ∧ scan A D none [c, d] = .stop false) ∨ (A < c.hi ∧ D ≤ d.lo ∧ scan A D none [c, d] = nodeOut c) ∨ (A < c.hi ∧ d.lo < D ∧ scan A D none [c, d] = .rest) ∨ (c.hi ≤ A ∧ d.lo < D ∧ scan A D none [c, d] = nodeOut d) := by
  by_cases e1 : c.hi ≤ A <;> by_cases e2 : D ≤ d.lo
  · exact .inl ⟨e1, e2, by simp [scan, e1, e2]⟩
  · refine .inr (.inr (.inr ⟨e1, by omega, ?_⟩))
    have e3 : ¬ A < c.hi := by omega
    simp [scan, look, nodeOut, e1, e2, e3, h2]
    try rfl
  · refine .inr (.inl ⟨by omega, e2, ?_⟩)
    simp [scan, look, nodeOut, e1, e2, h1]
    try rfl
  · refine .inr (.inr (.inl ⟨by omega, by omega, ?_⟩))
    have e3 : A < c.hi := by omega
    have e4 : d.lo < D := by omega
    simp [scan, look, e1, e2, e3, e4]
theorem scan_three {A D : Int} {c d e : Kid} (h1 : c.lo ≤ A) (h2 : D ≤ e.hi) : (c.hi ≤ A ∧ D ≤ d.lo ∧ scan A D none [c, d, e] = .stop false) ∨ (A < c.hi ∧ D ≤ d.lo ∧ scan A D none [c, d, e] = nodeOut c) ∨ (A < c.hi ∧ d.lo < D ∧ scan A D none [c, d, e] = .rest) ∨
    (c.hi ≤ A ∧ d.lo < D ∧ d.hi ≤ A ∧ D ≤ e.lo ∧ scan A D none [c, d, e] = .stop false) ∨ (c.hi ≤ A ∧ d.lo < D ∧ A < d.hi ∧ D ≤ e.lo ∧ scan A D none [c, d, e] = nodeOut d) ∨ (c.hi ≤ A ∧ d.lo < D ∧ A < d.hi ∧ e.lo < D ∧ scan A D none [c, d, e] = .rest) ∨
    (c.hi ≤ A ∧ d.lo < D ∧ d.hi ≤ A ∧ e.lo < D ∧ scan A D none [c, d, e] = nodeOut e) := by
  by_cases e1 : c.hi ≤ A <;> by_cases e2 : D ≤ d.lo
  · exact .inl ⟨e1, e2, by simp [scan, e1, e2]⟩
  · have e3 : ¬ A < c.hi := by omega
    by_cases f1 : d.hi ≤ A <;> by_cases f2 : D ≤ e.lo
    · exact .inr (.inr (.inr (.inl ⟨e1, by omega, f1, f2, by simp [scan, look, e1, e2, e3, f1, f2]⟩)))
    · refine .inr (.inr (.inr (.inr (.inr (.inr ⟨e1, by omega, f1, by omega, ?_⟩)))))
      have f3 : ¬ A < d.hi := by omega
      simp [scan, look, nodeOut, e1, e2, e3, f1, f2, f3, h2]
      try rfl
    · refine .inr (.inr (.inr (.inr (.inl ⟨e1, by omega, by omega, f2, ?_⟩))))
      simp [scan, look, nodeOut, e1, e2, e3, f1, f2]
      try rfl
    · refine .inr (.inr (.inr (.inr (.inr (.inl ⟨e1, by omega, by omega, by omega, ?_⟩)))))
      have f3 : A < d.hi := by omega
      have f4 : e.lo < D := by omega
      simp [scan, look, e1, e2, e3, f1, f2, f3, f4]
  · refine .inr (.inl ⟨by omega, e2, ?_⟩)
    simp [scan, look, nodeOut, e1, e2, h1]
    try rfl
  · refine .inr (.inr (.inl ⟨by omega, by omega, ?_⟩))
    have e3 : A < c.hi := by omega
    have e4 : d.lo < D := by omega
    simp [scan, look, e1, e2, e3, e4]
theorem scan_one {A D : Int} {c : Kid} (h1 : c.lo ≤ A) (h2 : D ≤ c.hi) : scan A D none [c] = nodeOut c := by
  simp [scan, look, nodeOut, h1, h2]
  try rfl

section
variable {ts : List Tm} {n : Nat} {ad : Ad} {w : World} (bp bs be bv : Nat)
/-- What is asked behind an outcome of the loop. -/
def OutR (w : World) (ad : Ad) (bp bs be bv : Nat) (A D lo hi : Int) (zs : List Value) (R : Ending → World → Prop) : Out → Prop
  | .stop r => ∀ w', St w w.heap.size bp bs be bv A D zs w' → R (.returned (.bool r)) w'
  | .rest => ∀ w', St w w.heap.size bp bs be bv A D zs w' → R (.returned (.bool (decide (A = lo ∧ D = hi)))) w'
  | .go y => ∀ w', St w w.heap.size bp bs be bv A D zs w' → Calls Tryz.prog 25 #[y.val ad, ptr bp, ptr bs, ptr be, ptr bv] w' R
theorem hit_of {k : Kid} {A D lo hi : Int} {zs : List Value} {R : Ending → World → Prop} (h : OutR w ad bp bs be bv A D lo hi zs R (nodeOut k)) : Hit w w.heap.size bp bs be bv A D zs (kidVal ad k) R := by
  unfold nodeOut at h
  unfold kidVal
  cases hk : k.node with
  | none => rw [hk] at h; exact .inl ⟨_, _, rfl, h⟩
  | some y => rw [hk] at h; exact .inr ⟨_, _, rfl, by cases y <;> simp [PN.typ], h⟩
variable (h : ∀ t ∈ ts, TmOk t) (hn : n < ts.length) (hl : ts.length ≤ 20) (hT : TreeIn w ts n ad) (h12 : Tok w 12 ⟨#[43]⟩) (h85 : Tok w 85 ⟨#[118, 97, 114]⟩)
include h hn hl hT h12 h85
theorem kids_then {x : PN} (hx : x.ok n) (w' : World) (hb : Below w.heap.size w w') : Calls Tryz.prog 26 #[x.val ad] w' (Kids w' ((kidsOf ts n x).map (kidVal ad))) :=
  children_any h hn hl (hT.below hb (Nat.le_refl _)) (h12.below hb) (h85.below hb) hx
omit h12 h85 in
theorem kid_ok {x : PN} (hx : x.ok n) : ∀ k ∈ kidsOf ts n x, ∃ t u, kidVal ad k = .iface t u ∧ NodeOk w t u (k.lo + 1) (k.hi + 1) := by
  have hs := pn_ok h hn hl hT (x := sumN n) (by cases n <;> simp [sumN, PN.ok])
  intro k hk
  cases x with
  | file =>
    simp only [kidsOf, List.mem_cons, List.not_mem_nil, or_false] at hk
    rcases hk with rfl | rfl | rfl
    · exact ⟨_, _, rfl, tokNode_ok _ _ _⟩
    · exact ⟨_, _, rfl, pn_ok h hn hl hT (x := .pkg) trivial⟩
    · exact ⟨_, _, rfl, pn_ok h hn hl hT (x := .decl) trivial⟩
  | decl =>
    simp only [kidsOf, List.mem_cons, List.not_mem_nil, or_false] at hk
    rcases hk with rfl | rfl
    · exact ⟨_, _, rfl, tokNode_ok _ _ _⟩
    · exact ⟨_, _, rfl, pn_ok h hn hl hT (x := .spec) trivial⟩
  | spec =>
    simp only [kidsOf, List.mem_cons, List.not_mem_nil, or_false] at hk
    rcases hk with rfl | rfl
    · exact ⟨_, _, rfl, pn_ok h hn hl hT (x := .var) trivial⟩
    · refine ⟨_, _, rfl, ?_⟩
      have e1 : plo ts (sumN n) = 18 := by cases n <;> simp [sumN, plo, tS]
      have e2 : phi ts n (sumN n) = tE ts n := by cases n <;> simp [sumN, phi]
      rw [e1, e2] at hs
      exact hs
  | pkg =>
    simp only [kidsOf, List.mem_cons, List.not_mem_nil, or_false] at hk
    subst hk
    exact ⟨_, _, rfl, tokNode_ok _ _ _⟩
  | var =>
    simp only [kidsOf, List.mem_cons, List.not_mem_nil, or_false] at hk
    subst hk
    exact ⟨_, _, rfl, tokNode_ok _ _ _⟩
  | term j =>
    simp only [kidsOf, List.mem_cons, List.not_mem_nil, or_false] at hk
    subst hk
    exact ⟨_, _, rfl, tokNode_ok _ _ _⟩
  | bin j =>
    obtain ⟨j, rfl⟩ : ∃ m, j = m + 1 := ⟨j - 1, by have := hx.1; omega⟩
    have hj : j + 1 ≤ n := hx.2
    simp only [kidsOf, List.mem_cons, List.not_mem_nil, or_false] at hk
    rcases hk with rfl | rfl | rfl
    · refine ⟨_, _, rfl, ?_⟩
      have hs := pn_ok h hn hl hT (x := sumN j) (by cases j <;> simp [sumN, PN.ok]; omega)
      have e1 : plo ts (sumN j) = 18 := by cases j <;> simp [sumN, plo, tS]
      have e2 : phi ts n (sumN j) = tE ts j := by cases j <;> simp [sumN, phi]
      rw [e1, e2] at hs
      exact hs
    · exact ⟨_, _, rfl, tokNode_ok _ _ _⟩
    · exact ⟨_, _, rfl, pn_ok h hn hl hT (x := .term (j + 1)) hj⟩
omit h hn hl hT h12 h85 in
/-- How the children lie: the first begins with the node, the last ends with it. -/
theorem kids_shape {x : PN} (hx : x.ok n) : (∃ c, kidsOf ts n x = [c] ∧ c.lo = plo ts x ∧ c.hi = phi ts n x) ∨ (∃ c d, kidsOf ts n x = [c, d] ∧ c.lo = plo ts x ∧ d.hi = phi ts n x) ∨ (∃ c d e, kidsOf ts n x = [c, d, e] ∧ c.lo = plo ts x ∧ e.hi = phi ts n x) := by
  cases x with
  | file => exact .inr (.inr ⟨_, _, _, rfl, rfl, rfl⟩)
  | decl => exact .inr (.inl ⟨_, _, rfl, rfl, rfl⟩)
  | spec => exact .inr (.inl ⟨_, _, rfl, rfl, rfl⟩)
  | pkg => exact .inl ⟨_, rfl, rfl, rfl⟩
  | var => exact .inl ⟨_, rfl, rfl, rfl⟩
  | term j => exact .inl ⟨_, rfl, rfl, rfl⟩
  | bin j =>
    obtain ⟨j, rfl⟩ : ∃ m, j = m + 1 := ⟨j - 1, by have := hx.1; omega⟩
    exact .inr (.inr ⟨_, _, _, rfl, rfl, rfl⟩)
theorem visit_step {x : PN} (hx : x.ok n) (w1 : World) (a b : Int) (v : Value) (xs : List Value) (hb : Below w.heap.size w w1) (hst : PathSt w1 w.heap.size bp bs be bv (a + 1) (b + 1) v xs) (hlen : xs.length ≤ 1000) (R : Ending → World → Prop)
    (hRb : ∀ e w', R e w' → ∃ r, e = .returned (.bool r))
    (hR : OutR w ad bp bs be bv (max a (plo ts x) + 1) (min b (phi ts n x) + 1) (plo ts x + 1) (phi ts n x + 1) (xs ++ [x.val ad]) R (scan (max a (plo ts x)) (min b (phi ts n x)) none (kidsOf ts n x))) :
    Calls Tryz.prog 25 #[x.val ad, ptr bp, ptr bs, ptr be, ptr bv] w1 R := by
  have hk := kid_ok h hn hl hT hx
  have hc := kids_then h hn hl hT h12 h85 hx
  have ox := pn_ok h hn hl hT hx
  have hfd : x.typ ≠ 63 := by cases x <;> simp [PN.typ]
  have eA : max (a + 1) (plo ts x + 1) = max a (plo ts x) + 1 := by omega
  have eD : min (b + 1) (phi ts n x + 1) = min b (phi ts n x) + 1 := by omega
  rcases kids_shape (ts := ts) hx with ⟨c, hks, e1, e2⟩ | ⟨c, d, hks, e1, e2⟩ | ⟨c, d, e, hks, e1, e2⟩
  · rw [hks] at hk hc hR
    obtain ⟨t0, p0, h0, o0⟩ := hk c (by simp)
    rw [scan_one (by omega) (by omega)] at hR
    rw [e1, e2] at o0
    refine visit_1 w w1 _ bp bs be bv (a + 1) (b + 1) (plo ts x + 1) (phi ts n x + 1) v _ _ _ xs rfl hfd rfl hb hst hlen ox (kidVal ad c) t0 p0 h0 o0 hc R hRb ?_
    rw [eA, eD]
    exact hit_of bp bs be bv hR
  · rw [hks] at hk hc hR
    obtain ⟨t0, p0, h0, o0⟩ := hk c (by simp)
    obtain ⟨t1, p1, h1, o1⟩ := hk d (by simp)
    rw [e1] at o0
    rw [e2] at o1
    refine visit_2 w w1 _ bp bs be bv (a + 1) (b + 1) (plo ts x + 1) (phi ts n x + 1) (d.lo + 1) (c.hi + 1) v _ _ _ xs rfl hfd rfl hb hst hlen ox (kidVal ad c) t0 p0 h0 o0 (kidVal ad d) t1 p1 h1 o1 hc R hRb ?_
    rw [eA, eD]
    rcases scan_two (A := max a (plo ts x)) (D := min b (phi ts n x)) (c := c) (d := d) (by omega) (by omega) with ⟨q1, q2, e⟩ | ⟨q1, q2, e⟩ | ⟨q1, q2, e⟩ | ⟨q1, q2, e⟩ <;> rw [e] at hR
    · exact .inl ⟨by omega, by omega, hR⟩
    · exact .inr (.inl ⟨by omega, by omega, hit_of bp bs be bv hR⟩)
    · exact .inr (.inr (.inl ⟨by omega, by omega, hR⟩))
    · exact .inr (.inr (.inr ⟨by omega, by omega, hit_of bp bs be bv hR⟩))
  · rw [hks] at hk hc hR
    obtain ⟨t0, p0, h0, o0⟩ := hk c (by simp)
    obtain ⟨t1, p1, h1, o1⟩ := hk d (by simp)
    obtain ⟨t2, p2, h2, o2⟩ := hk e (by simp)
    rw [e1] at o0
    rw [e2] at o2
    refine visit_3 w w1 _ bp bs be bv (a + 1) (b + 1) (plo ts x + 1) (phi ts n x + 1) (d.lo + 1) (e.lo + 1) (c.hi + 1) (d.hi + 1) v _ _ _ xs rfl hfd rfl hb hst hlen ox (kidVal ad c) t0 p0 h0 o0 (kidVal ad d) t1 p1 h1 o1 (kidVal ad e) t2 p2 h2 o2 hc R hRb ?_
    rw [eA, eD]
    rcases scan_three (A := max a (plo ts x)) (D := min b (phi ts n x)) (c := c) (d := d) (e := e) (by omega) (by omega) with ⟨q1, q2, ee⟩ | ⟨q1, q2, ee⟩ | ⟨q1, q2, ee⟩ | ⟨q1, q2, q3, q4, ee⟩ | ⟨q1, q2, q3, q4, ee⟩ | ⟨q1, q2, q3, q4, ee⟩ | ⟨q1, q2, q3, q4, ee⟩ <;> rw [ee] at hR
    · exact .inl ⟨by omega, by omega, hR⟩
    · exact .inr (.inl ⟨by omega, by omega, hit_of bp bs be bv hR⟩)
    · exact .inr (.inr (.inl ⟨by omega, by omega, hR⟩))
    · exact .inr (.inr (.inr (.inl ⟨by omega, by omega, by omega, by omega, hR⟩)))
    · exact .inr (.inr (.inr (.inr (.inl ⟨by omega, by omega, by omega, by omega, hit_of bp bs be bv hR⟩))))
    · exact .inr (.inr (.inr (.inr (.inr (.inl ⟨by omega, by omega, by omega, by omega, hR⟩)))))
    · exact .inr (.inr (.inr (.inr (.inr (.inr ⟨by omega, by omega, by omega, by omega, hit_of bp bs be bv hR⟩)))))
end
theorem look_go {a b aug augEnd hi : Int} {node : Option PN} {d : Out} {y : PN} (h : (look a b aug augEnd hi node).getD d = .go y) : node = some y ∨ d = .go y := by
  unfold look at h
  split at h
  · cases node with
    | none => simp at h
    | some x => left; simpa using h
  · split at h
    · simp at h
    · right; simpa using h
theorem scan_mem {a b : Int} {y : PN} : ∀ (ks : List Kid) (prev : Option Int), scan a b prev ks = .go y → ∃ k ∈ ks, k.node = some y
  | [], prev, h => by simp [scan] at h
  | [c], prev, h => by
    simp only [scan] at h
    rcases look_go h with h | h
    · exact ⟨c, by simp, h⟩
    · cases h
  | c :: d :: l, prev, h => by
    simp only [scan] at h
    split at h
    · cases h
    · rcases look_go h with h | h
      · exact ⟨c, by simp, h⟩
      · obtain ⟨k, hk, e⟩ := scan_mem (d :: l) _ h
        exact ⟨k, List.mem_cons_of_mem _ hk, e⟩
theorem kid_node_ok {ts : List Tm} {n : Nat} {x y : PN} (hx : x.ok n) {k : Kid} (hk : k ∈ kidsOf ts n x) (e : k.node = some y) : y.ok n := by
  cases x with
  | bin j =>
    obtain ⟨j, rfl⟩ : ∃ m, j = m + 1 := ⟨j - 1, by have := hx.1; omega⟩
    have hj : j + 1 ≤ n := hx.2
    simp only [kidsOf, List.mem_cons, List.not_mem_nil, or_false] at hk
    rcases hk with rfl | rfl | rfl <;> cases e
    · cases j <;> simp [sumN, PN.ok]; omega
    · exact hj
  | spec =>
    simp only [kidsOf, List.mem_cons, List.not_mem_nil, or_false] at hk
    rcases hk with rfl | rfl <;> cases e
    · trivial
    · cases n <;> simp [sumN, PN.ok]
  | file =>
    simp only [kidsOf, List.mem_cons, List.not_mem_nil, or_false] at hk
    rcases hk with rfl | rfl | rfl <;> cases e <;> trivial
  | decl =>
    simp only [kidsOf, List.mem_cons, List.not_mem_nil, or_false] at hk
    rcases hk with rfl | rfl <;> cases e <;> trivial
  | pkg =>
    simp only [kidsOf, List.mem_cons, List.not_mem_nil, or_false] at hk
    subst hk; cases e
  | var =>
    simp only [kidsOf, List.mem_cons, List.not_mem_nil, or_false] at hk
    subst hk; cases e
  | term j =>
    simp only [kidsOf, List.mem_cons, List.not_mem_nil, or_false] at hk
    subst hk; cases e
def Visited (w : World) (bp bs be bv : Nat) (r : Bool) (zs : List Value) (e : Ending) (w' : World) : Prop := e = .returned (.bool r) ∧ ∃ a b, St w w.heap.size bp bs be bv a b zs w'
section
variable {ts : List Tm} {n : Nat} {ad : Ad} {w : World} (bp bs be bv : Nat)
variable (h : ∀ t ∈ ts, TmOk t) (hn : n < ts.length) (hl : ts.length ≤ 20) (hT : TreeIn w ts n ad) (h12 : Tok w 12 ⟨#[43]⟩) (h85 : Tok w 85 ⟨#[118, 97, 114]⟩)
include h hn hl hT h12 h85
/-- visit: the path below a node, and what it answers. -/
theorem visit_any {x : PN} {a b : Int} {l : List PN} {r : Bool} (hv : Vis ts n x a b l r) : ∀ (_ : x.ok n) (w1 : World) (v : Value) (xs : List Value) (_ : Below w.heap.size w w1) (_ : PathSt w1 w.heap.size bp bs be bv (a + 1) (b + 1) v xs) (_ : xs.length + l.length ≤ 1000),
    Calls Tryz.prog 25 #[x.val ad, ptr bp, ptr bs, ptr be, ptr bv] w1 (Visited w bp bs be bv r (xs ++ l.map (PN.val ad))) := by
  induction hv with
  | stop hsc =>
    intro hx w1 v xs hb hst hlen
    refine visit_step bp bs be bv h hn hl hT h12 h85 hx w1 _ _ v xs hb hst (by omega) _ (fun e w' hr => ⟨_, hr.1⟩) ?_
    rw [hsc]
    intro w' hs
    exact ⟨rfl, _, _, hs⟩
  | rest hsc =>
    intro hx w1 v xs hb hst hlen
    refine visit_step bp bs be bv h hn hl hT h12 h85 hx w1 _ _ v xs hb hst (by omega) _ (fun e w' hr => ⟨_, hr.1⟩) ?_
    rw [hsc]
    intro w' hs
    refine ⟨?_, _, _, hs⟩
    congr 2
    exact decide_eq_decide.2 (by constructor <;> intro ⟨p, q⟩ <;> exact ⟨by omega, by omega⟩)
  | go hsc hy ih =>
    intro hx w1 v xs hb hst hlen
    refine visit_step bp bs be bv h hn hl hT h12 h85 hx w1 _ _ v xs hb hst (by simp only [List.length_cons] at hlen; omega) _ (fun e w' hr => ⟨_, hr.1⟩) ?_
    rw [hsc]
    intro w' hs
    obtain ⟨v', hp, hb'⟩ := hs
    obtain ⟨k, hk, e⟩ := scan_mem _ _ hsc
    have := ih (kid_node_ok hx hk e) w' v' _ hb' hp (by simp only [List.length_cons, List.length_append, List.length_nil] at hlen ⊢; omega)
    refine this.mono ?_
    intro e w'' hr
    simpa [List.append_assoc] using hr
end
end Go.Proofs.YtakigggbecibmaaGreatFmt
