/- A list of the call's own, of elements of some cells: nil, or a row of its own; append onto it. The visits as they lie in memory. -/
import Derived.Test.YtgimbgpebpippaaGreatDoorApMem
import Derived.Deep.RegionLaw
namespace Go.Proofs.YtgimbgpebpippaaGreatDoor
open Go.RowKit

/-- Nil and empty, or a row in a block from B on. -/
def LstS (w : World) (B : Nat) (t : TypeId) (size n : Nat) (v : Value) (xs : List Value) : Prop :=
  (v = .slice none 0 0 ∧ xs = [] ∧ n = 0) ∨ ∃ g cap, v = .slice (some ⟨g, 0, none⟩) n cap ∧ Row w g t size n xs cap ∧ B ≤ g
theorem LstS.own {w : World} {B : Nat} {t : TypeId} {size n : Nat} {v : Value} {xs : List Value} (h : LstS w B t size n v xs) : w.ownsRow 0 t size v n xs := by
  rcases h with ⟨rfl, rfl, rfl⟩ | ⟨g, cap, rfl, hr, _⟩
  · exact ⟨by simp, .inl ⟨rfl, rfl⟩⟩
  · exact hr.own 0 (Nat.zero_le _)
theorem LstS.same {w w' : World} {B : Nat} {t : TypeId} {size n : Nat} {v : Value} {xs : List Value} (h : LstS w B t size n v xs) (hb : ∀ g, v.ownBlock = some g → w'.heap[g]? = w.heap[g]?) : LstS w' B t size n v xs := by
  rcases h with ⟨rfl, rfl, rfl⟩ | ⟨g, cap, rfl, hr, hB⟩
  · exact .inl ⟨rfl, rfl, rfl⟩
  · exact .inr ⟨g, cap, rfl, hr.same (hb g (by simp [Value.ownBlock])), hB⟩
theorem LstS.lt {w : World} {B : Nat} {t : TypeId} {size n : Nat} {v : Value} {xs : List Value} (h : LstS w B t size n v xs) : ∀ g, v.ownBlock = some g → g < w.heap.size ∧ B ≤ g := by
  intro g hg
  rcases h with ⟨rfl, rfl, rfl⟩ | ⟨g', cap, rfl, hr, hB⟩
  · cases hg
  · have : g' = g := by simpa [Value.ownBlock] using hg
    subst this
    exact ⟨hr.lt, hB⟩
section
variable {P : Program} (w : World)
theorem wp_append_lsts {o : Oper} {a : Act} {K : Act → World → Prop} {Q : Exit → Act → World → Prop} (s x : Operand) (t : TypeId)
    (ho : o.op = .call { callee := .builtin .append, args := #[s, x], argTypes := #[t, t] })
    (e : TypeId) (i : TypeInfo) (z : Value) (size bytes : Nat) (ht : P.underlying t = some (.slice e)) (hi : P.info? e = some i) (hz : i.zero = some z)
    (hsize : i.size = size) (hby : i.bytes = bytes) (hzs : z.cells.size = size) (hsz : 0 < size)
    (B n : Nat) (v : Value) (xs : List Value) (hs : a.eval s = v) (hv : LstS w B e size n v xs)
    (ad : Addr) (m c : Nat) (news : List Value) (hx : a.eval x = .slice (some ad) m c) (hl : news.length = m * size) (hm : 0 < m) (hnews : ∀ j u, news[j]? = some u → w.cell? (ad.add j) = some u) (h1 : ∀ u ∈ news, u.oneCell' = true)
    (h63 : n + m ≤ maxLen) (hbytes : (n + m) * bytes ≤ 140737488355328)
    (h : ∀ g' cap' w', Row w' g' e size (n + m) (xs ++ news) cap' → w.grownBy w' v.ownBlock → (v.ownBlock = some g' ∨ g' = w.heap.size) → K (a.put o.dst (.slice (some ⟨g', 0, none⟩) (n + m) cap')) w') : o.wp P a w K Q := by
  obtain ⟨v', w', hrun, h2, h3, h4, h5⟩ := run_append_own_at (P := P) w 0 t o.type e i z size bytes ht hi hz hsize hby hzs hsz v n xs hv.own ad m c news hl hnews h1 h63 hbytes (Nat.zero_le _)
  unfold Oper.wp execOp
  simp only [ho, resolve, invoke, builtin, Sem.run_bind, Sem.run_pure, Result.andThen_ok, List.map_toArray, List.map_cons, List.map_nil, hs, hx, hrun]
  have h2' := h2.2
  rcases h2' with ⟨hv', hn0⟩ | ⟨g', cap', cur, rfl, _, _⟩
  · omega
  · refine h g' cap' w' (Row.of_own h2) h3 ?_
    rcases h5 with h5 | h5
    · left
      simpa [Value.ownBlock] using h5.symm
    · right
      simpa [Value.ownBlock] using h5
theorem wpList_append_lsts {ops : Array Oper} {rest : List Oper} {o : Oper} {a : Act} {Q : Exit → Act → World → Prop} (hgd : o.guard = none) (s x : Operand) (t : TypeId)
    (ho : o.op = .call { callee := .builtin .append, args := #[s, x], argTypes := #[t, t] })
    (e : TypeId) (i : TypeInfo) (z : Value) (size bytes : Nat) (ht : P.underlying t = some (.slice e)) (hi : P.info? e = some i) (hz : i.zero = some z)
    (hsize : i.size = size) (hby : i.bytes = bytes) (hzs : z.cells.size = size) (hsz : 0 < size)
    (B n : Nat) (v : Value) (xs : List Value) (hs : a.eval s = v) (hv : LstS w B e size n v xs)
    (ad : Addr) (m c : Nat) (news : List Value) (hx : a.eval x = .slice (some ad) m c) (hl : news.length = m * size) (hm : 0 < m) (hnews : ∀ j u, news[j]? = some u → w.cell? (ad.add j) = some u) (h1 : ∀ u ∈ news, u.oneCell' = true)
    (h63 : n + m ≤ maxLen) (hbytes : (n + m) * bytes ≤ 140737488355328)
    (h : ∀ g' cap' w', Row w' g' e size (n + m) (xs ++ news) cap' → w.grownBy w' v.ownBlock → (v.ownBlock = some g' ∨ g' = w.heap.size) → wpList P ops Q rest (a.put o.dst (.slice (some ⟨g', 0, none⟩) (n + m) cap')) w') : wpList P ops Q (o :: rest) a w :=
  wpList_plain hgd fun _ hK => wp_append_lsts w s x t ho e i z size bytes ht hi hz hsize hby hzs hsz B n v xs hs hv ad m c news hx hl hm hnews h1 h63 hbytes fun g' cap' w' h2 h3 h4 => hK _ _ (h g' cap' w' h2 h3 h4)
theorem step_append_lsts {ops : Array Oper} {o : Oper} {a : Act} {K : Act → World → Prop} {Q : Exit → Act → World → Prop} {E : Prop} (hgd : o.guard = none) (s x : Operand) (t : TypeId)
    (ho : o.op = .call { callee := .builtin .append, args := #[s, x], argTypes := #[t, t] })
    (e : TypeId) (i : TypeInfo) (z : Value) (size bytes : Nat) (ht : P.underlying t = some (.slice e)) (hi : P.info? e = some i) (hz : i.zero = some z)
    (hsize : i.size = size) (hby : i.bytes = bytes) (hzs : z.cells.size = size) (hsz : 0 < size)
    (B n : Nat) (v : Value) (xs : List Value) (hs : a.eval s = v) (hv : LstS w B e size n v xs)
    (ad : Addr) (m c : Nat) (news : List Value) (hx : a.eval x = .slice (some ad) m c) (hl : news.length = m * size) (hm : 0 < m) (hnews : ∀ j u, news[j]? = some u → w.cell? (ad.add j) = some u) (h1 : ∀ u ∈ news, u.oneCell' = true)
    (h63 : n + m ≤ maxLen) (hbytes : (n + m) * bytes ≤ 140737488355328)
    (h : ∀ g' cap' w', Row w' g' e size (n + m) (xs ++ news) cap' → w.grownBy w' v.ownBlock → (v.ownBlock = some g' ∨ g' = w.heap.size) → K (a.put o.dst (.slice (some ⟨g', 0, none⟩) (n + m) cap')) w') :
    if Region.wanted o (yielded ops a.tmps) = true then Oper.wp P o a w K Q else E := by
  have hw : Region.wanted o (yielded ops a.tmps) = true := by simp [Region.wanted, hgd]
  rw [if_pos hw]
  exact wp_append_lsts w s x t ho e i z size bytes ht hi hz hsize hby hzs hsz B n v xs hs hv ad m c news hx hl hm hnews h1 h63 hbytes h
end
/-! the visits in memory -/
def Vst.cells (v : Vst) : List Value := [.bool v.post, .string v.kind, .string v.text, .string v.at_.field, .int .i64 v.at_.index, .string v.at_.parent]
def cellsV : List Vst → List Value
  | [] => []
  | v :: vs => v.cells ++ cellsV vs
theorem cellsV_append (l m : List Vst) : cellsV (l ++ m) = cellsV l ++ cellsV m := by
  induction l with
  | nil => rfl
  | cons a l ih => simp [cellsV, ih]
theorem cellsV_length (l : List Vst) : (cellsV l).length = l.length * 6 := by
  induction l with
  | nil => rfl
  | cons a l ih => simp only [cellsV, List.length_append, List.length_cons, ih, Vst.cells, List.length_nil]; omega
theorem cellsV_get : ∀ {l : List Vst} {i : Nat} {v : Vst} (k : Nat), k < 6 → l[i]? = some v → (cellsV l)[i * 6 + k]? = v.cells[k]?
  | [], _, _, _, _, h => by simp at h
  | m :: ns, 0, v, k, hk, h => by
    simp at h; subst h
    rw [Nat.zero_mul, Nat.zero_add, cellsV, List.getElem?_append_left (by simpa [Vst.cells] using hk)]
  | m :: ns, i + 1, v, k, hk, h => by
    have := cellsV_get (l := ns) (i := i) (v := v) k hk (by simpa using h)
    rw [cellsV, List.getElem?_append_right (by simp [Vst.cells]; omega), ← this]
    congr 1
    simp [Vst.cells]; omega
theorem Vst.cells_one (v : Vst) : ∀ u ∈ v.cells, u.oneCell' = true := by
  intro u hu
  simp only [Vst.cells, List.mem_cons, List.not_mem_nil, or_false] at hu
  rcases hu with rfl | rfl | rfl | rfl | rfl | rfl <;> rfl
theorem add_zero_off (g j : Nat) : (⟨g, 0, none⟩ : Addr).add j = ⟨g, j, none⟩ := by
  unfold Addr.add; split <;> simp_all
/-- The cells of a block of the call's own, just made. -/
theorem cells_new {W : World} {T : TypeId} {l : List Value} {cs : Array Value} (hc : cs.toList = l) (n : Nat) (hn : n = W.heap.size) : ∀ j u, l[j]? = some u → (W.alloc (.cells cs T)).cell? ((⟨n, 0, none⟩ : Addr).add j) = some u := by
  subst hn; subst hc
  intro j u h
  rw [add_zero_off, World.cell?_alloc_new]
  simpa using h
end Go.Proofs.YtgimbgpebpippaaGreatDoor
