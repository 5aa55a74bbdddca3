/- Laws of memory: a block known whole, a row with room behind it, append onto such a row. -/
import Derived.Below
import Derived.Laws.OwnMore
import Derived.Deep.Draws
import Derived.Maps.AppendAt
import Derived.OwnWalk
import Derived.RegionTactic
namespace Go.Proofs.YtgimbgpebpippaaGreatDoor
open Go.RowKit

/-- A block that is known whole, and not frozen. -/
def Blk (w : World) (g : Nat) (t : TypeId) (cs : Array Value) : Prop := w.heap[g]? = some (.cells cs t (0, 0))

section
variable {w w' : World} {g : Nat} {t : TypeId} {cs : Array Value}
theorem Blk.lt (h : Blk w g t cs) : g < w.heap.size := by
  rcases Nat.lt_or_ge g w.heap.size with hlt | hge
  · exact hlt
  · unfold Blk at h; rw [Array.getElem?_eq_none hge] at h; cases h
theorem Blk.cell (h : Blk w g t cs) (i : Nat) : w.cell? ⟨g, i, none⟩ = cs[i]? := by
  unfold Blk at h
  simp [World.cell?, h]
theorem Blk.frozen (h : Blk w g t cs) (i : Nat) : w.frozen? ⟨g, i, none⟩ = false := by
  unfold Blk at h
  simp [World.frozen?, h]
theorem Blk.below {B : Nat} (h : Blk w g t cs) (hb : Below B w w') (hg : g < B) : Blk w' g t cs := (hb.block g hg).trans h
theorem Blk.set_ (h : Blk w g t cs) (i : Nat) (u : Value) : Blk (w.setCell ⟨g, i, none⟩ u) g t (cs.setIfInBounds i u) := by
  unfold Blk at h ⊢
  simp [World.setCell, Array.getElem?_modify, h]
theorem Blk.far (h : Blk w g t cs) {p : Addr} (hp : g ≠ p.block) (u : Value) : Blk (w.setCell p u) g t cs := (Below.heap_setCell w p u g hp).trans h
theorem Blk.alloc (h : Blk w g t cs) (o : Obj) : Blk (w.alloc o) g t cs := (Below.heap_alloc w o g h.lt).trans h
theorem Blk.new (w : World) (t : TypeId) (cs : Array Value) : Blk (w.alloc (.cells cs t)) w.heap.size t cs := heap_alloc_new w _
theorem Blk.same (h : Blk w g t cs) (hw : w'.heap[g]? = w.heap[g]?) : Blk w' g t cs := hw.trans h
end

/-- A row in a block of its own: n elements of some cells each, with room for cap. -/
def Row (w : World) (g : Nat) (t : TypeId) (size n : Nat) (xs : List Value) (cap : Nat) : Prop :=
  xs.length = n * size ∧ n ≤ cap ∧ cap ≤ maxLen ∧ ∃ cur, Blk w g t cur ∧ cur.size = cap * size ∧ cur.toList.take (n * size) = xs

section
variable {w w' : World} {g : Nat} {t : TypeId} {size n : Nat} {xs : List Value} {cap : Nat}
theorem Row.cell {i : Nat} {v : Value} (h : Row w g t size n xs cap) (hi : xs[i]? = some v) : w.cell? ⟨g, i, none⟩ = some v := by
  obtain ⟨hl, hn, hm, cur, hb, hs, he⟩ := h
  rw [hb.cell]
  have hlt : i < xs.length := by
    rcases Nat.lt_or_ge i xs.length with h | h
    · exact h
    · rw [List.getElem?_eq_none h] at hi; cases hi
  rw [← he, List.getElem?_take, if_pos (by omega)] at hi
  simpa using hi
theorem Row.same (h : Row w g t size n xs cap) (hw : w'.heap[g]? = w.heap[g]?) : Row w' g t size n xs cap := by
  obtain ⟨hl, hn, hm, cur, hb, r⟩ := h
  exact ⟨hl, hn, hm, cur, hb.same hw, r⟩
theorem Row.lt (h : Row w g t size n xs cap) : g < w.heap.size := by
  obtain ⟨hl, hn, hm, cur, hb, r⟩ := h
  exact hb.lt
theorem Row.below {B : Nat} (h : Row w g t size n xs cap) (hb : Below B w w') (hg : g < B) : Row w' g t size n xs cap := h.same (hb.block g hg)
theorem Row.own (h : Row w g t size n xs cap) (base : Nat) (hb : base ≤ g) : w.ownsRow base t size (.slice (some ⟨g, 0, none⟩) n cap) n xs := by
  obtain ⟨hl, hn, hm, cur, hbk, hs, he⟩ := h
  exact ⟨hl, .inr ⟨g, cap, cur, rfl, hb, hbk, hn, hm, hs, he⟩⟩
theorem Row.of_own {base : Nat} (h : w.ownsRow base t size (.slice (some ⟨g, 0, none⟩) n cap) n xs) : Row w g t size n xs cap := by
  obtain ⟨hl, h⟩ := h
  rcases h with ⟨h, _⟩ | ⟨g', cap', cur, hv, _, hbk, hn, hm, hs, he⟩
  · cases h
  · injection hv with h1 h2 h3
    injection h1 with h1
    injection h1 with h1
    subst h1; subst h3
    exact ⟨hl, hn, hm, cur, hbk, hs, he⟩
theorem Row.new (w : World) (t : TypeId) (size : Nat) (cs : Array Value) (n : Nat) (h : cs.size = n * size) (hm : n ≤ maxLen) : Row (w.alloc (.cells cs t)) w.heap.size t size n cs.toList n :=
  ⟨by simpa using h, Nat.le_refl _, hm, cs, Blk.new w t cs, h, by rw [← h, ← Array.length_toList, List.take_length]⟩
end

section
variable {P : Program} (w : World)
/-- append onto a row of the call's own: where the new row lies is told. -/
theorem wp_append_row {o : Oper} {a : Act} {K : Act → World → Prop} {Q : Exit → Act → World → Prop} (s x : Operand) (t : TypeId)
    (ho : o.op = .call { callee := .builtin .append, args := #[s, x], argTypes := #[t, t] })
    (e : TypeId) (i : TypeInfo) (z : Value) (size bytes : Nat) (ht : P.underlying t = some (.slice e)) (hi : P.info? e = some i) (hz : i.zero = some z)
    (hsize : i.size = size) (hby : i.bytes = bytes) (hzs : z.cells.size = size) (hsz : 0 < size)
    (g cap n : Nat) (xs : List Value) (hs : a.eval s = .slice (some ⟨g, 0, none⟩) n cap) (hrow : Row w g e size n xs cap)
    (ad : Addr) (m c : Nat) (news : List Value) (hx : a.eval x = .slice (some ad) m c) (hl : news.length = m * size) (hnews : ∀ j u, news[j]? = some u → w.cell? (ad.add j) = some u) (h1 : ∀ u ∈ news, u.oneCell' = true)
    (h63 : n + m ≤ maxLen) (hbytes : (n + m) * bytes ≤ 140737488355328)
    (h : ∀ g' cap' w', Row w' g' e size (n + m) (xs ++ news) cap' → w.grownBy w' (some g) → (g' = g ∨ g' = w.heap.size) → K (a.put o.dst (.slice (some ⟨g', 0, none⟩) (n + m) cap')) w') : o.wp P a w K Q := by
  obtain ⟨v', w', hrun, h2, h3, h4, h5⟩ := run_append_own_at (P := P) w 0 t o.type e i z size bytes ht hi hz hsize hby hzs hsz _ n xs (hrow.own 0 (Nat.zero_le _)) ad m c news hl hnews h1 h63 hbytes (Nat.zero_le _)
  unfold Oper.wp execOp
  simp only [ho, resolve, invoke, builtin, Sem.run_bind, Sem.run_pure, Result.andThen_ok, List.map_toArray, List.map_cons, List.map_nil, hs, hx, hrun]
  have h2' := h2.2
  rcases h2' with ⟨hv, hn0⟩ | ⟨g', cap', cur, rfl, _, _⟩
  · have := h4.1 hv
    cases this.1
  · refine h g' cap' w' (Row.of_own h2) h3 ?_
    simpa [Value.ownBlock] using h5
theorem wpList_append_row {ops : Array Oper} {rest : List Oper} {o : Oper} {a : Act} {Q : Exit → Act → World → Prop} (hgd : o.guard = none) (s x : Operand) (t : TypeId)
    (ho : o.op = .call { callee := .builtin .append, args := #[s, x], argTypes := #[t, t] })
    (e : TypeId) (i : TypeInfo) (z : Value) (size bytes : Nat) (ht : P.underlying t = some (.slice e)) (hi : P.info? e = some i) (hz : i.zero = some z)
    (hsize : i.size = size) (hby : i.bytes = bytes) (hzs : z.cells.size = size) (hsz : 0 < size)
    (g cap n : Nat) (xs : List Value) (hs : a.eval s = .slice (some ⟨g, 0, none⟩) n cap) (hrow : Row w g e size n xs cap)
    (ad : Addr) (m c : Nat) (news : List Value) (hx : a.eval x = .slice (some ad) m c) (hl : news.length = m * size) (hnews : ∀ j u, news[j]? = some u → w.cell? (ad.add j) = some u) (h1 : ∀ u ∈ news, u.oneCell' = true)
    (h63 : n + m ≤ maxLen) (hbytes : (n + m) * bytes ≤ 140737488355328)
    (h : ∀ g' cap' w', Row w' g' e size (n + m) (xs ++ news) cap' → w.grownBy w' (some g) → (g' = g ∨ g' = w.heap.size) → wpList P ops Q rest (a.put o.dst (.slice (some ⟨g', 0, none⟩) (n + m) cap')) w') : wpList P ops Q (o :: rest) a w :=
  wpList_plain hgd fun _ hK => wp_append_row w s x t ho e i z size bytes ht hi hz hsize hby hzs hsz g cap n xs hs hrow ad m c news hx hl hnews h1 h63 hbytes fun g' cap' w' h2 h3 h4 => hK _ _ (h g' cap' w' h2 h3 h4)
theorem step_append_row {ops : Array Oper} {o : Oper} {a : Act} {K : Act → World → Prop} {Q : Exit → Act → World → Prop} {E : Prop} (hgd : o.guard = none) (s x : Operand) (t : TypeId)
    (ho : o.op = .call { callee := .builtin .append, args := #[s, x], argTypes := #[t, t] })
    (e : TypeId) (i : TypeInfo) (z : Value) (size bytes : Nat) (ht : P.underlying t = some (.slice e)) (hi : P.info? e = some i) (hz : i.zero = some z)
    (hsize : i.size = size) (hby : i.bytes = bytes) (hzs : z.cells.size = size) (hsz : 0 < size)
    (g cap n : Nat) (xs : List Value) (hs : a.eval s = .slice (some ⟨g, 0, none⟩) n cap) (hrow : Row w g e size n xs cap)
    (ad : Addr) (m c : Nat) (news : List Value) (hx : a.eval x = .slice (some ad) m c) (hl : news.length = m * size) (hnews : ∀ j u, news[j]? = some u → w.cell? (ad.add j) = some u) (h1 : ∀ u ∈ news, u.oneCell' = true)
    (h63 : n + m ≤ maxLen) (hbytes : (n + m) * bytes ≤ 140737488355328)
    (h : ∀ g' cap' w', Row w' g' e size (n + m) (xs ++ news) cap' → w.grownBy w' (some g) → (g' = g ∨ g' = w.heap.size) → K (a.put o.dst (.slice (some ⟨g', 0, none⟩) (n + m) cap')) w') :
    if Region.wanted o (yielded ops a.tmps) = true then Oper.wp P o a w K Q else E := by
  have hw : Region.wanted o (yielded ops a.tmps) = true := by simp [Region.wanted, hgd]
  rw [if_pos hw]
  exact wp_append_row w s x t ho e i z size bytes ht hi hz hsize hby hzs hsz g cap n xs hs hrow ad m c news hx hl hnews h1 h63 hbytes h
end

/-! assertions on interface values whose dynamic type is known -/
section
variable {P : Program} {T e : TypeId}
theorem ta_hit (hU : P.underlying T = some (.pointer e)) (X : TypeId) (v : Value) (w : World) : (Instr.typeAssert (.iface T v) X T true).run P w = .ok (.tuple #[v, .bool true]) w := by
  simp [Instr.typeAssert, run_underlying hU]
theorem ta_miss (hU : P.underlying T = some (.pointer e)) (hz : ∀ w, (zeroValue T).run P w = .ok (.pointer none) w) (X t : TypeId) (v : Value) (w : World) (h : t ≠ T) : (Instr.typeAssert (.iface t v) X T true).run P w = .ok (.tuple #[.pointer none, .bool false]) w := by
  simp [Instr.typeAssert, run_underlying hU, h, hz]
theorem ta_nil (hU : P.underlying T = some (.pointer e)) (hz : ∀ w, (zeroValue T).run P w = .ok (.pointer none) w) (X : TypeId) (w : World) : (Instr.typeAssert .nilIface X T true).run P w = .ok (.tuple #[.pointer none, .bool false]) w := by
  simp [Instr.typeAssert, run_underlying hU, hz]
end

theorem cells_three_new (w : World) (a b c : Value) (t : TypeId) : ∀ j u, ([a, b, c] : List Value)[j]? = some u → (w.alloc (.cells #[a, b, c] t)).cell? ((⟨w.heap.size, 0, none⟩ : Addr).add j) = some u := by
  intro j u h
  have e : (⟨w.heap.size, 0, none⟩ : Addr).add j = ⟨w.heap.size, j, none⟩ := by
    unfold Addr.add; split <;> simp_all
  rw [e, World.cell?_alloc_new]
  simpa using h

theorem results_struct {P : Program} {fn : Func} {p : Tmp} {T : TypeId} {tmps : Array Value} {a : Addr} {v : Value} {w : World} (hr : fn.results = #[.cell p T]) (hc : tmps.getD p undef = .pointer (some a)) (hl : (loadVar T a).run P w = .ok v w) :
    (results fn tmps).run P w = .ok v w := by
  rw [Array.getD_eq_getD_getElem?] at hc
  simp [results, hr, hc, asAddr, hl]
end Go.Proofs.YtgimbgpebpippaaGreatDoor
