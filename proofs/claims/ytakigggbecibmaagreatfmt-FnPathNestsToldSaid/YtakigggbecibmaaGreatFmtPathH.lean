/- childrenOf of each kind of node: its children, tokens among them, by where they begin. -/
import Derived.Test.YtakigggbecibmaaGreatFmtPathE
import Derived.Test.YtakigggbecibmaaGreatFmtPathG
import Derived.Deep.RegionLaw
namespace Go.Proofs.YtakigggbecibmaaGreatFmt
open Go.RowKit
set_option maxRecDepth 100000
set_option maxHeartbeats 4000000

section
variable {P : Program} (w : World)
theorem step_append_lst {ops : Array Oper} {o : Oper} {a : Act} {K : Act → World → Prop} {Q : Exit → Act → World → Prop} {E : Prop} (hgd : o.guard = none) (s x : Operand) (t : TypeId)
    (ho : o.op = .call { callee := .builtin .append, args := #[s, x], argTypes := #[t, t] })
    (e : TypeId) (i : TypeInfo) (z : Value) (bytes : Nat) (ht : P.underlying t = some (.slice e)) (hi : P.info? e = some i) (hz : i.zero = some z)
    (hsize : i.size = 1) (hby : i.bytes = bytes) (hzs : z.cells.size = 1)
    (B : Nat) (v : Value) (xs : List Value) (hs : a.eval s = v) (hv : Lst w B e v xs)
    (ad : Addr) (m c : Nat) (news : List Value) (hx : a.eval x = .slice (some ad) m c) (hl : news.length = m) (hm : 0 < m) (hnews : ∀ j u, news[j]? = some u → w.cell? (ad.add j) = some u) (h1 : ∀ u ∈ news, u.oneCell' = true)
    (h63 : xs.length + m ≤ maxLen) (hbytes : (xs.length + m) * bytes ≤ 140737488355328)
    (h : ∀ g' cap' w', Row w' g' e 1 (xs.length + m) (xs ++ news) cap' → w.grownBy w' v.ownBlock → (v.ownBlock = some g' ∨ g' = w.heap.size) → K (a.put o.dst (.slice (some ⟨g', 0, none⟩) (xs.length + m) cap')) w') :
    if Region.wanted o (yielded ops a.tmps) = true then Oper.wp P o a w K Q else E := by
  have hw : Region.wanted o (yielded ops a.tmps) = true := by simp [Region.wanted, hgd]
  rw [if_pos hw]
  exact wp_append_lst w s x t ho e i z bytes ht hi hz hsize hby hzs B v xs hs hv ad m c news hx hl hm hnews h1 h63 hbytes h
end
/-- What an append of one node leaves to the store behind it. -/
theorem ClSt.app {w w2 w3 : World} {B bn bc : Nat} {nv v u : Value} {xs : List Value} {g' cap' : Nat} (h : ClSt w B bn bc nv v xs) (hB : B ≤ w.heap.size) (h0 : Below w.heap.size w w2) (hrow : Row w3 g' 52 1 (xs.length + 1) (xs ++ [u]) cap') (hg : w2.grownBy w3 v.ownBlock)
    (hg' : v.ownBlock = some g' ∨ g' = w2.heap.size) : w3.cell? ⟨bc, 0, none⟩ = some v ∧ w3.frozen? ⟨bc, 0, none⟩ = false ∧
      ClSt (w3.setCell ⟨bc, 0, none⟩ (.slice (some ⟨g', 0, none⟩) (xs.length + 1) cap')) B bn bc nv (.slice (some ⟨g', 0, none⟩) (xs.length + 1) cap') (xs ++ [u]) ∧ Below B w (w3.setCell ⟨bc, 0, none⟩ (.slice (some ⟨g', 0, none⟩) (xs.length + 1) cap')) ∧ Below B w w3 := by
  have hc := h.cbox.lt
  have s0 := h0.size
  have k2 : w3.heap[bc]? = w.heap[bc]? := (hg.block bc (by omega) (fun e => h.far.2 e.symm)).trans (h0.block bc hc)
  have hb := h.cbox.same k2
  refine ⟨hb.cell 0, hb.frozen 0, (h.next hB h0 hrow hg hg').1, (h.next hB h0 hrow hg hg').2, (h0.mono hB).grown hg (by omega) ?_⟩
  intro k hk
  rcases h.lst with ⟨hv, _⟩ | ⟨g, cap, hv, _, hb⟩
  · rw [hv] at hk; cases hk
  · rw [hv] at hk
    have : g = k := by simpa [Value.ownBlock] using hk
    omega
abbrev tokV (a b : Int) : Value := .iface 62 (.agg #[.int .i64 a, .int .i64 b])
theorem Took.ret {w : World} {B bn bc : Nat} {nv r : Value} {xs : List Value} {e : Ending} {w' : World} (h : Took w B bn bc nv xs r e w') : e = .returned r := by
  obtain ⟨_, he, _⟩ := h
  exact he
theorem ClSt.start (w : World) (nv : Value) : ClSt ((w.alloc (.cells #[nv] 52)).alloc (.cells #[.slice none 0 0] 45)) w.heap.size w.heap.size (w.heap.size + 1) nv (.slice none 0 0) [] where
  nbox := (Blk.new w _ _).alloc _
  cbox := by
    have := Blk.new (w.alloc (.cells #[nv] 52)) 45 #[.slice none 0 0]
    rwa [World.size_alloc] at this
  lst := .inl ⟨rfl, rfl⟩
  far := ⟨by simp [Value.ownBlock], by simp [Value.ownBlock]⟩
  lo := ⟨Nat.le_refl _, by omega, by omega⟩
theorem selfsame_ptr {B : Nat} {w : World} {tp te : TypeId} (b : Nat) (hc : (Tryz.prog.info? tp).map (·.comparable) = some true) (hp : Tryz.prog.underlying tp = some (.pointer te)) (hte : (Tryz.prog.info? te).isSome = true) : Selfsame B w (.iface tp (ptr b)) := by
  intro w' _
  obtain ⟨i, hi, hcomp⟩ := Option.map_eq_some_iff.1 hc
  obtain ⟨j, hj⟩ := Option.isSome_iff_exists.1 hte
  exact run_eql_iface_ptr_same _ _ Tryz.underlying52 hp hi hcomp hj
def Kids (w : World) (vs : List Value) (e : Ending) (w' : World) : Prop := ∃ g cap, e = .returned (.slice (some ⟨g, 0, none⟩) vs.length cap) ∧ Row w' g 52 1 vs.length vs cap ∧ w.heap.size ≤ g ∧ Below w.heap.size w w'

theorem kids_of {w w' : World} {g n cap bn bc : Nat} {nv : Value} {xs : List Value} (h : ClSt w' w.heap.size bn bc nv (.slice (some ⟨g, 0, none⟩) n cap) xs) : n = xs.length ∧ Row w' g 52 1 xs.length xs cap ∧ w.heap.size ≤ g := by
  rcases h.lst with ⟨hv, _⟩ | ⟨g2, cap2, hv, hr, hb⟩
  · cases hv
  · injection hv with h1 h2 h3
    injection h1 with h1
    injection h1 with h1
    subst h1 h2 h3
    exact ⟨rfl, hr, hb⟩
theorem kids_end {w w' : World} {e : Ending} {g n cap bn bc : Nat} {nv : Value} {xs : List Value} (h : ClSt w' w.heap.size bn bc nv (.slice (some ⟨g, 0, none⟩) n cap) xs) (hb : Below w.heap.size w w') (he : e = .returned (.slice (some ⟨g, 0, none⟩) n cap)) : Kids w xs e w' := by
  obtain ⟨rfl, hr, hg⟩ := kids_of h
  exact ⟨g, cap, he, hr, hg, hb⟩
theorem inspect_of (w : World) (bn bc : Nat) (nv : Value) (tn : TypeId) (pn : Value) (R : Ending → World → Prop) (hn : nv = .iface tn pn) (hR : ∀ e w', R e w' → e = .returned (.tuple #[])) (h : Calls Tryz.prog 39 #[clIf bn bc, nv] w R) :
    Calls Tryz.prog 32 #[nv, clFn bn bc] w R := by
  subst hn
  have H := Lib.hid (And.intro h hR)
  clear h hR
  go_enter Tryz.func32, Tryz.ntmps32
  go_wp2_with fail
  refine H.out.1.mono ?_
  intro e w' hr
  have he := H.out.2 _ _ hr
  subst he
  have HR := Lib.hid hr
  clear hr
  go_wp2_with fail
  go_end0
  exact HR.out


theorem sortst_of {w w' : World} {g n cap bn bc : Nat} {nv : Value} (l : List It) (h : ClSt w' w.heap.size bn bc nv (.slice (some ⟨g, 0, none⟩) n cap) (l.map (·.1))) (hb : Below w.heap.size w w') (ok : ∀ x ∈ l, OkIt w x) : SortSt w w' w' w.heap.size g cap l := by
  obtain ⟨_, hr, hg⟩ := kids_of h
  rw [List.length_map] at hr
  exact ⟨hr, ok, rfl, hb, hg, Nat.le_refl _, fun _ _ _ => rfl⟩
theorem kids_sorted {w wS w2 : World} {e : Ending} {g n cap : Nat} {l : List It} (hs : SortSt w wS w2 w.heap.size g cap l) (hn : n = l.length) (he : e = .returned (.slice (some ⟨g, 0, none⟩) n cap)) : Kids w (l.map (·.1)) e w2 := by
  refine ⟨g, cap, ?_, ?_, hs.lo, hs.below⟩
  · rw [he, hn, List.length_map]
  · have := hs.row
    rwa [List.length_map]
theorem cell_sorted {w ws w2 : World} {bn bc g n cap : Nat} {nv : Value} {xs : List Value} {l : List It} (h : ClSt ws w.heap.size bn bc nv (.slice (some ⟨g, 0, none⟩) n cap) xs) (hs : SortSt w ws w2 w.heap.size g cap l) : w2.cell? ⟨bc, 0, none⟩ = some (.slice (some ⟨g, 0, none⟩) n cap) :=
  (h.cbox.same (hs.fix.2 bc (fun e => h.far.2 (by simp [Value.ownBlock, e])) h.cbox.lt)).cell 0
def Tok (w : World) (i : Nat) (s : ByteArray) : Prop := w.cell? ⟨0, i, none⟩ = some (.string s) ∧ 0 < w.heap.size
theorem Tok.below {w w' : World} {i : Nat} {s : ByteArray} (h : Tok w i s) (hb : Below w.heap.size w w') : Tok w' i s := ⟨(hb.cell (p := ⟨0, i, none⟩) h.2).trans h.1, Nat.lt_of_lt_of_le h.2 hb.size⟩
theorem plusString_any (w : World) (h : Tok w 12 ⟨#[43]⟩) :
    Calls Tryz.prog 35 #[.int .i64 12] w fun e w' => e = .returned (.string ⟨#[43]⟩) ∧ w = w' := by
  have hc := h.1
  clear h
  go_enter Tryz.func35, Tryz.ntmps35
  go_wp2_with fail
  go_ret
  exact ⟨rfl, rfl⟩
theorem varString_any (w : World) (h : Tok w 85 ⟨#[118, 97, 114]⟩) :
    Calls Tryz.prog 35 #[.int .i64 85] w fun e w' => e = .returned (.string ⟨#[118, 97, 114]⟩) ∧ w = w' := by
  have hc := h.1
  clear h
  go_enter Tryz.func35, Tryz.ntmps35
  go_wp2_with fail
  go_ret
  exact ⟨rfl, rfl⟩
theorem outer_length : ∀ (d i : Nat) (l : List It), (outer d i l).length = l.length
  | 0, _, _ => rfl
  | d + 1, i, l => by rw [outer, outer_length, inner_length]
theorem outer_three (x y t : Value) (a b c : Int) (h1 : a < b) (h2 : b < c) : outer 2 1 [(x, a), (y, c), (t, b)] = [(x, a), (t, b), (y, c)] := by
  have e1 : ¬ c < a := by omega
  have e2 : ¬ b < a := by omega
  simp [outer, inner, swp, it0, e1, e2, h2]
theorem outer_first (x y t : Value) (a b c : Int) (h1 : b < a) (h2 : a < c) : outer 2 1 [(x, a), (y, c), (t, b)] = [(t, b), (x, a), (y, c)] := by
  have e1 : ¬ c < a := by omega
  have e2 : b < c := by omega
  simp [outer, inner, swp, it0, e1, e2, h1]
theorem outer_two (x t : Value) (a b : Int) (h1 : b < a) : outer 1 1 [(x, a), (t, b)] = [(t, b), (x, a)] := by
  simp [outer, inner, swp, it0, h1]
theorem outer_same (x y : Value) (a b : Int) (h1 : a ≤ b) : outer 1 1 [(x, a), (y, b)] = [(x, a), (y, b)] := by
  have e1 : ¬ b < a := by omega
  simp [outer, inner, it0, e1]
end Go.Proofs.YtakigggbecibmaaGreatFmt
