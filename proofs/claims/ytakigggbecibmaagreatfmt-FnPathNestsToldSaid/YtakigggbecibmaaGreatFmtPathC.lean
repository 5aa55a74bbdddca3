/- The closure that collects the children of a node, and what calls it. -/
import Derived.Test.YtakigggbecibmaaGreatFmtPathB
import Derived.LaidEql
import Derived.WalkLawsBesides
namespace Go.Proofs.YtakigggbecibmaaGreatFmt
open Go.RowKit
set_option maxRecDepth 100000
set_option maxHeartbeats 1000000

/-! a list of the call's own: nil, or a row of its own -/
def Lst (w : World) (B : Nat) (t : TypeId) (v : Value) (xs : List Value) : Prop :=
  (v = .slice none 0 0 ∧ xs = []) ∨ ∃ g cap, v = .slice (some ⟨g, 0, none⟩) xs.length cap ∧ Row w g t 1 xs.length xs cap ∧ B ≤ g
theorem Lst.own {w : World} {B : Nat} {t : TypeId} {v : Value} {xs : List Value} (h : Lst w B t v xs) : w.ownsRow 0 t 1 v xs.length xs := by
  rcases h with ⟨rfl, rfl⟩ | ⟨g, cap, rfl, hr, _⟩
  · exact ⟨rfl, .inl ⟨rfl, rfl⟩⟩
  · exact hr.own 0 (Nat.zero_le _)
theorem Lst.below {w w' : World} {B : Nat} {t : TypeId} {v : Value} {xs : List Value} (h : Lst w B t v xs) (hb : Below w.heap.size w w') : Lst w' B t v xs := by
  rcases h with ⟨rfl, rfl⟩ | ⟨g, cap, rfl, hr, hB⟩
  · exact .inl ⟨rfl, rfl⟩
  · exact .inr ⟨g, cap, rfl, hr.below hb hr.lt, hB⟩
section
variable {P : Program} (w : World)
theorem wp_append_lst {o : Oper} {a : Act} {K : Act → World → Prop} {Q : Exit → Act → World → Prop} (s x : Operand) (t : TypeId)
    (ho : o.op = .call { callee := .builtin .append, args := #[s, x], argTypes := #[t, t] })
    (e : TypeId) (i : TypeInfo) (z : Value) (bytes : Nat) (ht : P.underlying t = some (.slice e)) (hi : P.info? e = some i) (hz : i.zero = some z)
    (hsize : i.size = 1) (hby : i.bytes = bytes) (hzs : z.cells.size = 1)
    (B : Nat) (v : Value) (xs : List Value) (hs : a.eval s = v) (hv : Lst w B e v xs)
    (ad : Addr) (m c : Nat) (news : List Value) (hx : a.eval x = .slice (some ad) m c) (hl : news.length = m) (hm : 0 < m) (hnews : ∀ j u, news[j]? = some u → w.cell? (ad.add j) = some u) (h1 : ∀ u ∈ news, u.oneCell' = true)
    (h63 : xs.length + m ≤ maxLen) (hbytes : (xs.length + m) * bytes ≤ 140737488355328)
    (h : ∀ g' cap' w', Row w' g' e 1 (xs.length + m) (xs ++ news) cap' → w.grownBy w' v.ownBlock → (v.ownBlock = some g' ∨ g' = w.heap.size) → K (a.put o.dst (.slice (some ⟨g', 0, none⟩) (xs.length + m) cap')) w') : o.wp P a w K Q := by
  obtain ⟨v', w', hrun, h2, h3, h4, h5⟩ := run_append_own_at (P := P) w 0 t o.type e i z 1 bytes ht hi hz hsize hby hzs (by decide) v xs.length xs hv.own ad m c news (by omega) hnews h1 h63 hbytes (Nat.zero_le _)
  unfold Oper.wp execOp
  simp only [ho, resolve, invoke, builtin, Sem.run_bind, Sem.run_pure, Result.andThen_ok, List.map_toArray, List.map_cons, List.map_nil, hs, hx, hrun]
  have h2' := h2.2
  rcases h2' with ⟨hv', hn0⟩ | ⟨g', cap', cur, rfl, _, _⟩
  · omega
  · refine h g' cap' w' (Row.of_own h2) h3 ?_
    rcases h5 with h5 | h5
    · left
      simpa [Value.ownBlock] using h5.symm
    · right
      simpa [Value.ownBlock] using h5
theorem wpList_append_lst {ops : Array Oper} {rest : List Oper} {o : Oper} {a : Act} {Q : Exit → Act → World → Prop} (hgd : o.guard = none) (s x : Operand) (t : TypeId)
    (ho : o.op = .call { callee := .builtin .append, args := #[s, x], argTypes := #[t, t] })
    (e : TypeId) (i : TypeInfo) (z : Value) (bytes : Nat) (ht : P.underlying t = some (.slice e)) (hi : P.info? e = some i) (hz : i.zero = some z)
    (hsize : i.size = 1) (hby : i.bytes = bytes) (hzs : z.cells.size = 1)
    (B : Nat) (v : Value) (xs : List Value) (hs : a.eval s = v) (hv : Lst w B e v xs)
    (ad : Addr) (m c : Nat) (news : List Value) (hx : a.eval x = .slice (some ad) m c) (hl : news.length = m) (hm : 0 < m) (hnews : ∀ j u, news[j]? = some u → w.cell? (ad.add j) = some u) (h1 : ∀ u ∈ news, u.oneCell' = true)
    (h63 : xs.length + m ≤ maxLen) (hbytes : (xs.length + m) * bytes ≤ 140737488355328)
    (h : ∀ g' cap' w', Row w' g' e 1 (xs.length + m) (xs ++ news) cap' → w.grownBy w' v.ownBlock → (v.ownBlock = some g' ∨ g' = w.heap.size) → wpList P ops Q rest (a.put o.dst (.slice (some ⟨g', 0, none⟩) (xs.length + m) cap')) w') : wpList P ops Q (o :: rest) a w :=
  wpList_plain hgd fun _ hK => wp_append_lst w s x t ho e i z bytes ht hi hz hsize hby hzs B v xs hs hv ad m c news hx hl hm hnews h1 h63 hbytes fun g' cap' w' h2 h3 h4 => hK _ _ (h g' cap' w' h2 h3 h4)
end

theorem Tryz.infoNode : (Tryz.prog.info? 52).map (fun i => (i.zero, i.size, i.bytes)) = some (some .nilIface, 1, 16) := by kernel_rfl

/-- What the closure holds: the node, and the children that it has so far. -/
structure ClSt (w : World) (B bn bc : Nat) (nv : Value) (v : Value) (xs : List Value) : Prop where
  nbox : Blk w bn 52 #[nv]
  cbox : Blk w bc 45 #[v]
  lst : Lst w B 52 v xs
  far : v.ownBlock ≠ some bn ∧ v.ownBlock ≠ some bc
  lo : B ≤ bn ∧ B ≤ bc ∧ bn ≠ bc
theorem ClSt.next {w w' w2 : World} {B bn bc : Nat} {nv v u : Value} {xs : List Value} {g' cap' : Nat} (h : ClSt w B bn bc nv v xs) (hB : B ≤ w.heap.size) (h0 : Below w.heap.size w w2) (hrow : Row w' g' 52 1 (xs.length + 1) (xs ++ [u]) cap') (hg : w2.grownBy w' v.ownBlock)
    (hg' : v.ownBlock = some g' ∨ g' = w2.heap.size) : ClSt (w'.setCell ⟨bc, 0, none⟩ (.slice (some ⟨g', 0, none⟩) (xs.length + 1) cap')) B bn bc nv (.slice (some ⟨g', 0, none⟩) (xs.length + 1) cap') (xs ++ [u]) ∧
      Below B w (w'.setCell ⟨bc, 0, none⟩ (.slice (some ⟨g', 0, none⟩) (xs.length + 1) cap')) := by
  have s0 := h0.size
  have hn := h.nbox.lt
  have hc := h.cbox.lt
  have f1 := h.far.1
  have f2 := h.far.2
  have l1 := h.lo
  have e1 : g' ≠ bn := by
    rcases hg' with e | e
    · intro e2; rw [e, e2] at f1; exact f1 rfl
    · omega
  have e2 : g' ≠ bc := by
    rcases hg' with e | e
    · intro e2; rw [e, e2] at f2; exact f2 rfl
    · omega
  have hBg : B ≤ g' := by
    rcases hg' with e | e
    · rcases h.lst with ⟨hv, _⟩ | ⟨g, cap, hv, _, hb⟩
      · rw [hv] at e; cases e
      · rw [hv] at e
        have : g = g' := by simpa [Value.ownBlock] using e
        omega
    · omega
  have k1 : w'.heap[bn]? = w.heap[bn]? := (hg.block bn (by omega) (fun e => f1 e.symm)).trans (h0.block bn hn)
  have k2 : w'.heap[bc]? = w.heap[bc]? := (hg.block bc (by omega) (fun e => f2 e.symm)).trans (h0.block bc hc)
  refine ⟨⟨(h.nbox.same k1).far (by exact l1.2.2) _, ?_, .inr ⟨g', cap', by simp, ?_, hBg⟩, ⟨by simpa [Value.ownBlock] using e1, by simpa [Value.ownBlock] using e2⟩, l1⟩, ?_⟩
  · have := (h.cbox.same k2).set_ 0 (.slice (some ⟨g', 0, none⟩) (xs.length + 1) cap')
    simpa using this
  · have hr : Row (w'.setCell ⟨bc, 0, none⟩ (.slice (some ⟨g', 0, none⟩) (xs.length + 1) cap')) g' 52 1 (xs.length + 1) (xs ++ [u]) cap' := hrow.same (Below.heap_setCell _ _ _ _ (by exact e2))
    simpa using hr
  · refine Below.setCell ?_ (by exact l1.2.1) _
    refine (h0.mono hB).grown hg (by omega) ?_
    intro k hk
    rcases h.lst with ⟨hv, _⟩ | ⟨g, cap, hv, _, hb⟩
    · rw [hv] at hk; cases hk
    · rw [hv] at hk
      have : g = k := by simpa [Value.ownBlock] using hk
      omega
abbrev clFn (bn bc : Nat) : Value := .func (.func 33) #[] #[ptr bn, ptr bc]
abbrev clIf (bn bc : Nat) : Value := .iface 230 (clFn bn bc)

/-- What the closure answers at a child: it is collected. -/
def Took (w : World) (B bn bc : Nat) (nv : Value) (xs : List Value) (r : Value) (e : Ending) (w' : World) : Prop := ∃ v', e = .returned r ∧ ClSt w' B bn bc nv v' xs ∧ Below B w w'

theorem cl_child (w : World) (B bn bc : Nat) (nv v u : Value) (tu : TypeId) (pu : Value) (xs : List Value) (hu : u = .iface tu pu) (h : ClSt w B bn bc nv v xs) (hB : B ≤ w.heap.size) (hlen : xs.length ≤ 100)
    (hq : (binOp .eql 52 u nv).run Tryz.prog w = .ok (.bool false) w) :
    Calls Tryz.prog 33 #[u, ptr bn, ptr bc] w (Took w B bn bc nv (xs ++ [u]) (.bool false)) := by
  subst hu
  obtain ⟨i0, hi0, hz0, hz1, hz2⟩ := info_parts Tryz.infoNode
  have c0 : w.cell? ⟨bn, 0, none⟩ = some nv := h.nbox.cell 0
  have c1 : w.cell? ⟨bc, 0, none⟩ = some v := h.cbox.cell 0
  have hbc := h.cbox.lt
  have H := Lib.hid (And.intro h (And.intro hi0 (And.intro hz0 (And.intro hz1 hz2))))
  clear h hi0 hz0 hz1 hz2
  go_enter Tryz.func33, Tryz.ntmps33
  go_wp2_with (at_builtin; refine wpList_append_lst _ rfl (.tmp 10) (.tmp 12) 45 rfl 52 i0 .nilIface 16 Tryz.underlying45 H.out.2.1 H.out.2.2.1 H.out.2.2.2.1 H.out.2.2.2.2 rfl B v xs rfl ?c1 ⟨w.heap.size, 0, none⟩ 1 1 [.iface tu pu] rfl rfl (by decide) ?c3 ?c4 ?c5 ?c6 ?_)
  case c1 => exact H.out.1.lst.below (by go_grown)
  case c3 => exact cell_one_new _ _ _
  case c4 => intro u hu; cases List.mem_singleton.1 hu; rfl
  case c5 => unfold maxLen; omega
  case c6 => omega
  intro g' cap' w3 hrow hg hg'
  have hfar := H.out.1.far
  have hbk : w3.heap[bc]? = w.heap[bc]? := (hg.block bc (by simp only [World.size_alloc]; omega) (fun e => hfar.2 e.symm)).trans (Below.heap_alloc _ _ _ hbc)
  have hblk := H.out.1.cbox.same hbk
  have d0 : w3.cell? ⟨bc, 0, none⟩ = some v := hblk.cell 0
  have d1 := hblk.frozen 0
  have hnx := H.out.1.next (w' := w3) (w2 := w.alloc (.cells #[.iface tu pu] 52)) hB (by go_grown) hrow hg (by rw [World.size_alloc]; exact hg')
  have HN := Lib.hid hnx
  clear hnx hrow hg hg' hfar hbk hblk
  go_wp2_with fail
  go_ret
  exact ⟨_, rfl, HN.out.1, HN.out.2⟩

theorem cl_self (w : World) (B bn bc : Nat) (nv v : Value) (tn : TypeId) (pn : Value) (xs : List Value) (hn : nv = .iface tn pn) (h : ClSt w B bn bc nv v xs)
    (hq : (binOp .eql 52 nv nv).run Tryz.prog w = .ok (.bool true) w) :
    Calls Tryz.prog 33 #[nv, ptr bn, ptr bc] w fun e w' => e = .returned (.bool true) ∧ w = w' := by
  have c0 : w.cell? ⟨bn, 0, none⟩ = some nv := h.nbox.cell 0
  subst hn
  clear h
  go_enter Tryz.func33, Tryz.ntmps33
  go_wp2_with fail
  go_ret
  exact ⟨rfl, rfl⟩
theorem cl_nil (w : World) (B bn bc : Nat) (nv v : Value) (tn : TypeId) (pn : Value) (xs : List Value) (hn : nv = .iface tn pn) (h : ClSt w B bn bc nv v xs) :
    Calls Tryz.prog 33 #[.nilIface, ptr bn, ptr bc] w fun e w' => e = .returned (.bool false) ∧ w = w' := by
  have c0 : w.cell? ⟨bn, 0, none⟩ = some nv := h.nbox.cell 0
  subst hn
  have hq := run_eql_iface_nil_left (P := Tryz.prog) (w := w) tn pn Tryz.underlying52
  clear h
  go_enter Tryz.func33, Tryz.ntmps33
  go_wp2_with fail
  go_ret
  exact ⟨rfl, rfl⟩

/-! Visit -/
theorem visit_child (w : World) (B bn bc : Nat) (nv v u : Value) (tu : TypeId) (pu : Value) (xs : List Value) (hu : u = .iface tu pu) (h : ClSt w B bn bc nv v xs) (hB : B ≤ w.heap.size) (hlen : xs.length ≤ 100)
    (hq : (binOp .eql 52 u nv).run Tryz.prog w = .ok (.bool false) w) :
    Calls Tryz.prog 263 #[clFn bn bc, u] w (Took w B bn bc nv (xs ++ [u]) .nilIface) := by
  have HC := Lib.hid (cl_child w B bn bc nv v u tu pu xs hu h hB hlen hq)
  clear hq h
  subst hu
  go_enter Tryz.func263, Tryz.ntmps263
  go_wp2_with fail
  refine HC.out.mono ?_
  rintro e w' ⟨v', rfl, h1, h2⟩
  have HH := Lib.hid (And.intro h1 h2)
  clear h1 h2
  go_wp2_with fail
  go_ret
  exact ⟨v', rfl, HH.out.1, HH.out.2⟩
theorem visit_self (w : World) (B bn bc : Nat) (nv v : Value) (tn : TypeId) (pn : Value) (xs : List Value) (hn : nv = .iface tn pn) (h : ClSt w B bn bc nv v xs)
    (hq : (binOp .eql 52 nv nv).run Tryz.prog w = .ok (.bool true) w) :
    Calls Tryz.prog 263 #[clFn bn bc, nv] w fun e w' => e = .returned (clIf bn bc) ∧ w = w' := by
  have HC := Lib.hid (cl_self w B bn bc nv v tn pn xs hn h hq)
  clear hq h
  subst hn
  go_enter Tryz.func263, Tryz.ntmps263
  go_wp2_with fail
  refine HC.out.mono ?_
  rintro e w' ⟨rfl, rfl⟩
  go_wp2_with fail
  go_ret
  exact ⟨rfl, rfl⟩
theorem visit_nil (w : World) (B bn bc : Nat) (nv v : Value) (tn : TypeId) (pn : Value) (xs : List Value) (hn : nv = .iface tn pn) (h : ClSt w B bn bc nv v xs) :
    Calls Tryz.prog 263 #[clFn bn bc, .nilIface] w fun e w' => e = .returned .nilIface ∧ w = w' := by
  have HC := Lib.hid (cl_nil w B bn bc nv v tn pn xs hn h)
  clear h
  go_enter Tryz.func263, Tryz.ntmps263
  go_wp2_with fail
  refine HC.out.mono ?_
  rintro e w' ⟨rfl, rfl⟩
  go_wp2_with fail
  go_ret
  exact ⟨rfl, rfl⟩
theorem walk_child (w : World) (B bn bc : Nat) (nv v u : Value) (tu : TypeId) (pu : Value) (xs : List Value) (hu : u = .iface tu pu) (h : ClSt w B bn bc nv v xs) (hB : B ≤ w.heap.size) (hlen : xs.length ≤ 100)
    (hq : (binOp .eql 52 u nv).run Tryz.prog w = .ok (.bool false) w) :
    Calls Tryz.prog 39 #[clIf bn bc, u] w (Took w B bn bc nv (xs ++ [u]) (.tuple #[])) := by
  have HC := Lib.hid (visit_child w B bn bc nv v u tu pu xs hu h hB hlen hq)
  clear hq h
  subst hu
  go_enter Tryz.func39, Tryz.ntmps39
  go_wp2_with fail
  refine HC.out.mono ?_
  rintro e w' ⟨v', rfl, h1, h2⟩
  have HH := Lib.hid (And.intro h1 h2)
  clear h1 h2
  go_wp2_with fail
  refine bodyPost_ret (results_none rfl _ _ _) rfl ?_
  exact ⟨v', rfl, HH.out.1, HH.out.2⟩
end Go.Proofs.YtakigggbecibmaaGreatFmt
