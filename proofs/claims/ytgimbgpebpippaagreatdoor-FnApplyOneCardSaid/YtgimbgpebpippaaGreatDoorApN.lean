/- spec's walk over a tree: the calls that are due. -/
import Derived.Test.YtgimbgpebpippaaGreatDoorApV
import Derived.Deep.RegionLaw
import Derived.Deep.LoopGhost
import Derived.Deep.QuietTactic
import Derived.BigQuiet
import Derived.Deep.CutBlock
namespace Go.Proofs.YtgimbgpebpippaaGreatDoor
open Go.RowKit
set_option maxRecDepth 100000
set_option maxHeartbeats 8000000

mutual
def Lens : ANode → Prop
  | .mk _ _ _ _ ks => ks.length ≤ 1000 ∧ LensL ks
def LensL : List ANode → Prop
  | [] => True
  | n :: ns => Lens n ∧ LensL ns
end
/-- The walk in memory: what is asked, the calls so far. -/
structure Wk (q : Ask) (bw : Nat) (s : VSt) (w : World) (v : Value) : Prop where
  box : Blk w bw 66 #[.string q.skip, .int .i64 q.stop, .bool q.pre, .bool q.post, .int .i64 s.ends, v]
  lst : LstS w 0 54 6 s.calls.length v (cellsV s.calls)
  far : v.ownBlock ≠ some bw
theorem Wk.same {q : Ask} {bw : Nat} {s : VSt} {w w' : World} {v : Value} (h : Wk q bw s w v) (hb : ∀ k, k < w.heap.size → (k = bw ∨ k ∈ rowOf v) → w'.heap[k]? = w.heap[k]?) : Wk q bw s w' v :=
  ⟨h.box.same (hb _ h.box.lt (.inl rfl)), h.lst.same (fun g hg => hb g (h.lst.lt g hg).1 (.inr (mem_rowOf.2 hg))), h.far⟩
theorem Wk.kept {q : Ask} {bw : Nat} {s : VSt} {w w' : World} {v : Value} (h : Wk q bw s w v) (hk : Kept [] w w') : Wk q bw s w' v := h.same (fun k hlt _ => hk.2 k hlt (by simp))
/-- What a call of the walk comes to. -/
def NodeSo (q : Ask) (bw : Nat) (v : Value) (w : World) (o : VSt × Bool) (e : Ending) (w' : World) : Prop :=
  ∃ v', e = .returned (.bool o.2) ∧ Wk q bw o.1 w' v' ∧ Kept (bw :: rowOf v) w w' ∧ Grows w.heap.size (rowOf v) (rowOf v')
def NodeC (q : Ask) (n : ANode) : Prop := ∀ (w : World) (L bw : Nat) (v : Value) (p : Spot) (s : VSt), n.In w L → L ≤ w.heap.size → Wk q bw s w v → L ≤ bw → (∀ g ∈ rowOf v, L ≤ g) → Lens n → Bd (walkN q n.erase p s) → 0 ≤ s.ends →
  Calls Tryz.prog 36 #[.pointer (some ⟨bw, 0, none⟩), n.val, p.agg] w (NodeSo q bw v w (walkN q n.erase p s))
/-- Behind a note of the walk's, ahead of the store of the list. -/
theorem Wk.next {q : Ask} {bw : Nat} {s : VSt} {w w2 w3 : World} {v : Value} {x : Vst} {g' cap' : Nat} (h : Wk q bw s w v) (h0 : Kept [] w w2) (hrow : Row w3 g' 54 6 (s.calls.length + 1) (cellsV s.calls ++ x.cells) cap') (hg : w2.grownBy w3 v.ownBlock) (hg' : v.ownBlock = some g' ∨ g' = w2.heap.size) :
    Blk w3 bw 66 #[.string q.skip, .int .i64 q.stop, .bool q.pre, .bool q.post, .int .i64 s.ends, v] ∧ Kept (rowOf v) w w3 ∧ (g' ∈ rowOf v ∨ w.heap.size ≤ g') ∧
      Wk q bw ⟨s.calls ++ [x], s.ends⟩ (w3.setCell ⟨bw, 5, none⟩ (.slice (some ⟨g', 0, none⟩) (s.calls.length + 1) cap')) (.slice (some ⟨g', 0, none⟩) (s.calls.length + 1) cap') := by
  have hb := h.box.lt
  have s0 := h0.1
  have sg := hg.size
  have hk : Kept (rowOf v) w w3 := ⟨by omega, fun k hk hn => (hg.block k (by omega) (fun e => hn (mem_rowOf.2 e.symm))).trans (h0.2 k hk (by simp)), hg.os.trans h0.os, hg.tape.trans h0.tape, hg.output.trans h0.output⟩
  have hbox := h.box.same (hk.2 bw hb (fun hm => h.far (mem_rowOf.1 hm)))
  have hne : g' ≠ bw := by
    intro e
    rcases hg' with h1 | h1
    · exact h.far (by rw [h1, e])
    · omega
  refine ⟨hbox, hk, ?_, ⟨hbox.set_ 5 _, ?_, ?_⟩⟩
  · rcases hg' with h1 | h1
    · exact .inl (mem_rowOf.2 h1)
    · exact .inr (by omega)
  · refine .inr ⟨g', cap', by simp, ?_, Nat.zero_le _⟩
    have : cellsV (s.calls ++ [x]) = cellsV s.calls ++ x.cells := by simp [cellsV_append, cellsV]
    rw [this, List.length_append, List.length_singleton]
    exact hrow.same (Below.heap_setCell _ _ _ _ (by exact hne))
  · simpa [Value.ownBlock] using hne
/-- Between the parts of the walk's node. -/
def WMid (q : Ask) (bw : Nat) (sv : Saved) (v : Value) (w : World) (s : VSt) (w' : World) : Prop :=
  ∃ v', Wk q bw s w' v' ∧ SavedIn bw sv w' (rowOf v') ∧ Kept (bw :: rowOf v) w w' ∧ Grows w.heap.size (rowOf v) (rowOf v')
theorem WMid.heapy {q : Ask} {bw : Nat} {sv : Saved} {v : Value} {w : World} {s : VSt} {w1 w2 : World} (e : Sm w1 w2) (h : WMid q bw sv v w s w1) : WMid q bw sv v w s w2 := by
  obtain ⟨v', h1, h2, h3, h4⟩ := h
  exact ⟨v', h1.same (fun k _ _ => by rw [e.1]), h2.same (fun k _ _ _ => by rw [e.1]), h3.heapy e, h4⟩
/-- Behind a note. -/
theorem WMid.note {q : Ask} {bw : Nat} {sv : Saved} {v v4 : Value} {w w4 w3 : World} {s' : VSt} {g' n' cap' : Nat} (h1 : SavedIn bw sv w4 (rowOf v4)) (h2 : Kept (bw :: rowOf v) w w4) (h3 : Grows w.heap.size (rowOf v) (rowOf v4))
    (n2 : Kept (rowOf v4) w4 w3) (n3 : g' ∈ rowOf v4 ∨ w4.heap.size ≤ g') (n4 : Wk q bw s' (w3.setCell ⟨bw, 5, none⟩ (.slice (some ⟨g', 0, none⟩) n' cap')) (.slice (some ⟨g', 0, none⟩) n' cap')) :
    WMid q bw sv v w s' (w3.setCell ⟨bw, 5, none⟩ (.slice (some ⟨g', 0, none⟩) n' cap')) := by
  have hr : rowOf (.slice (some ⟨g', 0, none⟩) n' cap') = [g'] := rfl
  have hg4 : Grows w4.heap.size (rowOf v4) [g'] := fun k hk => by
    rw [List.mem_singleton] at hk
    subst hk
    exact n3
  have hk4 : Kept (bw :: rowOf v4) w4 (w3.setCell ⟨bw, 5, none⟩ (.slice (some ⟨g', 0, none⟩) n' cap')) := Kept.set (p := ⟨bw, 5, none⟩) (n2.more (own' := bw :: rowOf v4) (fun b hb => List.mem_cons_of_mem _ hb)) (.inl List.mem_cons_self) _
  exact ⟨_, n4, by rw [hr]; exact h1.next hk4 hg4, h2.trans hk4 h3.cons, by rw [hr]; exact h3.trans hg4 h2.1⟩
abbrev boxes (kd tx : ByteArray) (A : Option Addr) (l cp : Nat) (p : Spot) (w : World) : Saved := [(w.heap.size, 24, #[.string kd, .string tx, .slice A l cp]), (w.heap.size + 1, 69, #[.string p.field, .int .i64 p.index, .string p.parent])]
theorem kidsFrom_mem {k : ByteArray} : ∀ {i : Nat} {ns : List ANode} {c : ANode × Spot}, c ∈ kidsFrom k i ns → c.1 ∈ ns
  | _, [], _, h => by cases h
  | i, n :: ns, c, h => by
    rw [kidsFrom, List.mem_cons] at h
    rcases h with rfl | h
    · exact List.mem_cons_self
    · exact List.mem_cons_of_mem _ (kidsFrom_mem h)
theorem KidsIn.mem {w : World} {L : Nat} {A : Option Addr} : ∀ {ns : List ANode} {i : Nat}, KidsIn w L A i ns → ∀ n ∈ ns, n.In w L
  | [], _, _, _, h => by cases h
  | m :: ns, i, h, n, hn => by
    rcases List.mem_cons.1 hn with rfl | hn
    · exact h.2.1
    · exact KidsIn.mem h.2.2 n hn
theorem LensL.mem : ∀ {ns : List ANode}, LensL ns → ∀ n ∈ ns, Lens n
  | [], _, _, h => by cases h
  | m :: ns, h, n, hn => by
    rcases List.mem_cons.1 hn with rfl | hn
    · exact h.1
    · exact LensL.mem h.2 n hn
theorem kidsOf_in {n : ANode} {w : World} {L : Nat} (h : n.In w L) (hl : Lens n) : ∀ c ∈ kidsOf n, c.1.In w L ∧ Lens c.1 := by
  intro c hc
  obtain ⟨k, t, A, cp, ks⟩ := n
  rw [kidsOf, List.mem_append] at hc
  rcases hc with hc | hc
  · have := kidsFrom_mem hc
    exact ⟨KidsIn.mem h.2.2.2.2 _ this, LensL.mem hl.2 _ this⟩
  · unfold selKid at hc
    split at hc
    · rw [List.mem_singleton] at hc
      subst hc
      exact ⟨⟨by decide, h.2.1, Nat.le_refl _, Nat.zero_le _, trivial⟩, Nat.zero_le _, trivial⟩
    · cases hc
theorem kidsOf_len {n : ANode} (hl : Lens n) : (kidsOf n).length ≤ 1001 := by
  obtain ⟨k, t, A, cp, ks⟩ := n
  have h1 := hl.1
  rw [kidsOf, List.length_append, kidsFrom_length]
  unfold selKid
  simp only [ANode.kids]
  split <;> simp <;> omega
theorem take_nextC {cs : List (ANode × Spot)} {j : Nat} {c : ANode × Spot} (hy : cs[j]? = some c) : j < cs.length ∧ cs.take (j + 1) = cs.take j ++ [c] ∧ cs = cs.take j ++ c :: cs.drop (j + 1) := by
  have hj : j < cs.length := by
    rcases Nat.lt_or_ge j cs.length with h | h
    · exact h
    · rw [List.getElem?_eq_none h] at hy; cases hy
  have h1 : cs[j] = c := by rw [List.getElem?_eq_getElem hj] at hy; exact Option.some.inj hy
  refine ⟨hj, ?_, ?_⟩
  · rw [List.take_succ_eq_append_getElem hj, h1]
  · conv => lhs; rw [← List.take_append_drop j cs, List.drop_eq_getElem_cons hj, h1]
theorem walkC_one (q : Ask) (c : ANode × Spot) (s : VSt) : walkC q [c] s = walkN q c.1.erase c.2 s := by
  rw [walkC]
  generalize walkN q c.1.erase c.2 s = o
  obtain ⟨s2, b⟩ := o
  cases b <;> rfl
theorem Wk.setEnds {q : Ask} {bw : Nat} {s : VSt} {w : World} {v : Value} (h : Wk q bw s w v) (e : Int) : Wk q bw ⟨s.calls, e⟩ (w.setCell ⟨bw, 4, none⟩ (.int .i64 e)) v :=
  ⟨h.box.set_ 4 _, h.lst.same (fun g hg => Below.heap_setCell _ _ _ _ (by exact fun he => h.far (by rw [hg, he]))), h.far⟩
theorem WMid.setEnds {q : Ask} {bw : Nat} {sv : Saved} {v : Value} {w : World} {s : VSt} {w1 : World} (h : WMid q bw sv v w s w1) (e : Int) : WMid q bw sv v w ⟨s.calls, e⟩ (w1.setCell ⟨bw, 4, none⟩ (.int .i64 e)) := by
  obtain ⟨v', h1, h2, h3, h4⟩ := h
  exact ⟨v', h1.setEnds e, h2.same (fun k _ _ hn => Below.heap_setCell _ _ _ _ (by exact hn)), Kept.set (p := ⟨bw, 4, none⟩) h3 (.inl List.mem_cons_self) _, h4⟩
theorem WMid.drop {q : Ask} {bw : Nat} {e : Nat × TypeId × Array Value} {sv : Saved} {v : Value} {w : World} {s : VSt} {w1 : World} (h : WMid q bw (e :: sv) v w s w1) : WMid q bw sv v w s w1 := by
  obtain ⟨v', h1, h2, h3, h4⟩ := h
  exact ⟨v', h1, fun e he => h2 e (List.mem_cons_of_mem _ he), h3, h4⟩
theorem WMid.so {q : Ask} {bw : Nat} {sv : Saved} {v : Value} {w : World} {o : VSt × Bool} {w1 : World} {r : Bool} (h : WMid q bw sv v w o.1 w1) (hr : r = o.2) : NodeSo q bw v w o (.returned (.bool r)) w1 := by
  obtain ⟨v', h1, h2, h3, h4⟩ := h
  exact ⟨v', by rw [hr], h1, h3, h4⟩
theorem node_step (q : Ask) (n : ANode) (hkids : ∀ c ∈ kidsOf n, NodeC q c.1) : NodeC q n := by
  intro w L bw v p s hin hL hW hbw hrow hlens hbd he
  rw [walkN_kids] at hbd ⊢
  have hch := fun w' (h : Kept (bw :: rowOf v) w w') => children_any n w' L (ANode.In.keep (fun a ha => World.cell?_of_block (h.2 a.block (by omega) (by simp only [List.mem_cons, not_or]; exact ⟨by omega, fun hm => by have := hrow _ hm; omega⟩))) n hin) (Nat.le_trans hL h.1) (by cases n; exact hlens.1)
  obtain ⟨kd, tx, A, cp, ns⟩ := n
  have HC := Lib.hid (And.intro hch (And.intro hkids (And.intro hbd (And.intro hin (And.intro hlens hrow)))))
  clear hch hkids hbd hin hlens hrow
  show Calls Tryz.prog _ #[.pointer (some ⟨bw, 0, none⟩), .agg #[.string kd, .string tx, .slice A ns.length cp], .agg #[.string p.field, .int .i64 p.index, .string p.parent]] w _
  simp only [ANode.kind, ANode.text]
  have w0 : w.cell? ⟨bw, 0, none⟩ = some (.string q.skip) := hW.box.cell 0
  have w2 : w.cell? ⟨bw, 2, none⟩ = some (.bool q.pre) := hW.box.cell 2
  have w5 : w.cell? ⟨bw, 5, none⟩ = some v := hW.box.cell 5
  have zw := hW.box.lt
  have HW := Lib.hid hW
  clear hW
  go_enter Tryz.func36, Tryz.ntmps36
  go_upto_if 12 with fail
  have hM : WMid q bw (boxes kd tx A ns.length cp p w) v w s ((w.alloc (.cells #[.string kd, .string tx, .slice A ns.length cp] 24)).alloc (.cells #[.string p.field, .int .i64 p.index, .string p.parent] 69)) := by
    have hk : Kept [] w ((w.alloc (.cells #[.string kd, .string tx, .slice A ns.length cp] 24)).alloc (.cells #[.string p.field, .int .i64 p.index, .string p.parent] 69)) := ((Kept.refl [] w).alloc _).alloc _
    refine ⟨v, HW.out.kept hk, ?_, hk.more (fun b hb => by cases hb), Grows.refl _ _⟩
    have hr : ∀ k, w.heap.size ≤ k → k ∉ rowOf v := fun k h1 hm => by have := (HW.out.lst.lt _ (mem_rowOf.1 hm)).1; omega
    intro e he
    rcases List.mem_cons.1 he with rfl | he
    · exact ⟨(Blk.new w _ _).alloc _, hr _ (Nat.le_refl _), by simp only; omega⟩
    · rw [List.mem_singleton] at he
      subst he
      refine ⟨?_, hr _ (Nat.le_succ _), by simp only; omega⟩
      have := Blk.new (w.alloc (.cells #[.string kd, .string tx, .slice A ns.length cp] 24)) 69 #[.string p.field, .int .i64 p.index, .string p.parent]
      rwa [World.size_alloc] at this
  generalize ((w.alloc (.cells #[.string kd, .string tx, .slice A ns.length cp] 24)).alloc (.cells #[.string p.field, .int .i64 p.index, .string p.parent] 69)) = w4 at hM ⊢
  have H4 := Lib.hid hM
  clear hM
  obtain ⟨i0, hi0, hz0, hz1, hz2⟩ := info_parts Tryz.infoVisit
  have HI := Lib.hid (And.intro hi0 (And.intro hz0 (And.intro hz1 hz2)))
  have HV : Hid (∀ (post : Bool) (w4 w' : World), Sm w4 w' → Calls Tryz.prog 49 #[.agg #[.string kd, .string tx, .slice A ns.length cp], .agg #[.string p.field, .int .i64 p.index, .string p.parent], .bool post] w' fun e w'' => e = .returned (Vst.agg ⟨post, kd, tx, p⟩) ∧ Kept [] w4 w'') := fun post w4 w' hw =>
    (specVisit_any kd tx A ns.length cp p post w').mono (by rintro e w'' ⟨rfl, hb⟩; exact ⟨rfl, .nil_of hb hw⟩)
  have hlen : s.calls.length ≤ 40000 := (Bd.start (skipOr_mono ((walkC_mono q _).then (postV_mono q _ _ _))) HC.out.2.2.1).1
  have HL := Lib.hid hlen
  obtain ⟨pb, hpb⟩ : ∃ pb, q.pre = pb := ⟨_, rfl⟩
  rw [hpb]
  have HP := Lib.hid hpb
  clear hi0 hz0 hz1 hz2 w0 w2 w5 hlen hpb
  go_cut [] from 13 to 31 (fun wx => Hid (¬ (q.pre = true ∧ kd = q.skip) ∧ WMid q bw (boxes kd tx A ns.length cp p w) v w (preV q kd tx p s) wx))
  case first =>
    cases pb
    · go_wp2_with fail
      go_meet
      exact Lib.hid ⟨by rw [HP.out]; simp, by rw [preV_no HP.out]; exact H4.out⟩
    · go_wp2_with fail
      go_cut [] from 13 to 24 (fun wx => Hid (WMid q bw (boxes kd tx A ns.length cp p w) v w (preV q kd tx p s) wx))
      case first =>
        obtain ⟨v4, hwk, hsv, hk4, hg4⟩ := H4.out
        have x5 : w4.cell? ⟨bw, 5, none⟩ = some v4 := hwk.box.cell 5
        have n0 : w4.cell? ⟨w.heap.size, 0, none⟩ = some (.string kd) := (hsv _ (List.mem_cons_self)).1.cell 0
        have n1 : w4.cell? ⟨w.heap.size, 1, none⟩ = some (.string tx) := (hsv _ (List.mem_cons_self)).1.cell 1
        have n2 : w4.cell? ⟨w.heap.size, 2, none⟩ = some (.slice A ns.length cp) := (hsv _ (List.mem_cons_self)).1.cell 2
        have p0 : w4.cell? ⟨w.heap.size + 1, 0, none⟩ = some (.string p.field) := (hsv _ (List.mem_cons_of_mem _ List.mem_cons_self)).1.cell 0
        have p1 : w4.cell? ⟨w.heap.size + 1, 1, none⟩ = some (.int .i64 p.index) := (hsv _ (List.mem_cons_of_mem _ List.mem_cons_self)).1.cell 1
        have p2 : w4.cell? ⟨w.heap.size + 1, 2, none⟩ = some (.string p.parent) := (hsv _ (List.mem_cons_of_mem _ List.mem_cons_self)).1.cell 2
        have z4 := hwk.box.lt
        have HK := Lib.hid (And.intro hwk (And.intro hsv (And.intro hk4 hg4)))
        clear hwk hsv hk4 hg4
        go_region_law
          (first
            | (go_simp; go_at_call 49; refine (HV.out false w4 _ (by exact ⟨rfl, rfl, rfl, rfl⟩)).mono ?_; rintro e w1 ⟨rfl, hb1⟩; unfold Vst.agg; have d0 := (hb1.nil_cell (p := ⟨bw, 5, none⟩) z4).trans x5; have zd := Nat.lt_of_lt_of_le z4 hb1.1; have HB := Lib.hid hb1; clear hb1)
            | (refine step_append_lsts _ (by rfl) _ _ _ (by rfl) 54 i0 _ 6 80 Tryz.underlying27 HI.out.1 HI.out.2.1 HI.out.2.2.1 HI.out.2.2.2 rfl (by decide) 0 _ v4 _ rfl (HK.out.1.lst.kept (HB.out.alloc _)) ⟨w1.heap.size, 0, none⟩ 1 1 (Vst.cells ⟨false, kd, tx, p⟩) rfl rfl (by decide) (cells_new rfl _ rfl) (Vst.cells_one _) (by have := HL.out; unfold maxLen; omega) (by have := HL.out; omega) ?_; intro g' cap' w3 hrow hg hg'; obtain ⟨n1, n2, n3, n4⟩ := HK.out.1.next (x := ⟨false, kd, tx, p⟩) (HB.out.alloc _) hrow hg hg'; have m0 : w3.cell? ⟨bw, 5, none⟩ = some v4 := n1.cell 5; have m1 := n1.frozen 5; have zm := n1.lt; have HN := Lib.hid (And.intro n2 (And.intro n3 n4)); clear n1 n2 n3 n4 hrow hg hg'))
        all_goals
          go_wp2_with fail
          go_meet
          refine Lib.hid (WMid.heapy (w1 := w3.setCell ⟨bw, 5, none⟩ (.slice (some ⟨g', 0, none⟩) (s.calls.length + 1) cap')) (by exact ⟨rfl, rfl, rfl, rfl⟩) ?_)
          have e : preV q kd tx p s = ⟨s.calls ++ [⟨false, kd, tx, p⟩], s.ends⟩ := by unfold preV; rw [if_pos HP.out]
          rw [e]
          exact WMid.note HK.out.2.1 HK.out.2.2.1 HK.out.2.2.2 HN.out.1 HN.out.2.1 HN.out.2.2
      case rest =>
        obtain ⟨v5, hwk, hsv, hk5, hg5⟩ := hcut.out
        have x0 : wc.cell? ⟨bw, 0, none⟩ = some (.string q.skip) := hwk.box.cell 0
        have n0 : wc.cell? ⟨w.heap.size, 0, none⟩ = some (.string kd) := (hsv _ (List.mem_cons_self)).1.cell 0
        have n1 : wc.cell? ⟨w.heap.size, 1, none⟩ = some (.string tx) := (hsv _ (List.mem_cons_self)).1.cell 1
        have n2 : wc.cell? ⟨w.heap.size, 2, none⟩ = some (.slice A ns.length cp) := (hsv _ (List.mem_cons_self)).1.cell 2
        have p0 : wc.cell? ⟨w.heap.size + 1, 0, none⟩ = some (.string p.field) := (hsv _ (List.mem_cons_of_mem _ List.mem_cons_self)).1.cell 0
        have p1 : wc.cell? ⟨w.heap.size + 1, 1, none⟩ = some (.int .i64 p.index) := (hsv _ (List.mem_cons_of_mem _ List.mem_cons_self)).1.cell 1
        have p2 : wc.cell? ⟨w.heap.size + 1, 2, none⟩ = some (.string p.parent) := (hsv _ (List.mem_cons_of_mem _ List.mem_cons_self)).1.cell 2
        have z5 := hwk.box.lt
        have HK := Lib.hid (And.intro hwk (And.intro hsv (And.intro hk5 hg5)))
        have HCU := Lib.hid hcut.out
        clear hwk hsv hk5 hg5 hcut
        by_cases hs : kd = q.skip
        · have hsb := beq_of_eq hs
          have HS := Lib.hid hs
          clear hs
          go_wp2_with fail
          go_quiet (fail)
          go_wp2_with fail
          go_ret
          unfold skipOr
          rw [if_pos ⟨HP.out, HS.out⟩]
          exact ⟨v5, rfl, HK.out.1.same (fun k _ _ => rfl), HK.out.2.2.1.heapy ⟨rfl, rfl, rfl, rfl⟩, HK.out.2.2.2⟩
        · have hsb := beq_of_ne hs
          have HS := Lib.hid hs
          clear hs
          go_wp2_with fail
          go_quiet (fail)
          go_wp2_with fail
          go_meet
          exact Lib.hid ⟨fun h => HS.out h.2, WMid.heapy (w1 := wc) ⟨rfl, rfl, rfl, rfl⟩ HCU.out⟩
  case rest =>
    obtain ⟨hns, hM1⟩ := hcut.out
    have hsk : skipOr q kd tx p s (fun s1 => andThen (walkC q (kidsOf (.mk kd tx A cp ns)) s1) (postV q kd tx p)) = andThen (walkC q (kidsOf (.mk kd tx A cp ns)) (preV q kd tx p s)) (postV q kd tx p) := by unfold skipOr; rw [if_neg hns]
    have HSK := Lib.hid hsk
    have HBD := HC.out.2.2.1
    simp only [ANode.kind, ANode.text] at HBD
    rw [hsk] at HBD
    have HBD := Lib.hid HBD
    clear hsk
    obtain ⟨v5, hwk, hsv, hk5, hg5⟩ := hM1
    have n0 : wc.cell? ⟨w.heap.size, 0, none⟩ = some (.string kd) := (hsv _ (List.mem_cons_self)).1.cell 0
    have n1 : wc.cell? ⟨w.heap.size, 1, none⟩ = some (.string tx) := (hsv _ (List.mem_cons_self)).1.cell 1
    have n2 : wc.cell? ⟨w.heap.size, 2, none⟩ = some (.slice A ns.length cp) := (hsv _ (List.mem_cons_self)).1.cell 2
    have p0 : wc.cell? ⟨w.heap.size + 1, 0, none⟩ = some (.string p.field) := (hsv _ (List.mem_cons_of_mem _ List.mem_cons_self)).1.cell 0
    have p1 : wc.cell? ⟨w.heap.size + 1, 1, none⟩ = some (.int .i64 p.index) := (hsv _ (List.mem_cons_of_mem _ List.mem_cons_self)).1.cell 1
    have p2 : wc.cell? ⟨w.heap.size + 1, 2, none⟩ = some (.string p.parent) := (hsv _ (List.mem_cons_of_mem _ List.mem_cons_self)).1.cell 2
    have HK := Lib.hid (And.intro hwk (And.intro hsv (And.intro hk5 hg5)))
    clear hwk hsv hk5 hg5 hcut
    go_wp2_with fail
    refine (HC.out.1 wc HK.out.2.2.1).mono ?_
    rintro e w6 ⟨gc, cc, rfl, hrow, hgc, hb6⟩
    obtain ⟨cs, hcs⟩ : ∃ cs, kidsOf (ANode.mk kd tx A cp ns) = cs := ⟨_, rfl⟩
    have HCS := Lib.hid hcs
    rw [hcs] at HBD HSK hrow ⊢
    have hkc := HC.out.2.1
    have hkin := fun w' (h : Kept (bw :: rowOf v) w w') => kidsOf_in (ANode.In.keep (w' := w') (fun a ha => World.cell?_of_block (h.2 a.block (by omega) (by simp only [List.mem_cons, not_or]; exact ⟨by omega, fun hm => by have := HC.out.2.2.2.2.2 _ hm; omega⟩))) _ HC.out.2.2.2.1) HC.out.2.2.2.2.1
    have hcl : cs.length ≤ 1001 := by rw [← hcs]; exact kidsOf_len HC.out.2.2.2.2.1
    rw [hcs] at hkc hkin
    obtain ⟨hl, hn, hm, cur, hblk, hsz, htk⟩ := hrow
    have hrowAt : ∀ w', Blk w' gc 151 cur → Row w' gc 151 6 cs.length (cellsC cs) cc := fun w' hb => ⟨hl, hn, hm, cur, hb, hsz, htk⟩
    have HKC := Lib.hid (And.intro hkc (And.intro hkin hrowAt))
    have hM6 : WMid q bw ((gc, 151, cur) :: boxes kd tx A ns.length cp p w) v w (preV q kd tx p s) w6 := by
      have hk6 : Kept [] wc w6 := ⟨hb6.size, fun k hk _ => hb6.block k hk, hb6.os, hb6.tape, hb6.output⟩
      refine ⟨v5, HK.out.1.kept hk6, ?_, HK.out.2.2.1.trans hk6 (fun b hb => by cases hb), HK.out.2.2.2⟩
      intro e he
      rcases List.mem_cons.1 he with rfl | he
      · exact ⟨hblk, fun hm => by have := (HK.out.1.lst.lt _ (mem_rowOf.1 hm)).1; simp only at this; omega, by have := HK.out.1.box.lt; simp only; omega⟩
      · exact HK.out.2.1.next (hk6.more (fun b hb => by cases hb)) (Grows.refl _ _) e he
    have H6 := Lib.hid hM6
    have HE := Lib.hid he
    clear hM6 hl hn hm hblk hsz htk hrowAt hkc hkin hcs hb6 hgc he n0 n1 n2 p0 p1 p2
    go_wp2_with fail
    go_loopw [35] (fun i wr => ∃ j : Nat, j ≤ cs.length ∧ i = .int .i64 j ∧ Hid ((walkC q (cs.take j) (preV q kd tx p s)).2 = true ∧ WMid q bw ((gc, 151, cur) :: boxes kd tx A ns.length cp p w) v w (walkC q (cs.take j) (preV q kd tx p s)).1 wr)) (fun i _ => cs.length - (intOf i).toNat)
    case atStart => exact ⟨0, Nat.zero_le _, rfl, Lib.hid ⟨by simp [walkC], by simpa [walkC] using H6.out⟩⟩
    case round =>
      obtain ⟨j, hj, rfl, HR⟩ := hrel
      by_cases hlt : j < cs.length
      · obtain ⟨c, hc⟩ : ∃ c, cs[j]? = some c := ⟨cs[j], List.getElem?_eq_getElem hlt⟩
        obtain ⟨hj2, ht1, ht2⟩ := take_nextC hc
        have hwhole : walkC q cs (preV q kd tx p s) = andThen (walkC q (cs.take j) (preV q kd tx p s)) (fun s3 => andThen (walkN q c.1.erase c.2 s3) (walkC q (cs.drop (j + 1)))) := by
          conv => lhs; rw [ht2]
          rw [walkC_append]
          rfl
        have hnext : walkC q (cs.take (j + 1)) (preV q kd tx p s) = walkN q c.1.erase c.2 (walkC q (cs.take j) (preV q kd tx p s)).1 := by
          rw [ht1, walkC_append, andThen_true HR.out.1, walkC_one]
        obtain ⟨v7, hwk, hsv, hk7, hg7⟩ := HR.out.2
        have hrw := HKC.out.2.2 wr (hsv _ List.mem_cons_self).1
        have k0 : wr.cell? ⟨gc, j * 6, none⟩ = some (.string c.1.kind) := hrw.cell (i := j * 6 + 0) (by rw [cellsC_get 0 (by decide) hc]; rfl)
        have k1 : wr.cell? ⟨gc, j * 6 + 1, none⟩ = some (.string c.1.text) := hrw.cell (i := j * 6 + 1) (by rw [cellsC_get 1 (by decide) hc]; rfl)
        have k2 : wr.cell? ⟨gc, j * 6 + 2, none⟩ = some (.slice c.1.addr c.1.kids.length c.1.cap) := hrw.cell (i := j * 6 + 2) (by rw [cellsC_get 2 (by decide) hc]; rfl)
        have k3 : wr.cell? ⟨gc, j * 6 + 3, none⟩ = some (.string c.2.field) := hrw.cell (i := j * 6 + 3) (by rw [cellsC_get 3 (by decide) hc]; rfl)
        have k4 : wr.cell? ⟨gc, j * 6 + 4, none⟩ = some (.int .i64 c.2.index) := hrw.cell (i := j * 6 + 4) (by rw [cellsC_get 4 (by decide) hc]; rfl)
        have k5 : wr.cell? ⟨gc, j * 6 + 5, none⟩ = some (.string c.2.parent) := hrw.cell (i := j * 6 + 5) (by rw [cellsC_get 5 (by decide) hc]; rfl)
        have zg := hrw.lt
        have q1 : (0 : Int) ≤ (j : Int) := by omega
        have q2 : (j : Int) < (cs.length : Int) := by omega
        have hbd1 : Bd (walkN q c.1.erase c.2 (walkC q (cs.take j) (preV q kd tx p s)).1) := by
          have h1 := HBD.out.first (postV_mono q _ _ _)
          rw [hwhole] at h1
          exact (h1.snd HR.out.1).first (walkC_mono q _)
        have hends : 0 ≤ (walkC q (cs.take j) (preV q kd tx p s)).1.ends := by
          have := (walkC_mono q (cs.take j) (preV q kd tx p s)).2
          have h2 := (preV_ge q kd tx p s).2
          have := HE.out
          omega
        have hIH : ∀ w', Kept [] wr w' → Calls Tryz.prog 36 #[.pointer (some ⟨bw, 0, none⟩), .agg #[.string c.1.kind, .string c.1.text, .slice c.1.addr c.1.kids.length c.1.cap], .agg #[.string c.2.field, .int .i64 c.2.index, .string c.2.parent]] w' (NodeSo q bw v7 w' (walkN q c.1.erase c.2 (walkC q (cs.take j) (preV q kd tx p s)).1)) := fun w' hw' =>
          have hkw := hk7.trans hw' (fun b hb => by cases hb)
          HKC.out.1 c (List.mem_of_getElem? hc) w' L bw v7 c.2 _ (HKC.out.2.1 w' hkw c (List.mem_of_getElem? hc)).1 (Nat.le_trans hL hkw.1) (hwk.kept hw') hbw (fun g hg => by
            rcases hg7 g hg with h | h
            · exact HC.out.2.2.2.2.2 g h
            · omega) (HKC.out.2.1 w' hkw c (List.mem_of_getElem? hc)).2 hbd1 hends
        have HX := Lib.hid (And.intro hIH (And.intro hwhole (And.intro hnext (And.intro hsv (And.intro hk7 hg7)))))
        clear hIH hwhole hnext hwk hsv hk7 hg7 hrw ht1 ht2 hbd1 hends hc
        go_wp2_with fail
        refine (HX.out.1 _ ((Kept.refl [] wr).alloc _)).mono ?_
        rintro e w8 ⟨v8, rfl, hwk8, hk8, hg8⟩
        have hM8 : WMid q bw ((gc, 151, cur) :: boxes kd tx A ns.length cp p w) v w (walkN q c.1.erase c.2 (walkC q (cs.take j) (preV q kd tx p s)).1).1 w8 := by
          have hk9 : Kept (bw :: rowOf v7) wr w8 := ((Kept.refl (bw :: rowOf v7) wr).alloc _).trans hk8 (Grows.refl _ _)
          have hg9 : Grows wr.heap.size (rowOf v7) (rowOf v8) := fun b hb => (hg8 b hb).imp id (fun h => by rw [World.size_alloc] at h; omega)
          exact ⟨v8, hwk8, HX.out.2.2.2.1.next hk9 hg9, HX.out.2.2.2.2.1.trans hk9 HX.out.2.2.2.2.2.cons, HX.out.2.2.2.2.2.trans hg9 HX.out.2.2.2.2.1.1⟩
        have H8 := Lib.hid hM8
        obtain ⟨r, hr⟩ : ∃ r, (walkN q c.1.erase c.2 (walkC q (cs.take j) (preV q kd tx p s)).1).2 = r := ⟨_, rfl⟩
        rw [hr]
        have HRR := Lib.hid hr
        clear hM8 hwk8 hk8 hg8 hr k0 k1 k2 k3 k4 k5
        cases r
        · go_wp2_with fail
          go_ret
          rw [HCS.out, HSK.out, HX.out.2.1, andThen_true HR.out.1]
          have e1 : andThen (walkN q c.1.erase c.2 (walkC q (cs.take j) (preV q kd tx p s)).1) (walkC q (cs.drop (j + 1))) = walkN q c.1.erase c.2 (walkC q (cs.take j) (preV q kd tx p s)).1 := andThen_false HRR.out
          rw [e1, andThen_false HRR.out]
          exact WMid.so H8.out HRR.out.symm
        · go_wp2_with fail
          go_roundw
          case rel => exact ⟨j + 1, by omega, by go_num, Lib.hid ⟨by rw [HX.out.2.2.1]; exact HRR.out, by rw [HX.out.2.2.1]; exact H8.out⟩⟩
          case measure => simp [intOf]; omega
      · obtain rfl : j = cs.length := by omega
        have hR := HR.out
        rw [List.take_length] at hR
        obtain ⟨s9, hs9⟩ : ∃ s9, walkC q cs (preV q kd tx p s) = (s9, true) := ⟨(walkC q cs (preV q kd tx p s)).1, by rw [← hR.1]⟩
        rw [hs9] at hR
        have hbd9 := HBD.out
        rw [hs9] at hbd9
        have hb9 : s9.calls.length ≤ 40000 ∧ s9.ends ≤ 40000 := Bd.start (postV_mono q kd tx p) (hbd9.snd rfl)
        have he9 : 0 ≤ s9.ends := by
          have h1 := (walkC_mono q cs (preV q kd tx p s)).2
          rw [hs9] at h1
          have h2 := (preV_ge q kd tx p s).2
          have h3 := HE.out
          simp only at h1
          omega
        have hw1 : IntKind.i64.wrap (s9.ends + 1) = s9.ends + 1 := IntWalk.i64_in _ (by omega)
        have H9 := Lib.hid (And.intro hR.2.drop (And.intro hs9 hb9))
        obtain ⟨v4, hwk, hsv, hk4, hg4⟩ := hR.2.drop
        have x3 : wr.cell? ⟨bw, 3, none⟩ = some (.bool q.post) := hwk.box.cell 3
        have x5 : wr.cell? ⟨bw, 5, none⟩ = some v4 := hwk.box.cell 5
        have n0 : wr.cell? ⟨w.heap.size, 0, none⟩ = some (.string kd) := (hsv _ (List.mem_cons_self)).1.cell 0
        have n1 : wr.cell? ⟨w.heap.size, 1, none⟩ = some (.string tx) := (hsv _ (List.mem_cons_self)).1.cell 1
        have n2 : wr.cell? ⟨w.heap.size, 2, none⟩ = some (.slice A ns.length cp) := (hsv _ (List.mem_cons_self)).1.cell 2
        have p0 : wr.cell? ⟨w.heap.size + 1, 0, none⟩ = some (.string p.field) := (hsv _ (List.mem_cons_of_mem _ List.mem_cons_self)).1.cell 0
        have p1 : wr.cell? ⟨w.heap.size + 1, 1, none⟩ = some (.int .i64 p.index) := (hsv _ (List.mem_cons_of_mem _ List.mem_cons_self)).1.cell 1
        have p2 : wr.cell? ⟨w.heap.size + 1, 2, none⟩ = some (.string p.parent) := (hsv _ (List.mem_cons_of_mem _ List.mem_cons_self)).1.cell 2
        have z4 := hwk.box.lt
        have HK9 := Lib.hid (And.intro hwk (And.intro hsv (And.intro hk4 hg4)))
        obtain ⟨pb2, hpb⟩ : ∃ b, q.post = b := ⟨_, rfl⟩
        rw [hpb] at x3
        have HP2 := Lib.hid hpb
        clear hpb hwk hsv hk4 hg4 hR hbd9 hb9 hs9 he9
        cases pb2
        · go_wp2_with fail
          go_ret
          have e2 : postV q kd tx p s9 = (s9, true) := by unfold postV; rw [if_neg (by rw [HP2.out]; simp)]
          rw [HCS.out, HSK.out, H9.out.2.1, andThen_true rfl, e2]
          exact WMid.so (o := (s9, true)) H9.out.1 rfl
        · go_wp2_with fail
          go_cut [] from 51 to 62 (fun wx => Hid (WMid q bw (boxes kd tx A ns.length cp p w) v w ⟨s9.calls ++ [⟨true, kd, tx, p⟩], s9.ends⟩ wx))
          case first =>
            go_region_law
              (first
                | (go_simp; go_at_call 49; refine (HV.out true wr _ (by exact ⟨rfl, rfl, rfl, rfl⟩)).mono ?_; rintro e w1 ⟨rfl, hb1⟩; unfold Vst.agg; have d0 := (hb1.nil_cell (p := ⟨bw, 5, none⟩) z4).trans x5; have zd := Nat.lt_of_lt_of_le z4 hb1.1; have HB := Lib.hid hb1; clear hb1)
                | (refine step_append_lsts _ (by rfl) _ _ _ (by rfl) 54 i0 _ 6 80 Tryz.underlying27 HI.out.1 HI.out.2.1 HI.out.2.2.1 HI.out.2.2.2 rfl (by decide) 0 _ v4 _ rfl (HK9.out.1.lst.kept (HB.out.alloc _)) ⟨w1.heap.size, 0, none⟩ 1 1 (Vst.cells ⟨true, kd, tx, p⟩) rfl rfl (by decide) (cells_new rfl _ rfl) (Vst.cells_one _) (by have := H9.out.2.2.1; unfold maxLen; omega) (by have := H9.out.2.2.1; omega) ?_; intro g' cap' w3 hrow hg hg'; obtain ⟨n1, n2, n3, n4⟩ := HK9.out.1.next (x := ⟨true, kd, tx, p⟩) (HB.out.alloc _) hrow hg hg'; have m0 : w3.cell? ⟨bw, 5, none⟩ = some v4 := n1.cell 5; have m1 := n1.frozen 5; have zm := n1.lt; have HN := Lib.hid (And.intro n2 (And.intro n3 n4)); clear n1 n2 n3 n4 hrow hg hg'))
            all_goals
              go_wp2_with fail
              go_meet
              refine Lib.hid (WMid.heapy (w1 := w3.setCell ⟨bw, 5, none⟩ (.slice (some ⟨g', 0, none⟩) (s9.calls.length + 1) cap')) (by exact ⟨rfl, rfl, rfl, rfl⟩) ?_)
              exact WMid.note HK9.out.2.1 HK9.out.2.2.1 HK9.out.2.2.2 HN.out.1 HN.out.2.1 HN.out.2.2
          case rest =>
            obtain ⟨vb, hwk, hsv, hkb, hgb⟩ := hcut.out
            have y4 : wc.cell? ⟨bw, 4, none⟩ = some (.int .i64 s9.ends) := hwk.box.cell 4
            have y1 : wc.cell? ⟨bw, 1, none⟩ = some (.int .i64 q.stop) := hwk.box.cell 1
            have yf := hwk.box.frozen 4
            have zb := hwk.box.lt
            have HM := Lib.hid (hcut.out.setEnds (s9.ends + 1))
            clear hwk hsv hkb hgb hcut x3 x5 n0 n1 n2 p0 p1 p2
            go_wp2_with fail
            go_quiet (fail)
            go_wp2_with fail
            go_ret
            have e2 : postV q kd tx p s9 = (⟨s9.calls ++ [⟨true, kd, tx, p⟩], s9.ends + 1⟩, decide (s9.ends + 1 ≠ q.stop)) := by unfold postV; rw [if_pos HP2.out]
            rw [HCS.out, HSK.out, H9.out.2.1, andThen_true rfl, e2]
            refine WMid.so (r := s9.ends + 1 != q.stop) (w1 := (wc.setCell ⟨bw, 4, none⟩ (.int .i64 (s9.ends + 1))).drewN _) (o := (⟨s9.calls ++ [⟨true, kd, tx, p⟩], s9.ends + 1⟩, decide (s9.ends + 1 ≠ q.stop))) (WMid.heapy (w1 := wc.setCell ⟨bw, 4, none⟩ (.int .i64 (s9.ends + 1))) ⟨rfl, rfl, rfl, rfl⟩ HM.out) ?_
            by_cases h : s9.ends + 1 = q.stop <;> simp [h]
/-- The walk at whatever node. -/
theorem node_any (q : Ask) (k : Nat) : ∀ n : ANode, SizeOf.sizeOf n < k → NodeC q n := by
  induction k with
  | zero => intro n hs; omega
  | succ k ih =>
    intro n hs
    refine node_step q n (fun c hc => ?_)
    obtain ⟨kd, t, A, cp, ks⟩ := n
    rw [kidsOf, List.mem_append] at hc
    rcases hc with hc | hc
    · have hm := kidsFrom_mem hc
      have := List.sizeOf_lt_of_mem hm
      rw [ANode.mk.sizeOf_spec] at hs
      simp only [ANode.kids] at this
      exact ih c.1 (by omega)
    · unfold selKid at hc
      split at hc
      · rw [List.mem_singleton] at hc
        subst hc
        refine node_step q _ (fun c hc => ?_)
        rw [kidsOf_ne (by decide)] at hc
        cases hc
      · cases hc
end Go.Proofs.YtgimbgpebpippaaGreatDoor
