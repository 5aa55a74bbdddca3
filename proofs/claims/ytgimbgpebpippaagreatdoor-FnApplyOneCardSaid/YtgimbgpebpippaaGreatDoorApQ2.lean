/- The second function of FnApply's client. -/
import Derived.Test.YtgimbgpebpippaaGreatDoorApQ
namespace Go.Proofs.YtgimbgpebpippaaGreatDoor
open Go.RowKit
set_option maxRecDepth 100000
set_option maxHeartbeats 8000000
theorem setCell_swap (w : World) {a b : Addr} (u v : Value) (h : a.block ≠ b.block) : Sm ((w.setCell b v).setCell a u) ((w.setCell a u).setCell b v) := by
  refine ⟨?_, rfl, rfl, rfl⟩
  apply Array.ext_getElem?
  intro k
  by_cases ha : k = a.block
  · subst ha
    rw [Below.heap_setCell _ b v _ h]
    simp only [World.setCell, Array.getElem?_modify, if_pos, if_neg (Ne.symm h)]
  · rw [Below.heap_setCell _ a u _ ha]
    by_cases hb : k = b.block
    · subst hb
      simp only [World.setCell, Array.getElem?_modify, if_pos, if_neg h]
    · rw [Below.heap_setCell _ b v _ hb, Below.heap_setCell _ b v _ hb, Below.heap_setCell _ a u _ ha]
section
variable {q : Ask} {bo be bs bt : Nat}
theorem ClA.noted2 {s : VSt} {w w3 : World} {v : Value} {g' n' cap' : Nat} {k t : ByteArray} {sp : Spot} (hC : ClA q bo be bs bt s w (bo :: be :: bs :: bt :: rowOf v)) (hq : q.post = true) (h1 : be ∉ rowOf v) (h2 : bs ∉ rowOf v) (h3 : bt ∉ rowOf v)
    (n2 : Outs (w3.setCell ⟨bo, 0, none⟩ (.slice (some ⟨g', 0, none⟩) n' cap')) bo (.slice (some ⟨g', 0, none⟩) n' cap') (s.calls ++ [⟨true, k, t, sp⟩])) (n3 : Kept (bo :: rowOf v) w (w3.setCell ⟨bo, 0, none⟩ (.slice (some ⟨g', 0, none⟩) n' cap'))) (hcnt : Blk w3 be 2 #[.int .i64 s.ends]) (n5 : g' ∈ rowOf v ∨ w.heap.size ≤ g')
    (w4 : World) (hw4 : Sm ((w3.setCell ⟨bo, 0, none⟩ (.slice (some ⟨g', 0, none⟩) n' cap')).setCell ⟨be, 0, none⟩ (.int .i64 (s.ends + 1))) w4) :
    CbSo (ClA q bo be bs bt) (bo :: be :: bs :: bt :: rowOf v) w (postV q k t sp s).1 (postV q k t sp s).2 (.returned (.bool (s.ends + 1 != q.stop))) w4 := by
  have hbe : be ≠ bo := fun e => hC.ne.1 e.symm
  have lb := hC.cnt.lt
  have hg : g' ≠ be := by
    intro e
    rcases n5 with h | h
    · exact h1 (e ▸ h)
    · omega
  have hrow : rowOf (.slice (some ⟨g', 0, none⟩) n' cap') = [g'] := rfl
  have ho : Outs w4 bo (.slice (some ⟨g', 0, none⟩) n' cap') (s.calls ++ [⟨true, k, t, sp⟩]) := n2.same (by rw [hw4.1]; exact Below.heap_setCell _ _ _ _ (by exact fun e => hbe e.symm)) (fun g hg2 => by
    rw [hrow, List.mem_singleton] at hg2
    subst hg2
    rw [hw4.1]; exact Below.heap_setCell _ _ _ _ (by exact hg))
  have hc : Blk w4 be 2 #[.int .i64 (s.ends + 1)] := by
    have := (hcnt.far (p := ⟨bo, 0, none⟩) hbe (.slice (some ⟨g', 0, none⟩) n' cap')).set_ 0 (.int .i64 (s.ends + 1))
    exact Blk.same (by simpa using this) (by rw [hw4.1])
  have hk : Kept (bo :: be :: rowOf v) w w4 := by
    refine Kept.heapy ((n3.more (fun b hb => by simp only [List.mem_cons] at hb ⊢; rcases hb with h | h; exact .inl h; exact .inr (.inr h))).set (p := ⟨be, 0, none⟩) (.inl (by simp)) _) hw4
  have hp : postV q k t sp s = (⟨s.calls ++ [⟨true, k, t, sp⟩], s.ends + 1⟩, decide (s.ends + 1 ≠ q.stop)) := by unfold postV; rw [if_pos hq]
  rw [hp]
  obtain ⟨r1, r2, r3⟩ := hC.noted (s' := ⟨s.calls ++ [⟨true, k, t, sp⟩], s.ends + 1⟩) h1 h2 h3 rfl ho hk hc n5
  exact ⟨_, by congr 2; by_cases h : s.ends + 1 = q.stop <;> simp [h], r1, r2, r3⟩
theorem applied2_any (hq : q.post = true) {w : World} {ba : Nat} {fp fq : Value} {own : List Nat} {x : AE} {p : Option AE} {pv : Value} {nm : ByteArray} {it : Value} {ix st idx : Int} {s : VSt} (hC : ClA q bo be bs bt s w own) (hl : s.calls.length ≤ 40000) (he : s.ends ≤ 40000) (he0 : 0 ≤ s.ends) (h : AtCur w ba fp fq own x p pv nm it ix st idx) :
    Calls Tryz.prog 33 #[cur ba, .pointer (some ⟨bo, 0, none⟩), .pointer (some ⟨be, 0, none⟩), .pointer (some ⟨bt, 0, none⟩)] w (CbSo (ClA q bo be bs bt) own w (postV q x.node.kind x.node.text (spotAt p nm idx) s).1 (postV q x.node.kind x.node.text (spotAt p nm idx) s).2) := by
  obtain ⟨v, rfl, ho, h1, h2, h3⟩ := hC.ex
  obtain ⟨i0, hi0, hz0, hz1, hz2⟩ := info_parts Tryz.infoVisit
  have HV : Hid (∀ w', Sm w w' → Calls Tryz.prog 32 #[cur ba, .bool true] w' fun e w'' => e = .returned (Vst.agg ⟨true, x.node.kind, x.node.text, spotAt p nm idx⟩) ∧ Kept [] w w'') := fun w' hw =>
    (visit_any true (h.heapy hw)).mono (by rintro e w'' ⟨rfl, hb⟩; exact ⟨rfl, .nil_of hb hw⟩)
  have HI := Lib.hid (And.intro hi0 (And.intro hz0 (And.intro hz1 hz2)))
  have H := Lib.hid (And.intro hC (And.intro ho (And.intro h1 (And.intro h2 (And.intro h3 hl)))))
  have c0 : w.cell? ⟨bo, 0, none⟩ = some v := ho.box.cell 0
  have c1 : w.cell? ⟨be, 0, none⟩ = some (.int .i64 s.ends) := hC.cnt.cell 0
  have c2 : w.cell? ⟨bt, 0, none⟩ = some (.int .i64 q.stop) := hC.stop.cell 0
  have zo := ho.box.lt
  have ze := hC.cnt.lt
  have zt := hC.stop.lt
  have nbe : be ≠ bo := fun e => hC.ne.1 e.symm
  have nbt : bt ≠ bo := fun e => hC.ne.2.2.1 e.symm
  have nbte : bt ≠ be := fun e => hC.ne.2.2.2.2 e.symm
  obtain ⟨kd, hkd⟩ : ∃ k, x.node.kind = k := ⟨_, rfl⟩
  obtain ⟨tx, htx⟩ : ∃ k, x.node.text = k := ⟨_, rfl⟩
  obtain ⟨sp, hsp⟩ : ∃ k, spotAt p nm idx = k := ⟨_, rfl⟩
  rw [hkd, htx, hsp] at HV ⊢
  have hw1 : IntKind.i64.wrap (s.ends + 1) = s.ends + 1 := IntWalk.i64_in _ (by omega)
  clear hi0 hz0 hz1 hz2 hC ho h1 h2 h3 hl h hkd htx hsp
  go_enter Tryz.func33, Tryz.ntmps33
  go_wp2_with fail
  go_region_law
    (first
      | (go_simp; go_at_call 32; refine (HV.out _ (by exact ⟨rfl, rfl, rfl, rfl⟩)).mono ?_; rintro e w1 ⟨rfl, hb1⟩; unfold Vst.agg; have d0 := (hb1.nil_cell (p := ⟨bo, 0, none⟩) zo).trans c0; have d1 := (hb1.nil_cell (p := ⟨be, 0, none⟩) ze).trans c1; have zo1 := Nat.lt_of_lt_of_le zo hb1.1; have ze1 := Nat.lt_of_lt_of_le ze hb1.1; have HB := Lib.hid hb1; clear hb1)
      | (refine step_append_lsts _ (by rfl) _ _ _ (by rfl) 54 i0 _ 6 80 Tryz.underlying27 HI.out.1 HI.out.2.1 HI.out.2.2.1 HI.out.2.2.2 rfl (by decide) 0 s.calls.length v (cellsV s.calls) rfl (H.out.2.1.lst.kept (HB.out.alloc _)) ⟨w1.heap.size, 0, none⟩ 1 1 (Vst.cells ⟨true, kd, tx, sp⟩) rfl rfl (by decide) (cells_new rfl _ rfl) (Vst.cells_one _) (by have := H.out.2.2.2.2.2; unfold maxLen; omega) (by have := H.out.2.2.2.2.2; omega) ?_; intro g' cap' w3 hrow hg hg'; obtain ⟨n0, n1, n2, n3, n4, n5⟩ := H.out.2.1.next (x := ⟨true, kd, tx, sp⟩) (HB.out.alloc _) hrow hg hg'; have hbe := H.out.1.cnt.same (n4.2 be ze H.out.2.2.1); have m0 : w3.cell? ⟨be, 0, none⟩ = some (.int .i64 s.ends) := hbe.cell 0; have m1 := hbe.frozen 0; have zo3 := lt_of_cell n0; have ze3 := lt_of_cell m0; have m2 : w3.cell? ⟨bt, 0, none⟩ = some (.int .i64 q.stop) := (H.out.1.stop.same (n4.2 bt zt H.out.2.2.2.2.1)).cell 0; have zt3 := lt_of_cell m2; have HN := Lib.hid (And.intro n2 (And.intro n3 (And.intro n5 hbe))); clear n2 n3 n4 n5 hbe hrow hg hg'))
  all_goals
    go_wp2_with fail
    go_ret
    first
      | exact H.out.1.noted2 hq H.out.2.2.1 H.out.2.2.2.1 H.out.2.2.2.2.1 HN.out.1 HN.out.2.1 HN.out.2.2.2 HN.out.2.2.1 _ ⟨rfl, rfl, rfl, rfl⟩
      | exact H.out.1.noted2 hq H.out.2.2.1 H.out.2.2.2.1 H.out.2.2.2.2.1 HN.out.1 HN.out.2.1 HN.out.2.2.2 HN.out.2.2.1 _ (setCell_swap _ _ _ (by exact nbe))
end
end Go.Proofs.YtgimbgpebpippaaGreatDoor
