/- The plain side of apply's frame for a client that only looks: what holds between its parts. -/
import Derived.Test.YtgimbgpebpippaaGreatDoorFrBase
import Derived.Test.YtgimbgpebpippaaGreatDoorApKids
namespace Go.Proofs.YtgimbgpebpippaaGreatDoor
open Go.RowKit

/-- What a call of apply finds. -/
structure ApPre (q : Ask) (CI : VSt → World → List Nat → Prop) (ba : Nat) (fp fq : Value) (w : World) (own : List Nat) (s : VSt) (x : AE) (p : Option AE) (pv : Value) (nm : ByteArray) (it : Value) (ix st idx : Int) (pv0 : Value) (nm0 : ByteArray) (o0 : Option Addr) (nv0 : Value) : Prop where
  ci : CI s w own
  app : App w ba fp fq pv0 nm0 (.pointer o0) nv0 ix st
  old : OldCur pv0 nv0
  xin : x.In w
  pin : ParIn w p pv
  ixn : IdxIn ba it ix idx
  glob : Glob w
  aw : ba ∉ own ∧ 0 ∉ own ∧ ba ≠ 0
  ax : ∀ b ∈ x.blocks, b ∉ own ∧ b ≠ ba
  ap : ∀ b ∈ parBlocks p, b ∉ own ∧ b ≠ ba
  bd : Bd (walkN q x.node (spotAt p nm idx) s) ∧ 0 ≤ s.ends
abbrev appCells (fp fq pv0 : Value) (nm0 : ByteArray) (it0 nv0 : Value) (ix st : Int) : Array Value := #[fp, fq, pv0, .string nm0, it0, nv0, .int .i64 ix, .int .i64 st]
/-- Blocks that are kept: the saved cursor, a saved iterator. -/
abbrev Saved := List (Nat × TypeId × Array Value)
def SavedIn (ba : Nat) (sv : Saved) (w1 : World) (own1 : List Nat) : Prop := ∀ e ∈ sv, Blk w1 e.1 e.2.1 e.2.2 ∧ e.1 ∉ own1 ∧ e.1 ≠ ba
/-- Between the parts of apply: what the client holds, the cursor at the node, what is saved; all else as it was. -/
def Mid (CI : VSt → World → List Nat → Prop) (ba : Nat) (fp fq pv : Value) (nm : ByteArray) (it nv : Value) (ix st : Int) (sv : Saved) (w : World) (own : List Nat) (s : VSt) (w1 : World) : Prop :=
  ∃ own1, CI s w1 own1 ∧ App w1 ba fp fq pv nm it nv ix st ∧ SavedIn ba sv w1 own1 ∧ Kept (ba :: own) w w1 ∧ Grows w.heap.size own own1
theorem SavedIn.same {ba : Nat} {sv : Saved} {w w' : World} {own : List Nat} (h : SavedIn ba sv w own) (hk : ∀ k, k < w.heap.size → k ∉ own → k ≠ ba → w'.heap[k]? = w.heap[k]?) : SavedIn ba sv w' own := fun e he => by
  obtain ⟨h1, h2, h3⟩ := h e he
  exact ⟨h1.same (hk _ h1.lt h2 h3), h2, h3⟩
theorem SavedIn.next {ba : Nat} {sv : Saved} {w w' : World} {own own' : List Nat} (h : SavedIn ba sv w own) (hk : Kept (ba :: own) w w') (hg : Grows w.heap.size own own') : SavedIn ba sv w' own' := fun e he => by
  obtain ⟨h1, h2, h3⟩ := h e he
  exact ⟨h1.same (hk.2 _ h1.lt (by simp only [List.mem_cons, not_or]; exact ⟨h3, h2⟩)), hg.not h2 h1.lt, h3⟩
/-- A panic on the way. -/
def Gone (CI : VSt → World → List Nat → Prop) (ba : Nat) (w : World) (own : List Nat) (o : VSt × Bool) (w1 : World) : Prop :=
  o.2 = false ∧ ∃ own1, CI o.1 w1 own1 ∧ Kept (ba :: own) w w1 ∧ Grows w.heap.size own own1 ∧ ∃ cs', Blk w1 ba 123 cs'
section
variable {q : Ask} {CI : VSt → World → List Nat → Prop} {ba : Nat} {fp fq : Value} {w : World} {own : List Nat} {s : VSt} {p : Option AE} {pv : Value} {nm : ByteArray} {it : Value} {ix st idx : Int} {pv0 : Value} {nm0 : ByteArray} {o0 : Option Addr} {nv0 : Value} {x : AE}
theorem Client.heapy (hC : Client q ba fp fq CI) {s : VSt} {own : List Nat} {w w' : World} (e : w'.heap = w.heap) (h : CI s w own) : CI s w' own :=
  hC.kept s w w' own h (by rw [e]; exact Nat.le_refl _) (fun k _ => by rw [e])
theorem Mid.heapy (hC : Client q ba fp fq CI) {nv : Value} {sv : Saved} {s' : VSt} : Heapy (Mid CI ba fp fq pv nm it nv ix st sv w own s') := fun w1 w2 e h => by
  obtain ⟨own1, h1, h2, h3, h4, h5⟩ := h
  exact ⟨own1, hC.heapy e.1 h1, Blk.same h2 (by rw [e.1]), h3.same (fun k _ _ _ => by rw [e.1]), h4.heapy e, h5⟩
theorem Mid.fr {nv : Value} {sv : Array Value} {s' : VSt} {w1 : World} (h : Mid CI ba fp fq pv nm it nv ix st [(w.heap.size, 119, sv)] w own s' w1) : Fr ba w.heap.size fp fq sv w1 := by
  obtain ⟨own1, h1, h2, h3, h4, h5⟩ := h
  exact ⟨⟨_, _, _, _, _, _, h2⟩, (h3 _ List.mem_cons_self).1⟩
/-- What there is between the parts, whatever the iterator. -/
theorem Mid.parts (hC : Client q ba fp fq CI) (hP : ApPre q CI ba fp fq w own s x p pv nm it ix st idx pv0 nm0 o0 nv0) {sv : Saved} {s1 : VSt} {wc w' : World} {ix' st' : Int} (h : Mid CI ba fp fq pv nm it x.val ix' st' sv w own s1 wc) (hw : Sm wc w') :
    ∃ own1, CI s1 w' own1 ∧ App w' ba fp fq pv nm it x.val ix' st' ∧ x.In w' ∧ ParIn w' p pv ∧ Glob w' ∧ (ba ∉ own1 ∧ 0 ∉ own1) ∧ (∀ b ∈ x.blocks, b ∉ own1 ∧ b ≠ ba) ∧ (∀ b ∈ parBlocks p, b ∉ own1 ∧ b ≠ ba) ∧
      Grows w.heap.size own own1 ∧ Kept (ba :: own) w w' ∧ SavedIn ba sv w' own1 := by
  obtain ⟨own1, hci, a8, hsv, hk, hg⟩ := h
  have hlt := Blk.lt hP.app
  have h0 : ∀ k, k < w.heap.size → k ∉ own → k ≠ ba → w'.heap[k]? = w.heap[k]? := fun k hk1 ho hn => by rw [hw.1]; exact hk.2 k hk1 (by simp [hn, ho])
  have hsz : w.heap.size ≤ w'.heap.size := by rw [hw.1]; exact hk.1
  refine ⟨own1, hC.heapy hw.1 hci, Blk.same a8 (by rw [hw.1]), ?_, ?_, ?_, ⟨hg.not hP.aw.1 hlt, hg.not hP.aw.2.1 hP.glob.2⟩, ?_, ?_, hg, hk.heapy hw, hsv.same (fun k _ _ _ => by rw [hw.1])⟩
  · exact AE.In.same x (fun b hb => h0 b (AE.In.lt x hP.xin b hb) (hP.ax b hb).1 (hP.ax b hb).2) hP.xin
  · have h1 := hP.pin
    have h2 := hP.ap
    cases p with
    | none => exact h1
    | some P => exact ⟨h1.1, AE.In.same P (fun b hb => h0 b (AE.In.lt P h1.2 b hb) (h2 b hb).1 (h2 b hb).2) h1.2⟩
  · refine ⟨fun i hi => ?_, Nat.lt_of_lt_of_le hP.glob.2 hsz⟩
    exact (World.cell?_of_block (h0 _ hP.glob.2 hP.aw.2.1 (Ne.symm hP.aw.2.2))).trans (hP.glob.1 i hi)
  · exact fun b hb => ⟨hg.not (hP.ax b hb).1 (AE.In.lt x hP.xin b hb), (hP.ax b hb).2⟩
  · have h1 := hP.pin
    have h2 := hP.ap
    cases p with
    | none => exact fun b hb => by simp [parBlocks] at hb
    | some P => exact fun b hb => ⟨hg.not (h2 b hb).1 (AE.In.lt P h1.2 b hb), (h2 b hb).2⟩
/-- What the client's functions find between the parts. -/
theorem Mid.at (hC : Client q ba fp fq CI) (hP : ApPre q CI ba fp fq w own s x p pv nm it ix st idx pv0 nm0 o0 nv0) {sv : Saved} {s1 : VSt} {wc w' : World} (h : Mid CI ba fp fq pv nm it x.val ix st sv w own s1 wc) (hw : Sm wc w') :
    ∃ own1, CI s1 w' own1 ∧ AtCur w' ba fp fq own1 x p pv nm it ix st idx ∧ Grows w.heap.size own own1 ∧ Kept (ba :: own) w w' ∧ SavedIn ba sv w' own1 := by
  obtain ⟨own1, h1, h2, h3, h4, h5, h6, h7, h8, h9, h10, h11⟩ := Mid.parts hC hP h hw
  exact ⟨own1, h1, ⟨h2, h3, h4, hP.ixn, h5, h6, h7, h8⟩, h9, h10, h11⟩
/-- The start: the cursor has been set. -/
theorem Mid.start (hC : Client q ba fp fq CI) (hP : ApPre q CI ba fp fq w own s x p pv nm it ix st idx pv0 nm0 o0 nv0) (sv : Array Value) : Mid CI ba fp fq pv nm it x.val ix st [(w.heap.size, 119, sv)] w own s (W7 w ba pv nm it x.val sv) := by
  have hk := W7_kept w ba pv nm it x.val sv
  have hlt := Blk.lt hP.app
  refine ⟨own, hC.kept s w _ own hP.ci hk.1 (fun k hk1 => hk.2 k (hC.lt s w own hP.ci k hk1) (by simp; exact fun e => hP.aw.1 (e ▸ hk1))), W7_app hP.app _ _ _ _ _, ?_, hk.more (fun b hb => by simp at hb; simp [hb]), Grows.refl _ _⟩
  intro e he
  rw [List.mem_singleton] at he
  subst he
  exact ⟨W7_saved _ _ _ _ _ _ _, fun hm => Nat.lt_irrefl _ (hC.lt s w own hP.ci _ hm), by omega⟩
theorem preV_no {k t : ByteArray} {sp : Spot} (h : q.pre = false) : preV q k t sp s = s := by unfold preV; rw [if_neg (by rw [h]; simp)]
/-- Behind a call of the client's own. -/
theorem Mid.next {sv : Saved} {nv : Value} {s2 : VSt} {w' w8 : World} {own1 own2 : List Nat} (ha : App w' ba fp fq pv nm it nv ix st) (hb1 : ba ∉ own1) (hg : Grows w.heap.size own own1) (hk : Kept (ba :: own) w w') (hs : SavedIn ba sv w' own1)
    (hci2 : CI s2 w8 own2) (hk2 : Kept own1 w' w8) (hg2 : Grows w'.heap.size own1 own2) : Mid CI ba fp fq pv nm it nv ix st sv w own s2 w8 :=
  ⟨own2, hci2, hk2.blk ha hb1, hs.next (hk2.more (fun _b hb => List.mem_cons_of_mem _ hb)) hg2, hk.trans (hk2.more (fun _b hb => List.mem_cons_of_mem _ hb)) hg.cons, hg.trans hg2 hk.1⟩
theorem fn_pre (hC : Client q ba fp fq CI) (hP : ApPre q CI ba fp fq w own s x p pv nm it ix st idx pv0 nm0 o0 nv0) (sv : Array Value) :
    FnSo fp ba (W7 w ba pv nm it x.val sv) (fun r w1 => Mid CI ba fp fq pv nm it x.val ix st [(w.heap.size, 119, sv)] w own (preV q x.node.kind x.node.text (spotAt p nm idx) s) w1 ∧ (r = false ↔ (q.pre = true ∧ x.node.kind = q.skip))) := by
  have h0 := Mid.start hC hP sv
  cases hq : q.pre
  · refine .inl ⟨hC.nopre hq, ?_, by simp⟩
    rw [preV_no hq]; exact h0
  · obtain ⟨F, cps, e0, mF, hpre⟩ := hC.pre hq
    refine .inr ⟨F, cps, e0, mF, fun w' hw => ?_⟩
    obtain ⟨own1, hci, hat, hg, hk, hs⟩ := Mid.at hC hP h0 hw
    refine (hpre w' s own1 x p pv nm it ix st idx hci (Bd.start (walkN_mono q _ _) hP.bd.1).1 hat).mono ?_
    rintro e w8 ⟨own2, rfl, hci2, hk2, hg2⟩
    exact ⟨_, rfl, Mid.next hat.app hat.aw.1 hg hk hs hci2 hk2 hg2, by simp⟩
theorem fn_post (hC : Client q ba fp fq CI) (hP : ApPre q CI ba fp fq w own s x p pv nm it ix st idx pv0 nm0 o0 nv0) {sv : Saved} {s1 : VSt} {w1 : World} (hM : Mid CI ba fp fq pv nm it x.val ix st sv w own s1 w1) (hb : s1.calls.length ≤ 40000 ∧ 0 ≤ s1.ends ∧ s1.ends ≤ 40000) :
    FnSo fq ba w1 (fun r w2 => Mid CI ba fp fq pv nm it x.val ix st sv w own (postV q x.node.kind x.node.text (spotAt p nm idx) s1).1 w2 ∧ r = (postV q x.node.kind x.node.text (spotAt p nm idx) s1).2) := by
  cases hq : q.post
  · refine .inl ⟨hC.nopost hq, ?_, ?_⟩ <;> simp [postV, hq]
    exact hM
  · obtain ⟨F, cps, e0, mF, hpost⟩ := hC.post hq
    refine .inr ⟨F, cps, e0, mF, fun w' hw => ?_⟩
    obtain ⟨own1, hci, hat, hg, hk, hs⟩ := Mid.at hC hP hM hw
    refine (hpost w' s1 own1 x p pv nm it ix st idx hci hb.1 hb.2.2 hb.2.1 hat).mono ?_
    rintro e w8 ⟨own2, rfl, hci2, hk2, hg2⟩
    exact ⟨_, rfl, Mid.next hat.app hat.aw.1 hg hk hs hci2 hk2 hg2, rfl⟩
/-- What the frame's answer comes to. -/
theorem ap_of_fr (hC : Client q ba fp fq CI) (hP : ApPre q CI ba fp fq w own s x p pv nm it ix st idx pv0 nm0 o0 nv0) {sv : Saved} {o : VSt × Bool} {R Pn : World → Prop} {e : Ending} {w' : World}
    (hR : ∀ w1, R w1 → ∃ s', o = (s', true) ∧ Mid CI ba fp fq pv nm it x.val ix st sv w own s' w1) (hN : ∀ w1, Pn w1 → Gone CI ba w own o w1)
    (h : FrOut ba pv0 nm0 (.pointer o0) nv0 R Pn e w') : ApSo CI ba (appCells fp fq pv0 nm0 (.pointer o0) nv0 ix st) own w o e w' := by
  rcases h with ⟨rfl, w1, hr, rfl⟩ | ⟨rfl, hp⟩
  · obtain ⟨s', rfl, own1, hci, ha, hs, hk, hg⟩ := hR w1 hr
    have hm : ba ∈ [ba] := List.mem_cons_self
    have hba : ba ∉ own1 := hg.not hP.aw.1 (Blk.lt hP.app)
    have hk4 : Kept [ba] w1 (R4 w1 ba pv0 nm0 (.pointer o0) nv0) := ((((Kept.refl [ba] w1).set (p := ⟨ba, 2, none⟩) (.inl hm) pv0).set (p := ⟨ba, 3, none⟩) (.inl hm) (.string nm0)).set (p := ⟨ba, 4, none⟩) (.inl hm) (.pointer o0)).set (p := ⟨ba, 5, none⟩) (.inl hm) nv0
    refine ⟨own1, ?_, hk.trans hk4 (fun b hb => .inl (by simp at hb; simp [hb])), hg, .inl ⟨rfl, rfl, (((Blk.set_ ha 2 pv0).set_ 3 (.string nm0)).set_ 4 (.pointer o0)).set_ 5 nv0⟩⟩
    exact hC.kept s' w1 _ own1 hci hk4.1 (fun k hk1 => hk4.2 k (hC.lt s' w1 own1 hci k hk1) (by simp; exact fun e => hba (e ▸ hk1)))
  · obtain ⟨ho, own1, hci, hk, hg, cs', hb⟩ := hN w' hp
    exact ⟨own1, hci, hk, hg, .inr ⟨rfl, ho, cs', hb⟩⟩
/-- A node below: its call of apply, seen from the one above. -/
theorem mid_kid (hC : Client q ba fp fq CI) (hP : ApPre q CI ba fp fq w own s x p pv nm it ix st idx pv0 nm0 o0 nv0) {sv : Saved} {s1 : VSt} {w1 : World} {ix' st' : Int} (hM : Mid CI ba fp fq pv nm it x.val ix' st' sv w own s1 w1) (y : AE) (nk : ByteArray) (itk : Value) (idxk : Int) (hidx : IdxIn ba itk ix' idxk)
    (hy : ∀ w', x.In w' → y.In w') (hyb : ∀ b ∈ y.blocks, b ∈ x.blocks) (hbd : Bd (walkN q y.node (spotAt (some x) nk idxk) s1) ∧ 0 ≤ s1.ends)
    (IH : ∀ w' own' pv0 nm0 o0 nv0, ApPre q CI ba fp fq w' own' s1 y (some x) x.val nk itk ix' st' idxk pv0 nm0 o0 nv0 → Calls Tryz.prog 68 #[.pointer (some ⟨ba, 0, none⟩), x.val, .string nk, itk, y.val] w' (ApSo CI ba (appCells fp fq pv0 nm0 (.pointer o0) nv0 ix' st') own' w' (walkN q y.node (spotAt (some x) nk idxk) s1))) :
    ∀ w', Sm w1 w' → Calls Tryz.prog 68 #[.pointer (some ⟨ba, 0, none⟩), x.val, .string nk, itk, y.val] w'
      (ApOut (fun w2 => (walkN q y.node (spotAt (some x) nk idxk) s1).2 = true ∧ Mid CI ba fp fq pv nm it x.val ix' st' sv w own (walkN q y.node (spotAt (some x) nk idxk) s1).1 w2) (Gone CI ba w own (walkN q y.node (spotAt (some x) nk idxk) s1))) := by
  intro w' hw
  obtain ⟨own1, hci, ha1, hx, _, hgl, haw, hax, _, hg, hk, hs⟩ := Mid.parts hC hP hM hw
  obtain ⟨o, rfl⟩ := hP.ixn.ptr
  have hold : OldCur pv x.val := by
    obtain ⟨t, u, rfl⟩ := ParIn.iface hP.pin
    obtain ⟨t', u', e⟩ := x.val_one
    exact .inr ⟨t, u, t', u', rfl, e⟩
  refine (IH w' own1 pv nm o x.val ⟨hci, ha1, hold, hy w' hx, ⟨rfl, hx⟩, hidx, hgl, ⟨haw.1, haw.2, hP.aw.2.2⟩, fun b hb => hax b (hyb b hb), hax, hbd⟩).mono ?_
  rintro e w8 ⟨own2, hci2, hk2, hg2, ⟨rfl, ho, ha⟩ | ⟨rfl, ho, cs', ha⟩⟩
  · exact .inl ⟨rfl, ho, own2, hci2, ha, hs.next hk2 hg2, hk.trans hk2 hg.cons, hg.trans hg2 hk.1⟩
  · exact .inr ⟨rfl, ho, own2, hci2, hk.trans hk2 hg.cons, hg.trans hg2 hk.1, cs', ha⟩
end
end Go.Proofs.YtgimbgpebpippaaGreatDoor
