/- spec.Renamed: the tree that is due. -/
import Derived.Test.YtgimbgpebpippaaGreatDoorRqD
namespace Go.Proofs.YtgimbgpebpippaaGreatDoor
open Go.RowKit
set_option maxRecDepth 100000
set_option maxHeartbeats 4000000
theorem MadeO.alloc {B0 : Nat} {M : Node} {w W : World} {e : Ending} (h : MadeO B0 M w e W) (o : Obj) : MadeO B0 M w e (W.alloc o) := by
  obtain ⟨n, h1, h2, h3, h4, h5⟩ := h
  refine ⟨n, h1, ?_, h3, h4, h5.alloc h5.size o⟩
  rw [World.size_alloc]
  exact ANode.In.samer n (fun b hb => Below.heap_alloc W o b (ANode.In.rb_lt n h2 b hb)) (ANode.In.more (Nat.le_succ _) n h2)
def RenC (B0 : Nat) (fr tw : ByteArray) (k : Nat) : Prop := ∀ (n : ANode) (w : World), SizeOf.sizeOf n < k → n.In w B0 → B0 ≤ w.heap.size → V n.erase → Calls Tryz.prog 22 #[n.val, .string fr, .string tw] w (MadeO B0 (n.erase.tr (rpRen fr tw)) w)
theorem Tryz.callsSR (args : Array Value) (w : World) : (callFunc 48 args).run Tryz.prog w = .ok (.enter 48 args) w := by kernel_rfl
/-- The function that Renamed hands on. -/
theorem renFn_any (B0 : Nat) (fr tw : ByteArray) (k : Nat) (ih : RenC B0 fr tw k) (c : ANode) (w : World) (bf bt : Nat) (hs : SizeOf.sizeOf c < k) (hin : c.In w B0) (hB : B0 ≤ w.heap.size) (hv : V c.erase) (hq : Blk w bf 9 #[.string fr]) (hq2 : Blk w bt 9 #[.string tw]) :
    Calls Tryz.prog 48 #[c.val, .pointer (some ⟨bf, 0, none⟩), .pointer (some ⟨bt, 0, none⟩)] w (MadeO B0 (c.erase.tr (rpRen fr tw)) w) := by
  have HI := fun w' (h : Below w.heap.size w w') => ih c w' hs (hin.below h hB) (Nat.le_trans hB h.size) hv
  have q0 : w.cell? ⟨bf, 0, none⟩ = some (.string fr) := hq.cell 0
  have q1 : w.cell? ⟨bt, 0, none⟩ = some (.string tw) := hq2.cell 0
  have zq := hq.lt
  have zq2 := hq2.lt
  unfold ANode.val at HI ⊢
  have HH := Lib.hid HI
  clear HI hin hv hq hq2 hs ih
  go_enter Tryz.func48, Tryz.ntmps48
  go_wp2_with fail
  refine (HH.out _ (by go_grown)).mono ?_
  rintro e w2 ⟨m, rfl, hmin, hme, hmb, hb2⟩
  have hbw : Below w.heap.size w w2 := Below.trans (by go_grown) (hb2.mono (by go_size))
  have rb : Blk w2 (w.heap.size + 1) 24 #[.string ⟨#[]⟩, .string ⟨#[]⟩, .slice none 0 0] := by
    have h0 := (Blk.new (w.alloc (.cells #[.string c.kind, .string c.text, .slice c.addr c.kids.length c.cap] 24)) 24 #[.string ⟨#[]⟩, .string ⟨#[]⟩, .slice none 0 0])
    simp only [World.size_alloc] at h0
    exact h0.below hb2 (by simp only [World.size_alloc]; omega)
  have r0 : w2.cell? ⟨w.heap.size + 1, 0, none⟩ = some (.string ⟨#[]⟩) := rb.cell 0
  have r1 : w2.cell? ⟨w.heap.size + 1, 1, none⟩ = some (.string ⟨#[]⟩) := rb.cell 1
  have r2 : w2.cell? ⟨w.heap.size + 1, 2, none⟩ = some (.slice none 0 0) := rb.cell 2
  have f0 := rb.frozen 0
  have f1 := rb.frozen 1
  have f2 := rb.frozen 2
  have hmb' : ∀ b ∈ m.rb, b < B0 ∨ w.heap.size + 1 < b := fun b hb => (hmb b hb).imp id (fun h => by simp only [World.size_alloc] at h; omega)
  have HM := Lib.hid (And.intro hmin (And.intro hme (And.intro hmb' (And.intro hbw rb))))
  clear hmin hme hmb hmb' hb2 hbw rb
  unfold ANode.val
  go_wp2_with fail
  refine bodyPost_ret (results_struct rfl rfl (load_node (((HM.out.2.2.2.2.set_ 0 (.string m.kind)).set_ 1 (.string m.text)).set_ 2 (.slice m.addr m.kids.length m.cap)) rfl rfl rfl)) rfl ?_
  exact MadeO.stored (r := w.heap.size + 1) (by omega) hB HM.out.1 HM.out.2.1 HM.out.2.2.1 HM.out.2.2.2.1 _ _ _
theorem specRenamed_any (B0 : Nat) (fr tw : ByteArray) (htw : tw.size ≤ maxLen) (k : Nat) : RenC B0 fr tw k := by
  induction k with
  | zero => intro n w hs; omega
  | succ k ih =>
  intro n w hs hin hB hv
  have HR := fun w' (h : Below w.heap.size w w') (hq : Blk w' (w.heap.size + 1) 9 #[.string fr] ∧ Blk w' (w.heap.size + 1 + 1) 9 #[.string tw]) => rebuilt_any (S := Node.tr (rpRen fr tw)) (Q := fun w2 => Blk w2 (w.heap.size + 1) 9 #[.string fr] ∧ Blk w2 (w.heap.size + 1 + 1) 9 #[.string tw]) (F := 48) (cps := #[.pointer (some ⟨w.heap.size + 1, 0, none⟩), .pointer (some ⟨w.heap.size + 1 + 1, 0, none⟩)]) n w' B0 (hin.below h hB) (Nat.le_trans hB h.size) (V_klen hv) hq
    ⟨Tryz.callsSR, fun _ _ hb hq => ⟨hq.1.below hb hq.1.lt, hq.2.below hb hq.2.lt⟩, fun c hc w2 h1 h2 hq => by
      have := kid_of hc
      exact renFn_any B0 fr tw k ih c w2 (w.heap.size + 1) (w.heap.size + 1 + 1) (by omega) h1 h2 (V_kid hv c hc) hq.1 hq.2⟩
  obtain ⟨kd, tx, A, cp, ks⟩ := n
  have hvv := hv
  simp only [ANode.erase, V, eraseL_length] at hvv
  have hnk : kd = sName → eraseL ks = [] := by
    rintro rfl
    rcases hvv.1 with ⟨_, _, h⟩ | ⟨h, _⟩ | ⟨h, _⟩ | ⟨h, _⟩ | ⟨h, _⟩ | ⟨h, _⟩ | ⟨h, _⟩
    · rw [List.eq_nil_of_length_eq_zero h]; rfl
    all_goals exact absurd h (by decide)
  simp only [ANode.kind, ANode.text, ANode.kids] at HR
  unfold ANode.val at HR ⊢
  simp only [ANode.kind, ANode.text, ANode.kids, ANode.addr, ANode.cap] at HR ⊢
  rw [show (ANode.mk kd tx A cp ks).erase = .mk kd tx (eraseL ks) from rfl, tr_ren fr tw kd tx (eraseL ks) hnk, Node.trL_map]
  obtain ⟨tt, htt⟩ : ∃ tt, tt = (if (kd = sName ∨ kd = sSel) ∧ tx = fr then tw else tx) := ⟨_, rfl⟩
  rw [← htt]
  have HT := Lib.hid htt
  clear htt
  have hq0 : Blk ((((w.alloc (.cells #[.string kd, .string tx, .slice A ks.length cp] 24)).alloc (.cells #[.string fr] 9)).alloc (.cells #[.string tw] 9)).alloc (.cells #[.string ⟨#[]⟩, .string ⟨#[]⟩, .slice none 0 0] 24)) (w.heap.size + 1) 9 #[.string fr] ∧ Blk ((((w.alloc (.cells #[.string kd, .string tx, .slice A ks.length cp] 24)).alloc (.cells #[.string fr] 9)).alloc (.cells #[.string tw] 9)).alloc (.cells #[.string ⟨#[]⟩, .string ⟨#[]⟩, .slice none 0 0] 24)) (w.heap.size + 1 + 1) 9 #[.string tw] := by
    have h0 := ((Blk.new (w.alloc (.cells #[.string kd, .string tx, .slice A ks.length cp] 24)) 9 #[.string fr]).alloc (.cells #[.string tw] 9)).alloc (.cells #[.string ⟨#[]⟩, .string ⟨#[]⟩, .slice none 0 0] 24)
    have h1 := (Blk.new ((w.alloc (.cells #[.string kd, .string tx, .slice A ks.length cp] 24)).alloc (.cells #[.string fr] 9)) 9 #[.string tw]).alloc (.cells #[.string ⟨#[]⟩, .string ⟨#[]⟩, .slice none 0 0] 24)
    simp only [World.size_alloc] at h0 h1
    exact ⟨h0, h1⟩
  have HQ := Lib.hid hq0
  have HH := Lib.hid HR
  clear HR hv hs hvv hq0 ih hin hnk
  go_enter Tryz.func22, Tryz.ntmps22
  go_wp2_with fail
  refine (HH.out _ (by go_grown) HQ.out).mono ?_
  rintro e w2 ⟨m, rfl, hmin, hme, hmb, hb2⟩
  have hbw : Below w.heap.size w w2 := Below.trans (by go_grown) (hb2.mono (by go_size))
  have rb : Blk w2 (w.heap.size + 1 + 1 + 1) 24 #[.string ⟨#[]⟩, .string ⟨#[]⟩, .slice none 0 0] := by
    have h0 := (Blk.new (((w.alloc (.cells #[.string kd, .string tx, .slice A ks.length cp] 24)).alloc (.cells #[.string fr] 9)).alloc (.cells #[.string tw] 9)) 24 #[.string ⟨#[]⟩, .string ⟨#[]⟩, .slice none 0 0])
    simp only [World.size_alloc] at h0
    exact h0.below hb2 (by simp only [World.size_alloc]; omega)
  have r0 : w2.cell? ⟨w.heap.size + 1 + 1 + 1, 0, none⟩ = some (.string ⟨#[]⟩) := rb.cell 0
  have r1 : w2.cell? ⟨w.heap.size + 1 + 1 + 1, 1, none⟩ = some (.string ⟨#[]⟩) := rb.cell 1
  have r2 : w2.cell? ⟨w.heap.size + 1 + 1 + 1, 2, none⟩ = some (.slice none 0 0) := rb.cell 2
  have f0 := rb.frozen 0
  have f1 := rb.frozen 1
  have f2 := rb.frozen 2
  have hmb' : ∀ b ∈ m.rb, b < B0 ∨ w.heap.size + 1 + 1 + 1 < b := fun b hb => (hmb b hb).imp id (fun h => by simp only [World.size_alloc] at h; omega)
  have hn0 := ((((Blk.new w 24 #[.string kd, .string tx, .slice A ks.length cp]).alloc (.cells #[.string fr] 9)).alloc (.cells #[.string tw] 9)).alloc (.cells #[.string ⟨#[]⟩, .string ⟨#[]⟩, .slice none 0 0] 24)).below hb2 (by simp only [World.size_alloc]; omega)
  have hq1 := HQ.out.1.below hb2 HQ.out.1.lt
  have hq2 := HQ.out.2.below hb2 HQ.out.2.lt
  have n0 : w2.cell? ⟨w.heap.size, 0, none⟩ = some (.string kd) := hn0.cell 0
  have n1 : w2.cell? ⟨w.heap.size, 1, none⟩ = some (.string tx) := hn0.cell 1
  have p0 : w2.cell? ⟨w.heap.size + 1, 0, none⟩ = some (.string fr) := hq1.cell 0
  have p1 : w2.cell? ⟨w.heap.size + 1 + 1, 0, none⟩ = some (.string tw) := hq2.cell 0
  have z0 := hn0.lt
  have z1 := hq1.lt
  have z2 := hq2.lt
  have z3 := rb.lt
  clear hn0 hq1 hq2
  have HM := Lib.hid (And.intro hmin (And.intro hme (And.intro hmb' (And.intro hbw rb))))
  clear hmin hme hmb hmb' hb2 hbw rb
  have HIn : Hid (∀ t : ByteArray, t.size ≤ maxLen → (ANode.mk m.kind t m.addr m.cap m.kids).In w2 w2.heap.size) := fun t ht => by
    obtain ⟨k', t', A', c', ks'⟩ := m
    have h := HM.out.1
    exact ⟨h.1, ht, h.2.2.1, h.2.2.2.1, h.2.2.2.2⟩
  have HRb : Hid (∀ t, m.rb = (ANode.mk m.kind t m.addr m.cap m.kids).rb) := fun t => by cases m; rfl
  have HMe : Hid (m.kind = kd ∧ m.text = tx ∧ eraseL m.kids = (eraseL ks).map (Node.tr (rpRen fr tw))) := by
    have h := HM.out.2.1
    obtain ⟨k', t', A', c', ks'⟩ := m
    rw [ANode.erase] at h
    injection h with h1 h2 h3
    exact ⟨h1, h2, h3⟩
  have HEr : Hid (∀ t, (ANode.mk m.kind t m.addr m.cap m.kids).erase = .mk kd t ((eraseL ks).map (Node.tr (rpRen fr tw)))) := fun t => by
    rw [ANode.erase, HMe.out.1, HMe.out.2.2]
  unfold ANode.val
  by_cases ht : tx = fr
  · have hb : (tx.toList == fr.toList) = true := beq_of_eq ht
    by_cases hk : kd = sName
    · have hkb : (kd.toList == [110, 97, 109, 101]) = true := by rw [hk, listName]; rfl
      have e : tt = tw := by rw [HT.out, if_pos ⟨.inl hk, ht⟩]
      clear hk ht
      go_wp2_with fail
      have rb4 := (((HM.out.2.2.2.2.set_ 0 (.string m.kind)).set_ 1 (.string tw)).set_ 2 (.slice m.addr m.kids.length m.cap)).alloc (.cells #[.string m.kind, .string tw, .slice m.addr m.kids.length m.cap] 24)
      refine bodyPost_ret (results_struct rfl rfl (load_node rb4 rfl rfl rfl)) rfl ?_
      rw [e]
      exact MadeO.alloc (MadeO.stored (m := (ANode.mk m.kind tw m.addr m.cap m.kids)) (r := w.heap.size + 1 + 1 + 1) (by omega) hB (HIn.out tw htw) (HEr.out tw) (fun b hb => HM.out.2.2.1 b (by rw [HRb.out tw]; exact hb)) HM.out.2.2.2.1 _ _ _) _
    · have hkb := kindNe listName hk
      by_cases hs : kd = sSel
      · have hsb : (kd.toList == [115, 101, 108, 101, 99, 116, 111, 114]) = true := by rw [hs, listSel]; rfl
        have e : tt = tw := by rw [HT.out, if_pos ⟨.inr hs, ht⟩]
        clear hs ht
        go_wp2_with fail
        have rb4 := (((HM.out.2.2.2.2.set_ 0 (.string m.kind)).set_ 1 (.string tw)).set_ 2 (.slice m.addr m.kids.length m.cap)).alloc (.cells #[.string m.kind, .string tw, .slice m.addr m.kids.length m.cap] 24)
        refine bodyPost_ret (results_struct rfl rfl (load_node rb4 rfl rfl rfl)) rfl ?_
        rw [e]
        exact MadeO.alloc (MadeO.stored (m := (ANode.mk m.kind tw m.addr m.cap m.kids)) (r := w.heap.size + 1 + 1 + 1) (by omega) hB (HIn.out tw htw) (HEr.out tw) (fun b hb => HM.out.2.2.1 b (by rw [HRb.out tw]; exact hb)) HM.out.2.2.2.1 _ _ _) _
      · have hsb := kindNe listSel hs
        have e : tt = m.text := by rw [HT.out, if_neg (fun h => by rcases h.1 with h | h; exact hk h; exact hs h), HMe.out.2.1]
        clear ht
        go_wp2_with fail
        have rb4 := (((HM.out.2.2.2.2.set_ 0 (.string m.kind)).set_ 1 (.string m.text)).set_ 2 (.slice m.addr m.kids.length m.cap)).alloc (.cells #[.string m.kind, .string m.text, .slice m.addr m.kids.length m.cap] 24)
        refine bodyPost_ret (results_struct rfl rfl (load_node rb4 rfl rfl rfl)) rfl ?_
        rw [e]
        exact MadeO.alloc (MadeO.stored (m := (ANode.mk m.kind m.text m.addr m.cap m.kids)) (r := w.heap.size + 1 + 1 + 1) (by omega) hB (HIn.out m.text HM.out.1.text) (HEr.out m.text) (fun b hb => HM.out.2.2.1 b (by rw [HRb.out m.text]; exact hb)) HM.out.2.2.2.1 _ _ _) _
  · have hb := beq_of_ne ht
    have e : tt = m.text := by rw [HT.out, if_neg (fun h => ht h.2), HMe.out.2.1]
    by_cases hk : kd = sName
    · have hkb : (kd.toList == [110, 97, 109, 101]) = true := by rw [hk, listName]; rfl
      clear hk
      go_wp2_with fail
      have rb4 := (((HM.out.2.2.2.2.set_ 0 (.string m.kind)).set_ 1 (.string m.text)).set_ 2 (.slice m.addr m.kids.length m.cap)).alloc (.cells #[.string m.kind, .string m.text, .slice m.addr m.kids.length m.cap] 24)
      refine bodyPost_ret (results_struct rfl rfl (load_node rb4 rfl rfl rfl)) rfl ?_
      rw [e]
      exact MadeO.alloc (MadeO.stored (m := (ANode.mk m.kind m.text m.addr m.cap m.kids)) (r := w.heap.size + 1 + 1 + 1) (by omega) hB (HIn.out m.text HM.out.1.text) (HEr.out m.text) (fun b hb => HM.out.2.2.1 b (by rw [HRb.out m.text]; exact hb)) HM.out.2.2.2.1 _ _ _) _
    · have hkb := kindNe listName hk
      by_cases hs : kd = sSel
      · have hsb : (kd.toList == [115, 101, 108, 101, 99, 116, 111, 114]) = true := by rw [hs, listSel]; rfl
        clear hs
        go_wp2_with fail
        have rb4 := (((HM.out.2.2.2.2.set_ 0 (.string m.kind)).set_ 1 (.string m.text)).set_ 2 (.slice m.addr m.kids.length m.cap)).alloc (.cells #[.string m.kind, .string m.text, .slice m.addr m.kids.length m.cap] 24)
        refine bodyPost_ret (results_struct rfl rfl (load_node rb4 rfl rfl rfl)) rfl ?_
        rw [e]
        exact MadeO.alloc (MadeO.stored (m := (ANode.mk m.kind m.text m.addr m.cap m.kids)) (r := w.heap.size + 1 + 1 + 1) (by omega) hB (HIn.out m.text HM.out.1.text) (HEr.out m.text) (fun b hb => HM.out.2.2.1 b (by rw [HRb.out m.text]; exact hb)) HM.out.2.2.2.1 _ _ _) _
      · have hsb := kindNe listSel hs
        go_wp2_with fail
        have rb4 := (((HM.out.2.2.2.2.set_ 0 (.string m.kind)).set_ 1 (.string m.text)).set_ 2 (.slice m.addr m.kids.length m.cap)).alloc (.cells #[.string m.kind, .string m.text, .slice m.addr m.kids.length m.cap] 24)
        refine bodyPost_ret (results_struct rfl rfl (load_node rb4 rfl rfl rfl)) rfl ?_
        rw [e]
        exact MadeO.alloc (MadeO.stored (m := (ANode.mk m.kind m.text m.addr m.cap m.kids)) (r := w.heap.size + 1 + 1 + 1) (by omega) hB (HIn.out m.text HM.out.1.text) (HEr.out m.text) (fun b hb => HM.out.2.2.1 b (by rw [HRb.out m.text]; exact hb)) HM.out.2.2.2.1 _ _ _) _
end Go.Proofs.YtgimbgpebpippaaGreatDoor
