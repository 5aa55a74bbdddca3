/- spec.Wrapped: the tree that is due. -/
import Derived.Test.YtgimbgpebpippaaGreatDoorRqC
namespace Go.Proofs.YtgimbgpebpippaaGreatDoor
open Go.RowKit
set_option maxRecDepth 100000
set_option maxHeartbeats 4000000
def WrapC (B0 : Nat) (nm : ByteArray) (k : Nat) : Prop := ∀ (n : ANode) (w : World), SizeOf.sizeOf n < k → n.In w B0 → B0 ≤ w.heap.size → V n.erase → Calls Tryz.prog 20 #[n.val, .string nm] w (MadeO B0 (n.erase.tr (rpWrap nm)) w)
theorem Tryz.callsSW (args : Array Value) (w : World) : (callFunc 45 args).run Tryz.prog w = .ok (.enter 45 args) w := by kernel_rfl
/-- The function that Wrapped hands on. -/
theorem wrapFn_any (B0 : Nat) (nm : ByteArray) (k : Nat) (ih : WrapC B0 nm k) (c : ANode) (w : World) (bf : Nat) (hs : SizeOf.sizeOf c < k) (hin : c.In w B0) (hB : B0 ≤ w.heap.size) (hv : V c.erase) (hq : Blk w bf 9 #[.string nm]) :
    Calls Tryz.prog 45 #[c.val, .pointer (some ⟨bf, 0, none⟩)] w (MadeO B0 (c.erase.tr (rpWrap nm)) w) := by
  have HI := fun w' (h : Below w.heap.size w w') => ih c w' hs (hin.below h hB) (Nat.le_trans hB h.size) hv
  have q0 : w.cell? ⟨bf, 0, none⟩ = some (.string nm) := hq.cell 0
  have zq := hq.lt
  unfold ANode.val at HI ⊢
  have HH := Lib.hid HI
  clear HI hin hv hq hs ih
  go_enter Tryz.func45, Tryz.ntmps45
  go_wp2_with fail
  refine (HH.out _ (by go_grown)).mono ?_
  rintro e w2 ⟨m, rfl, hmin, hme, hmb, hb2⟩
  have hbw : Below w.heap.size w w2 := Below.trans (by go_grown) (hb2.mono (by go_size))
  have rb : Blk w2 (w.heap.size + 1) 24 #[.string ⟨#[]⟩, .string ⟨#[]⟩, .slice none 0 0] := by
    have h0 := (Blk.new (w.alloc (.cells #[.string c.kind, .string c.text, .slice c.addr c.kids.length c.cap] 24)) 24 #[.string ⟨#[]⟩, .string ⟨#[]⟩, .slice none 0 0])
    simp only [World.size_alloc] at h0
    exact h0.below hb2 (by simp only [World.size_alloc]; omega)
  have r0 : w2.cell? ⟨w.heap.size + 1, 0, none⟩ = some (.string ⟨#[]⟩) := rb.cell 0
  have r1 : w2.cell? ⟨w.heap.size + 1, 1, none⟩ = some (.string ⟨#[]⟩) := rb.cell 1
  have r2 : w2.cell? ⟨w.heap.size + 1, 2, none⟩ = some (.slice none 0 0) := rb.cell 2
  have f0 := rb.frozen 0
  have f1 := rb.frozen 1
  have f2 := rb.frozen 2
  have hmb' : ∀ b ∈ m.rb, b < B0 ∨ w.heap.size + 1 < b := fun b hb => (hmb b hb).imp id (fun h => by simp only [World.size_alloc] at h; omega)
  have HM := Lib.hid (And.intro hmin (And.intro hme (And.intro hmb' (And.intro hbw rb))))
  clear hmin hme hmb hmb' hb2 hbw rb
  unfold ANode.val
  go_wp2_with fail
  refine bodyPost_ret (results_struct rfl rfl (load_node (((HM.out.2.2.2.2.set_ 0 (.string m.kind)).set_ 1 (.string m.text)).set_ 2 (.slice m.addr m.kids.length m.cap)) rfl rfl rfl)) rfl ?_
  exact MadeO.stored (r := w.heap.size + 1) (by omega) hB HM.out.1 HM.out.2.1 HM.out.2.2.1 HM.out.2.2.2.1 _ _ _
theorem specWrapped_any (B0 : Nat) (nm : ByteArray) (k : Nat) : WrapC B0 nm k := by
  induction k with
  | zero => intro n w hs; omega
  | succ k ih =>
  intro n w hs hin hB hv
  have HR := fun w' (h : Below w.heap.size w w') (hq : Blk w' (w.heap.size + 1) 9 #[.string nm]) => rebuilt_any (S := Node.tr (rpWrap nm)) (Q := fun w2 => Blk w2 (w.heap.size + 1) 9 #[.string nm]) (F := 45) (cps := #[.pointer (some ⟨w.heap.size + 1, 0, none⟩)]) n w' B0 (hin.below h hB) (Nat.le_trans hB h.size) (V_klen hv) hq
    ⟨Tryz.callsSW, fun _ _ hb hq => hq.below hb hq.lt, fun c hc w2 h1 h2 hq => by
      have := kid_of hc
      exact wrapFn_any B0 nm k ih c w2 (w.heap.size + 1) (by omega) h1 h2 (V_kid hv c hc) hq⟩
  have htx := hin.text
  obtain ⟨kd, tx, A, cp, ks⟩ := n
  have hcap : cp ≤ maxLen := hin.cap
  have hvv := hv
  simp only [ANode.erase, V, eraseL_length] at hvv
  simp only [ANode.kind, ANode.text, ANode.kids] at HR htx
  unfold ANode.val at HR ⊢
  simp only [ANode.kind, ANode.text, ANode.kids, ANode.addr, ANode.cap] at HR ⊢
  rw [show (ANode.mk kd tx A cp ks).erase = .mk kd tx (eraseL ks) from rfl]
  have hq0 : Blk (((w.alloc (.cells #[.string kd, .string tx, .slice A ks.length cp] 24)).alloc (.cells #[.string nm] 9)).alloc (.cells #[.string ⟨#[]⟩, .string ⟨#[]⟩, .slice none 0 0] 24)) (w.heap.size + 1) 9 #[.string nm] := by
    have h0 := (Blk.new (w.alloc (.cells #[.string kd, .string tx, .slice A ks.length cp] 24)) 9 #[.string nm]).alloc (.cells #[.string ⟨#[]⟩, .string ⟨#[]⟩, .slice none 0 0] 24)
    simpa only [World.size_alloc] using h0
  have HQ := Lib.hid hq0
  have HH := Lib.hid HR
  have HV := Lib.hid hvv
  clear HR hv hs hvv hq0 ih hin
  by_cases hk : kd = sName
  · subst hk
    have hl : ks = [] := by
      rcases HV.out.1 with ⟨_, _, h⟩ | ⟨h, _⟩ | ⟨h, _⟩ | ⟨h, _⟩ | ⟨h, _⟩ | ⟨h, _⟩ | ⟨h, _⟩
      · exact List.eq_nil_of_length_eq_zero h
      all_goals exact absurd h (by decide)
    subst hl
    rw [eraseL, tr_wrap_name]
    by_cases ht : tx = nm
    · subst ht
      rw [if_pos rfl]
      have hb : (tx.toList == tx.toList) = true := by simp
      clear HH HV HQ
      unfold sName
      go_enter Tryz.func20, Tryz.ntmps20
      go_wp2_with fail
      have hb2 : Blk ((((w.alloc (.cells #[.string ⟨#[110, 97, 109, 101]⟩, .string tx, .slice A 0 cp] 24)).alloc (.cells #[.string tx] 9)).alloc (.cells #[.string ⟨#[112, 97, 114, 101, 110]⟩, .string ⟨#[]⟩, .slice (some ⟨w.heap.size + 1 + 1 + 1, 0, none⟩) 1 1] 24)).alloc (.cells #[.string ⟨#[110, 97, 109, 101]⟩, .string tx, .slice A 0 cp] 24)) (w.heap.size + 1 + 1) 24 #[.string ⟨#[112, 97, 114, 101, 110]⟩, .string ⟨#[]⟩, .slice (some ⟨w.heap.size + 1 + 1 + 1, 0, none⟩) 1 1] := by
        have h0 := (Blk.new ((w.alloc (.cells #[.string ⟨#[110, 97, 109, 101]⟩, .string tx, .slice A 0 cp] 24)).alloc (.cells #[.string tx] 9)) 24 #[.string ⟨#[112, 97, 114, 101, 110]⟩, .string ⟨#[]⟩, .slice (some ⟨w.heap.size + 1 + 1 + 1, 0, none⟩) 1 1]).alloc (.cells #[.string ⟨#[110, 97, 109, 101]⟩, .string tx, .slice A 0 cp] 24)
        simpa only [World.size_alloc] using h0
      refine bodyPost_ret (results_struct rfl rfl (load_node hb2 rfl rfl rfl)) rfl ?_
      have hnew := Blk.new (((w.alloc (.cells #[.string ⟨#[110, 97, 109, 101]⟩, .string tx, .slice A 0 cp] 24)).alloc (.cells #[.string tx] 9)).alloc (.cells #[.string ⟨#[112, 97, 114, 101, 110]⟩, .string ⟨#[]⟩, .slice (some ⟨w.heap.size + 1 + 1 + 1, 0, none⟩) 1 1] 24)) 24 #[.string ⟨#[110, 97, 109, 101]⟩, .string tx, .slice A 0 cp]
      simp only [World.size_alloc] at hnew
      refine ⟨.mk sParen sEmpty (some ⟨w.heap.size + 1 + 1 + 1, 0, none⟩) 1 [.mk sName tx A cp []], rfl, ?_, rfl, ?_, by go_grown⟩
      · refine ⟨by decide, by decide, Nat.le_refl _, by decide, ⟨⟨w.heap.size + 1 + 1 + 1, 0, rfl, by simp only [World.size_alloc]; omega, ?_, ?_, ?_⟩, ⟨by decide, htx, Nat.zero_le _, hcap, trivial⟩, trivial⟩⟩
        · exact hnew.cell 0
        · exact hnew.cell 1
        · exact hnew.cell 2
      · intro b hb
        have e : b = w.heap.size + 1 + 1 + 1 := by simpa [ANode.rb, rbL, hdBlk, addrBlk] using hb
        exact .inr (by omega)
    · have hb := beq_of_ne ht
      rw [if_neg ht]
      clear HV
      unfold sName at HH ⊢
      go_enter Tryz.func20, Tryz.ntmps20
      go_wp2_with fail
      refine (HH.out _ (by go_grown) HQ.out).mono ?_
      rintro e w2 ⟨m, rfl, hmin, hme, hmb, hb2⟩
      have hbw : Below w.heap.size w w2 := Below.trans (by go_grown) (hb2.mono (by go_size))
      have rb : Blk w2 (w.heap.size + 1 + 1) 24 #[.string ⟨#[]⟩, .string ⟨#[]⟩, .slice none 0 0] := by
        have h0 := (Blk.new ((w.alloc (.cells #[.string ⟨#[110, 97, 109, 101]⟩, .string tx, .slice A ([] : List ANode).length cp] 24)).alloc (.cells #[.string nm] 9)) 24 #[.string ⟨#[]⟩, .string ⟨#[]⟩, .slice none 0 0])
        simp only [World.size_alloc] at h0
        exact h0.below hb2 (by simp only [World.size_alloc]; omega)
      have r0 : w2.cell? ⟨w.heap.size + 1 + 1, 0, none⟩ = some (.string ⟨#[]⟩) := rb.cell 0
      have r1 : w2.cell? ⟨w.heap.size + 1 + 1, 1, none⟩ = some (.string ⟨#[]⟩) := rb.cell 1
      have r2 : w2.cell? ⟨w.heap.size + 1 + 1, 2, none⟩ = some (.slice none 0 0) := rb.cell 2
      have f0 := rb.frozen 0
      have f1 := rb.frozen 1
      have f2 := rb.frozen 2
      have hmb' : ∀ b ∈ m.rb, b < B0 ∨ w.heap.size + 1 + 1 < b := fun b hb => (hmb b hb).imp id (fun h => by simp only [World.size_alloc] at h; omega)
      have HM := Lib.hid (And.intro hmin (And.intro hme (And.intro hmb' (And.intro hbw rb))))
      clear hmin hme hmb hmb' hb2 hbw rb
      unfold ANode.val
      go_wp2_with fail
      refine bodyPost_ret (results_struct rfl rfl (load_node (((HM.out.2.2.2.2.set_ 0 (.string m.kind)).set_ 1 (.string m.text)).set_ 2 (.slice m.addr m.kids.length m.cap)) rfl rfl rfl)) rfl ?_
      exact MadeO.stored (r := w.heap.size + 1 + 1) (by omega) hB HM.out.1 HM.out.2.1 HM.out.2.2.1 HM.out.2.2.2.1 _ _ _
  · have hkn := kindNe listName hk
    clear HV
    rw [tr_wrap_other _ _ _ hk, Node.trL_map]
    go_enter Tryz.func20, Tryz.ntmps20
    go_wp2_with fail
    refine (HH.out _ (by go_grown) HQ.out).mono ?_
    rintro e w2 ⟨m, rfl, hmin, hme, hmb, hb2⟩
    have hbw : Below w.heap.size w w2 := Below.trans (by go_grown) (hb2.mono (by go_size))
    have rb : Blk w2 (w.heap.size + 1 + 1) 24 #[.string ⟨#[]⟩, .string ⟨#[]⟩, .slice none 0 0] := by
      have h0 := (Blk.new ((w.alloc (.cells #[.string kd, .string tx, .slice A ks.length cp] 24)).alloc (.cells #[.string nm] 9)) 24 #[.string ⟨#[]⟩, .string ⟨#[]⟩, .slice none 0 0])
      simp only [World.size_alloc] at h0
      exact h0.below hb2 (by simp only [World.size_alloc]; omega)
    have r0 : w2.cell? ⟨w.heap.size + 1 + 1, 0, none⟩ = some (.string ⟨#[]⟩) := rb.cell 0
    have r1 : w2.cell? ⟨w.heap.size + 1 + 1, 1, none⟩ = some (.string ⟨#[]⟩) := rb.cell 1
    have r2 : w2.cell? ⟨w.heap.size + 1 + 1, 2, none⟩ = some (.slice none 0 0) := rb.cell 2
    have f0 := rb.frozen 0
    have f1 := rb.frozen 1
    have f2 := rb.frozen 2
    have hmb' : ∀ b ∈ m.rb, b < B0 ∨ w.heap.size + 1 + 1 < b := fun b hb => (hmb b hb).imp id (fun h => by simp only [World.size_alloc] at h; omega)
    have HM := Lib.hid (And.intro hmin (And.intro hme (And.intro hmb' (And.intro hbw rb))))
    clear hmin hme hmb hmb' hb2 hbw rb
    unfold ANode.val
    go_wp2_with fail
    refine bodyPost_ret (results_struct rfl rfl (load_node (((HM.out.2.2.2.2.set_ 0 (.string m.kind)).set_ 1 (.string m.text)).set_ 2 (.slice m.addr m.kids.length m.cap)) rfl rfl rfl)) rfl ?_
    exact MadeO.stored (r := w.heap.size + 1 + 1) (by omega) hB HM.out.1 HM.out.2.1 HM.out.2.2.1 HM.out.2.2.2.1 _ _ _
end Go.Proofs.YtgimbgpebpippaaGreatDoor
