/- spec.Unwrapped: the tree that is due. -/
import Derived.Test.YtgimbgpebpippaaGreatDoorRqA
import Derived.Test.YtgimbgpebpippaaGreatDoorRpD
namespace Go.Proofs.YtgimbgpebpippaaGreatDoor
open Go.RowKit
set_option maxRecDepth 100000
set_option maxHeartbeats 4000000
theorem Node.trL_map (rp : Bool → Node → Node) : ∀ l : List Node, Node.trL rp l = l.map (Node.tr rp)
  | [] => rfl
  | n :: ns => by rw [Node.trL, Node.trL_map rp ns]; rfl
theorem V_kid {n : ANode} (h : V n.erase) : ∀ c ∈ n.kids, V c.erase := by
  obtain ⟨k, t, A, cp, ks⟩ := n
  simp only [ANode.erase, V] at h
  intro c hc
  exact (VL_iff _).1 h.2 _ (by rw [eraseL_eq]; exact List.mem_map_of_mem hc)
theorem V_klen {n : ANode} (h : V n.erase) : n.kids.length ≤ 1000 := by
  obtain ⟨k, t, A, cp, ks⟩ := n
  simp only [ANode.erase, V, eraseL_length] at h
  show ks.length ≤ 1000
  rcases h.1 with h | h | h | h | h | h | h <;> omega
theorem kindNe {k s : ByteArray} {l : List UInt8} (hl : s.toList = l) (h : k ≠ s) : (k.toList == l) = false := by
  rw [← hl]; exact beq_of_ne h
theorem listParen : sParen.toList = [112, 97, 114, 101, 110] := ByteArray.toList_mk _
theorem listName : sName.toList = [110, 97, 109, 101] := ByteArray.toList_mk _
theorem listSel : sSel.toList = [115, 101, 108, 101, 99, 116, 111, 114] := ByteArray.toList_mk _
/-- What is made below a node where its parents' blocks are old. -/
theorem kid_of {n c : ANode} (hc : c ∈ n.kids) : SizeOf.sizeOf c < SizeOf.sizeOf n := by
  obtain ⟨i, hi⟩ := List.getElem?_of_mem hc
  exact ANode.sizeOf_kid hi
def UnwrC (B0 k : Nat) : Prop := ∀ (n : ANode) (w : World), SizeOf.sizeOf n < k → n.In w B0 → B0 ≤ w.heap.size → V n.erase → Calls Tryz.prog 18 #[n.val] w (MadeO B0 (n.erase.tr rpUn) w)
theorem Tryz.callsSU (args : Array Value) (w : World) : (callFunc 18 args).run Tryz.prog w = .ok (.enter 18 args) w := by kernel_rfl
theorem specUnwrapped_any (B0 k : Nat) : UnwrC B0 k := by
  induction k with
  | zero => intro n w hs; omega
  | succ k ih =>
  intro n w hs hin hB hv
  have HR := fun w' (h : Below w.heap.size w w') => rebuilt_any (S := Node.tr rpUn) (Q := fun _ => True) (F := 18) (cps := #[]) n w' B0 (hin.below h hB) (Nat.le_trans hB h.size) (V_klen hv) trivial
    ⟨Tryz.callsSU, fun _ _ _ _ => trivial, fun c hc w2 h1 h2 _ => by
      have := kid_of hc
      simpa using ih c w2 (by omega) h1 h2 (V_kid hv c hc)⟩
  have hvk := V_kid hv
  have hks := fun c (hc : c ∈ n.kids) => kid_of hc
  have hkid := fun i kid (h : n.kids[i]? = some kid) => hin.kid h
  obtain ⟨kd, tx, A, cp, ks⟩ := n
  have hvv := hv
  simp only [ANode.erase, V, eraseL_length] at hvv
  simp only [ANode.kind, ANode.text, ANode.kids] at HR hvk hks hkid
  unfold ANode.val at HR ⊢
  simp only [ANode.kind, ANode.text, ANode.kids, ANode.addr, ANode.cap] at HR ⊢
  by_cases hk : kd = sParen
  · subst hk
    have hl : ks.length = 1 ∧ tx = sEmpty := by
      rcases hvv.1 with ⟨h | h, _⟩ | ⟨h, _⟩ | ⟨_, h1, h2⟩ | ⟨h, _⟩ | ⟨h, _⟩ | ⟨h, _⟩ | ⟨h, _⟩
      · exact absurd h (by decide)
      · exact absurd h (by decide)
      · exact absurd h (by decide)
      · exact ⟨h2, h1⟩
      · exact absurd h (by decide)
      · exact absurd h (by decide)
      · exact absurd h (by decide)
      · exact absurd h (by decide)
    obtain ⟨c, rfl⟩ := List.length_eq_one_iff.1 hl.1
    obtain ⟨⟨b, off, hA, hbL, c0, c1, c2⟩, hcin⟩ := hkid 0 c rfl
    have hA2 : A = some ⟨b, off, none⟩ := hA
    clear hA
    subst hA2
    simp only [Nat.zero_mul, Nat.add_zero] at c0 c1 c2
    have hbw : b < w.heap.size := by omega
    have HI := fun w' (h : Below w.heap.size w w') => ih c w' (by have := hks c (by simp); omega) (hcin.below h hB) (Nat.le_trans hB h.size) (hvk c (by simp))
    unfold ANode.val at HI
    have HH := Lib.hid HI
    clear HI HR hkid hks hvk hvv hcin hin hv hs
    rw [show (ANode.mk sParen tx (some ⟨b, off, none⟩) cp [c]).erase = .mk sParen tx [c.erase] from rfl, tr_un_paren]
    unfold sParen
    go_enter Tryz.func18, Tryz.ntmps18
    go_wp2_with fail
    -- ENDING 1
    refine (HH.out _ (by go_grown)).mono ?_
    rintro e w2 ⟨m, rfl, hmin, hme, hmb, hb2⟩
    have hbw : Below w.heap.size w w2 := Below.trans (by go_grown) (hb2.mono (by go_size))
    have rb : Blk w2 (w.heap.size + 1) 24 #[.string ⟨#[]⟩, .string ⟨#[]⟩, .slice none 0 0] := by
      have h0 := (Blk.new (w.alloc (.cells #[.string ⟨#[112, 97, 114, 101, 110]⟩, .string sEmpty, .slice (some ⟨b, off, none⟩) 1 cp] 24)) 24 #[.string ⟨#[]⟩, .string ⟨#[]⟩, .slice none 0 0])
      simp only [World.size_alloc] at h0
      exact h0.below hb2 (by simp only [World.size_alloc]; omega)
    have r0 : w2.cell? ⟨w.heap.size + 1, 0, none⟩ = some (.string ⟨#[]⟩) := rb.cell 0
    have r1 : w2.cell? ⟨w.heap.size + 1, 1, none⟩ = some (.string ⟨#[]⟩) := rb.cell 1
    have r2 : w2.cell? ⟨w.heap.size + 1, 2, none⟩ = some (.slice none 0 0) := rb.cell 2
    have f0 := rb.frozen 0
    have f1 := rb.frozen 1
    have f2 := rb.frozen 2
    have hmb' : ∀ b ∈ m.rb, b < B0 ∨ w.heap.size + 1 < b := fun b hb => (hmb b hb).imp id (fun h => by simp only [World.size_alloc] at h; omega)
    have HM := Lib.hid (And.intro hmin (And.intro hme (And.intro hmb' (And.intro hbw rb))))
    clear hmin hme hmb hmb' hb2 hbw rb
    unfold ANode.val
    go_wp2_with fail
    refine bodyPost_ret (results_struct rfl rfl (load_node (((HM.out.2.2.2.2.set_ 0 (.string m.kind)).set_ 1 (.string m.text)).set_ 2 (.slice m.addr m.kids.length m.cap)) rfl rfl rfl)) rfl ?_
    exact MadeO.stored (r := w.heap.size + 1) (by omega) hB HM.out.1 HM.out.2.1 HM.out.2.2.1 HM.out.2.2.2.1 _ _ _
  · have hkn := kindNe listParen hk
    have HH := Lib.hid HR
    clear HR hkid hks hvk hvv hin hv hs
    rw [show (ANode.mk kd tx A cp ks).erase = .mk kd tx (eraseL ks) from rfl, tr_un_other _ _ hk, Node.trL_map]
    go_enter Tryz.func18, Tryz.ntmps18
    go_wp2_with fail
    refine (HH.out _ (by go_grown)).mono ?_
    rintro e w2 ⟨m, rfl, hmin, hme, hmb, hb2⟩
    have hbw : Below w.heap.size w w2 := Below.trans (by go_grown) (hb2.mono (by go_size))
    have rb : Blk w2 (w.heap.size + 1) 24 #[.string ⟨#[]⟩, .string ⟨#[]⟩, .slice none 0 0] := by
      have h0 := (Blk.new (w.alloc (.cells #[.string kd, .string tx, .slice A ks.length cp] 24)) 24 #[.string ⟨#[]⟩, .string ⟨#[]⟩, .slice none 0 0])
      simp only [World.size_alloc] at h0
      exact h0.below hb2 (by simp only [World.size_alloc]; omega)
    have r0 : w2.cell? ⟨w.heap.size + 1, 0, none⟩ = some (.string ⟨#[]⟩) := rb.cell 0
    have r1 : w2.cell? ⟨w.heap.size + 1, 1, none⟩ = some (.string ⟨#[]⟩) := rb.cell 1
    have r2 : w2.cell? ⟨w.heap.size + 1, 2, none⟩ = some (.slice none 0 0) := rb.cell 2
    have f0 := rb.frozen 0
    have f1 := rb.frozen 1
    have f2 := rb.frozen 2
    have hmb' : ∀ b ∈ m.rb, b < B0 ∨ w.heap.size + 1 < b := fun b hb => (hmb b hb).imp id (fun h => by simp only [World.size_alloc] at h; omega)
    have HM := Lib.hid (And.intro hmin (And.intro hme (And.intro hmb' (And.intro hbw rb))))
    clear hmin hme hmb hmb' hb2 hbw rb
    unfold ANode.val
    go_wp2_with fail
    refine bodyPost_ret (results_struct rfl rfl (load_node (((HM.out.2.2.2.2.set_ 0 (.string m.kind)).set_ 1 (.string m.text)).set_ 2 (.slice m.addr m.kids.length m.cap)) rfl rfl rfl)) rfl ?_
    exact MadeO.stored (r := w.heap.size + 1) (by omega) hB HM.out.1 HM.out.2.1 HM.out.2.2.1 HM.out.2.2.2.1 _ _ _
end Go.Proofs.YtgimbgpebpippaaGreatDoor
