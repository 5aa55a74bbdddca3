/- impl.Wrapped. -/
import Derived.Test.YtgimbgpebpippaaGreatDoorRpW
namespace Go.Proofs.YtgimbgpebpippaaGreatDoor
open Go.RowKit
set_option maxRecDepth 100000
set_option maxHeartbeats 4000000
theorem Tryz.callsW (args : Array Value) (w : World) : (callFunc 43 args).run Tryz.prog w = .ok (.enter 43 args) w := by kernel_rfl
theorem clientW (nm : ByteArray) (ba bf : Nat) : RCl (rpWrap nm) (.func (.func 43) #[] #[.pointer (some ⟨bf, 0, none⟩)]) ba [bf] (fun w => Blk w bf 9 #[.string nm]) where
  keep := fun _ _ h hb => hb.same (h bf (by simp))
  fn := ⟨_, _, rfl, Tryz.callsW, fun _ _ _ x _ _ _ H hb => wrapped_any x H (hb.cell 0)⟩
theorem rpWrap_leaf (nm : ByteArray) (s : Bool) (n : Node) (h : n.kind ≠ sName) : rpWrap nm s n = n := by
  rw [rpWrap, if_neg (fun e => h e.1)]
theorem implWrapped_any (n : ANode) (nm : ByteArray) (w : World) (L : Nat) (hin : n.In w L) (hL : L ≤ w.heap.size) (hG : Glob w) (hv : V n.erase) :
    Calls Tryz.prog 19 #[n.val, .string nm] w (MadeN (n.erase.tr (rpWrap nm)) w) := by
  have H := Lib.hid (And.intro hin (And.intro hG hv))
  have HE := fun w' (h : Below w.heap.size w w') => exprOf_any _ n w' L (Nat.lt_succ_self _) (hin.below h hL) (Nat.le_trans hL h.size) (hG.below h (Nat.le_refl _)) hv
  have HC := Lib.hid HE
  clear HE hin hv
  unfold ANode.val at *
  go_enter Tryz.func19, Tryz.ntmps19
  go_wp2_with fail
  refine (HC.out _ (by go_grown)).mono ?_
  rintro e w1 ⟨x, he, hxin, hxn, hxnew, hb1⟩
  obtain ⟨tx, vx, hx⟩ := x.val_one
  rw [hx] at he
  subst he
  have hq : Blk w1 (w.heap.size + 1) 9 #[.string nm] := by
    have h0 := (Blk.new (w.alloc (.cells #[.string n.kind, .string n.text, .slice n.addr n.kids.length n.cap] 24)) 9 #[.string nm]).alloc (.cells #[.string ⟨#[]⟩, .string ⟨#[]⟩, .slice none 0 0] 24)
    simp only [World.size_alloc] at h0
    exact h0.below hb1 (by simp only [World.size_alloc]; omega)
  have hu := apply_turn (x := x) (clientW nm (w1.heap.size + 1 + 1 + 1) (w.heap.size + 1)) (.inr ⟨rfl, rfl, rpWrap_leaf nm⟩) ⟨.inr ⟨_, _, rfl⟩, .inl rfl⟩ hxin hxnew.2 hq (fun k hk => by
    rw [List.mem_singleton] at hk
    subst hk
    exact ⟨hq.lt, fun h => by have := hxnew.1 _ h; simp only [World.size_alloc] at this; omega⟩)
  rw [hx] at hu
  have hbw1 : Below w.heap.size w w1 := Below.trans (by go_grown) (hb1.mono (by go_size))
  have hxlo : ∀ b ∈ x.blocks, w.heap.size + 1 + 1 + 1 ≤ b := fun b hb => by have := hxnew.1 b hb; simpa only [World.size_alloc] using this
  have HU := Lib.hid (And.intro hu (And.intro hxn (And.intro hb1 hxlo)))
  clear hu hxn hb1 hx hxin hxnew hxlo hq
  go_wp2_with fail
  refine HU.out.1.mono ?_
  rintro e w1' ⟨y, he, hyn, hyin, hk1⟩
  obtain ⟨ty, vy, hy⟩ := y.val_one
  have hb1' : Below (w.heap.size + 1 + 1 + 1) w1 w1' := hk1.below (by have := HU.out.2.2.1.size; simpa only [World.size_alloc] using this) HU.out.2.2.2
  have hbw2 : Below w.heap.size w w1' := hbw1.trans (hb1'.mono (by omega))
  have hno := nodeOf_any _ y w1' (Nat.lt_succ_self _) hyin (hG.below hbw2 (Nat.le_refl _))
  rw [hy] at he hno
  subst he
  rw [hyn, AE.tr_node, HU.out.2.1] at hno
  have HV := Lib.hid (And.intro hno (And.intro hb1' hbw2))
  clear hno hb1' hbw2 hk1 hyin hyn hy
  go_wp2_with fail
  refine HV.out.1.mono ?_
  rintro e w2 ⟨m, rfl, hmin, hme, hmb, hb2⟩
  have hs1 := HU.out.2.2.1.size
  simp only [World.size_alloc] at hs1
  have hs2 := HV.out.2.1.size
  have hb3 : Below w.heap.size w w2 := HV.out.2.2.trans (hb2.mono HV.out.2.2.size)
  have rb : Blk w2 (w.heap.size + 1 + 1) 24 #[.string ⟨#[]⟩, .string ⟨#[]⟩, .slice none 0 0] := by
    have h0 := Blk.new ((w.alloc (.cells #[.string n.kind, .string n.text, .slice n.addr n.kids.length n.cap] 24)).alloc (.cells #[.string nm] 9)) 24 #[.string ⟨#[]⟩, .string ⟨#[]⟩, .slice none 0 0]
    simp only [World.size_alloc] at h0
    exact ((h0.below HU.out.2.2.1 (by simp only [World.size_alloc]; omega)).below HV.out.2.1 (by omega)).below hb2 (by omega)
  have r0 : w2.cell? ⟨w.heap.size + 1 + 1, 0, none⟩ = some (.string ⟨#[]⟩) := rb.cell 0
  have r1 : w2.cell? ⟨w.heap.size + 1 + 1, 1, none⟩ = some (.string ⟨#[]⟩) := rb.cell 1
  have r2 : w2.cell? ⟨w.heap.size + 1 + 1, 2, none⟩ = some (.slice none 0 0) := rb.cell 2
  have f0 := rb.frozen 0
  have f1 := rb.frozen 1
  have f2 := rb.frozen 2
  have HM := Lib.hid (And.intro hmin (And.intro hme (And.intro hmb (And.intro hb3 rb))))
  clear hmin hme hmb hb2 hb3 rb
  unfold ANode.val
  go_wp2_with fail
  refine bodyPost_ret (results_struct rfl rfl (load_node (((HM.out.2.2.2.2.set_ 0 (.string m.kind)).set_ 1 (.string m.text)).set_ 2 (.slice m.addr m.kids.length m.cap)) rfl rfl rfl)) rfl ?_
  refine ⟨m, rfl, ?_, ?_, ?_, ?_⟩
  · simp only [World.size_setCell]
    exact ANode.In.same m (fun b hb => store3 _ _ _ _ _ b (by have := (HM.out.2.2.1 b hb).1; omega)) HM.out.1
  · exact HM.out.2.1
  · intro b hb
    have := HM.out.2.2.1 b hb
    simp only [World.size_setCell]
    omega
  · have := HM.out.2.2.2.1
    go_grown
end Go.Proofs.YtgimbgpebpippaaGreatDoor
