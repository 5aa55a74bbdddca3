/- impl.Unwrapped. -/
import Derived.Test.YtgimbgpebpippaaGreatDoorRpQ
import Derived.Test.YtgimbgpebpippaaGreatDoorWalkF
import Derived.Test.YtgimbgpebpippaaGreatDoorWalkI
namespace Go.Proofs.YtgimbgpebpippaaGreatDoor
open Go.RowKit
set_option maxRecDepth 100000
set_option maxHeartbeats 4000000
mutual
theorem AE.tr_node (rp : Bool → Node → Node) : ∀ x : AE, x.tr rp false = x.node.tr rp
  | .ident _ _ => by rw [AE.tr, AE.node, Node.tr, if_neg (by decide), Node.trL]
  | .lit _ _ => by rw [AE.tr, AE.node, Node.tr, if_neg (by decide), Node.trL]
  | .paren _ x => by rw [AE.tr, AE.node, Node.tr, if_neg (by decide), Node.trL, Node.trL, AE.tr_node rp x]
  | .sel _ x _ _ => by rw [AE.tr, AE.node, Node.tr, if_pos rfl, Node.trL, Node.trL, AE.tr_node rp x]
  | .star _ x => by rw [AE.tr, AE.node, Node.tr, if_neg (by decide), Node.trL, Node.trL, AE.tr_node rp x]
  | .unary _ _ x => by rw [AE.tr, AE.node, Node.tr, if_neg (by decide), Node.trL, Node.trL, AE.tr_node rp x]
  | .binary _ _ x y => by rw [AE.tr, AE.node, Node.tr, if_neg (by decide), Node.trL, Node.trL, Node.trL, AE.tr_node rp x, AE.tr_node rp y]
  | .index _ x y => by rw [AE.tr, AE.node, Node.tr, if_neg (by decide), Node.trL, Node.trL, Node.trL, AE.tr_node rp x, AE.tr_node rp y]
  | .call _ f _ _ args => by rw [AE.tr, AE.node, Node.tr, if_neg (by decide), Node.trL, AE.tr_node rp f, trL_node rp args]
theorem trL_node (rp : Bool → Node → Node) : ∀ l : List AE, trL rp l = Node.trL rp (nodeL l)
  | [] => rfl
  | x :: xs => by rw [trL, nodeL, Node.trL, AE.tr_node rp x, trL_node rp xs]
end
theorem Tryz.callsU (args : Array Value) (w : World) : (callFunc 39 args).run Tryz.prog w = .ok (.enter 39 args) w := by kernel_rfl
theorem clientU (ba : Nat) : RCl rpUn (.func (.func 39) #[] #[]) ba [] (fun _ => True) where
  keep := fun _ _ _ h => h
  fn := ⟨_, _, rfl, Tryz.callsU, fun _ _ _ x _ _ _ H _ => unwrapped_any x H⟩
theorem implUnwrapped_any (n : ANode) (w : World) (L : Nat) (hin : n.In w L) (hL : L ≤ w.heap.size) (hG : Glob w) (hv : V n.erase) :
    Calls Tryz.prog 17 #[n.val] w (MadeN (n.erase.tr rpUn) w) := by
  have H := Lib.hid (And.intro hin (And.intro hG hv))
  have HE := fun w' (h : Below w.heap.size w w') => exprOf_any _ n w' L (Nat.lt_succ_self _) (hin.below h hL) (Nat.le_trans hL h.size) (hG.below h (Nat.le_refl _)) hv
  have HC := Lib.hid HE
  clear HE hin hv
  unfold ANode.val at *
  go_enter Tryz.func17, Tryz.ntmps17
  go_wp2_with fail
  refine (HC.out _ (by go_grown)).mono ?_
  rintro e w1 ⟨x, he, hxin, hxn, hxnew, hb1⟩
  obtain ⟨tx, vx, hx⟩ := x.val_one
  rw [hx] at he
  subst he
  have hu := apply_turn (x := x) (clientU (w1.heap.size + 1 + 1 + 1)) (.inl ⟨rfl, rfl⟩) ⟨.inl rfl, .inr ⟨_, _, rfl⟩⟩ hxin hxnew.2 trivial (fun k hk => by cases hk)
  rw [hx] at hu
  have hbw1 : Below w.heap.size w w1 := Below.trans (by go_grown) (hb1.mono (by go_size))
  have hxlo : ∀ b ∈ x.blocks, w.heap.size + 1 + 1 ≤ b := fun b hb => by have := hxnew.1 b hb; simpa only [World.size_alloc] using this
  have HU := Lib.hid (And.intro hu (And.intro hxn (And.intro hb1 hxlo)))
  clear hu hxn hb1 hx hxin hxnew hxlo
  go_wp2_with fail
  refine HU.out.1.mono ?_
  rintro e w1' ⟨y, he, hyn, hyin, hk1⟩
  obtain ⟨ty, vy, hy⟩ := y.val_one
  have hb1' : Below (w.heap.size + 1 + 1) w1 w1' := hk1.below (by have := HU.out.2.2.1.size; simpa only [World.size_alloc] using this) HU.out.2.2.2
  have hbw2 : Below w.heap.size w w1' := hbw1.trans (hb1'.mono (by omega))
  have hno := nodeOf_any _ y w1' (Nat.lt_succ_self _) hyin (hG.below hbw2 (Nat.le_refl _))
  rw [hy] at he hno
  subst he
  rw [hyn, AE.tr_node, HU.out.2.1] at hno
  have HV := Lib.hid (And.intro hno (And.intro hb1' hbw2))
  clear hno hb1' hbw2 hk1 hyin hyn hy
  go_wp2_with fail
  refine HV.out.1.mono ?_
  rintro e w2 ⟨m, rfl, hmin, hme, hmb, hb2⟩
  have hs1 := HU.out.2.2.1.size
  simp only [World.size_alloc] at hs1
  have hs2 := HV.out.2.1.size
  have hb3 : Below w.heap.size w w2 := HV.out.2.2.trans (hb2.mono HV.out.2.2.size)
  have rb : Blk w2 (w.heap.size + 1) 24 #[.string ⟨#[]⟩, .string ⟨#[]⟩, .slice none 0 0] := by
    have h0 := Blk.new (w.alloc (.cells #[.string n.kind, .string n.text, .slice n.addr n.kids.length n.cap] 24)) 24 #[.string ⟨#[]⟩, .string ⟨#[]⟩, .slice none 0 0]
    rw [World.size_alloc] at h0
    exact ((h0.below HU.out.2.2.1 (by simp only [World.size_alloc]; omega)).below HV.out.2.1 (by omega)).below hb2 (by omega)
  have r0 : w2.cell? ⟨w.heap.size + 1, 0, none⟩ = some (.string ⟨#[]⟩) := rb.cell 0
  have r1 : w2.cell? ⟨w.heap.size + 1, 1, none⟩ = some (.string ⟨#[]⟩) := rb.cell 1
  have r2 : w2.cell? ⟨w.heap.size + 1, 2, none⟩ = some (.slice none 0 0) := rb.cell 2
  have f0 := rb.frozen 0
  have f1 := rb.frozen 1
  have f2 := rb.frozen 2
  have HM := Lib.hid (And.intro hmin (And.intro hme (And.intro hmb (And.intro hb3 rb))))
  clear hmin hme hmb hb2 hb3 rb
  unfold ANode.val
  go_wp2_with fail
  refine bodyPost_ret (results_struct rfl rfl (load_node (((HM.out.2.2.2.2.set_ 0 (.string m.kind)).set_ 1 (.string m.text)).set_ 2 (.slice m.addr m.kids.length m.cap)) rfl rfl rfl)) rfl ?_
  refine ⟨m, rfl, ?_, ?_, ?_, ?_⟩
  · simp only [World.size_setCell]
    exact ANode.In.same m (fun b hb => store3 _ _ _ _ _ b (by have := (HM.out.2.2.1 b hb).1; omega)) HM.out.1
  · exact HM.out.2.1
  · intro b hb
    have := HM.out.2.2.1 b hb
    simp only [World.size_setCell]
    omega
  · have := HM.out.2.2.2.1
    go_grown
end Go.Proofs.YtgimbgpebpippaaGreatDoor
