/- Unparened of the thin package, and the law's own function. -/
import Derived.Test.YtiidjpfjiedeiaaDoorWalkI
namespace Go.Proofs.YtiidjpfjiedeiaaDoor
open Go.RowKit
set_option maxRecDepth 100000
set_option maxHeartbeats 1000000

/-- What stands in parentheses, plain. -/
def Node.bare : Node → Node
  | .mk k t ks => if k = sParen then (match ks with | [x] => x.bare | ks => .mk k t ks) else .mk k t ks
theorem Node.bare_of_ne {k t : ByteArray} {ks : List Node} (h : ¬ k = sParen) : (Node.mk k t ks).bare = .mk k t ks := by
  unfold Node.bare
  split <;> simp_all
theorem Node.bare_paren {t : ByteArray} {x : Node} : (Node.mk sParen t [x]).bare = x.bare := by
  rw [Node.bare, if_pos rfl]
theorem AE.bare_node : ∀ x : AE, x.bare.node = x.node.bare
  | .paren b x => by rw [AE.bare, AE.node, Node.bare_paren]; exact AE.bare_node x
  | .ident .. => (Node.bare_of_ne (fun h => absurd (congrArg (fun z => z.data.toList) h) (by decide))).symm
  | .lit .. => (Node.bare_of_ne (fun h => absurd (congrArg (fun z => z.data.toList) h) (by decide))).symm
  | .sel .. => (Node.bare_of_ne (fun h => absurd (congrArg (fun z => z.data.toList) h) (by decide))).symm
  | .star .. => (Node.bare_of_ne (fun h => absurd (congrArg (fun z => z.data.toList) h) (by decide))).symm
  | .unary .. => (Node.bare_of_ne (fun h => absurd (congrArg (fun z => z.data.toList) h) (by decide))).symm
  | .binary .. => (Node.bare_of_ne (fun h => absurd (congrArg (fun z => z.data.toList) h) (by decide))).symm
  | .index .. => (Node.bare_of_ne (fun h => absurd (congrArg (fun z => z.data.toList) h) (by decide))).symm
  | .call .. => (Node.bare_of_ne (fun h => absurd (congrArg (fun z => z.data.toList) h) (by decide))).symm
theorem ANode.bare_erase : ∀ n : ANode, n.bare.erase = n.erase.bare
  | .mk k t A c ks => by
    by_cases h : k = sParen
    · subst h
      match ks with
      | [] => simp [ANode.bare, ANode.erase, eraseL, Node.bare]
      | [x] => simp only [ANode.bare, if_pos, ANode.erase, eraseL, Node.bare_paren]; exact ANode.bare_erase x
      | x :: y :: zs => simp [ANode.bare, ANode.erase, eraseL, Node.bare]
    · rw [bare_of_ne h]
      simp only [ANode.erase]
      rw [Node.bare_of_ne h]

theorem implUnparened_any (n : ANode) (w : World) (L : Nat) (hin : n.In w L) (hL : L ≤ w.heap.size) (hG : Glob w) (hv : V n.erase) :
    Calls Tryd.prog 7 #[n.val] w (MadeN n.erase.bare w) := by
  have H := Lib.hid (And.intro hin (And.intro hG hv))
  have HE := fun w' (h : Below w.heap.size w w') => exprOf_any _ n w' L (Nat.lt_succ_self _) (hin.below h hL) (Nat.le_trans hL h.size) (hG.below h (Nat.le_refl _)) hv
  have HC := Lib.hid HE
  clear HE hin hv
  unfold ANode.val at *
  go_enter Tryd.func7, Tryd.ntmps7
  go_wp2_with fail
  refine (HC.out _ (by go_grown)).mono ?_
  rintro e w1 ⟨x, he, hxin, hxn, hxnew, hb1⟩
  obtain ⟨tx, vx, hx⟩ := x.val_one
  rw [hx] at he
  subst he
  have hu := unparen2_any x w1 hxin
  have hno := nodeOf_any _ x.bare w1 (Nat.lt_succ_self _) (AE.bare_in x hxin)
  obtain ⟨ty, vy, hy⟩ := x.bare.val_one
  rw [hx, hy] at hu
  rw [hy] at hno
  have hbw1 : Below w.heap.size w w1 := Below.trans (by go_grown) (hb1.mono (by go_size))
  have HU := Lib.hid (And.intro hu (And.intro hno (And.intro hxn hb1)))
  clear hu hno hxn hb1 hx hy hxin hxnew
  go_wp2_with fail
  refine HU.out.1.mono ?_
  rintro e w2 ⟨rfl, rfl⟩
  go_wp2_with fail
  refine (HU.out.2.1 (hG.below hbw1 (Nat.le_refl _))).mono ?_
  rintro e w2 ⟨m, rfl, hmin, hme, hmb, hb2⟩
  have hs1 := HU.out.2.2.2.size
  simp only [World.size_alloc] at hs1
  have hb3 : Below w.heap.size w w2 := hbw1.trans (hb2.mono hbw1.size)
  have rb : Blk w2 (w.heap.size + 1) 24 #[.string ⟨#[]⟩, .string ⟨#[]⟩, .slice none 0 0] := by
    have h0 := Blk.new (w.alloc (.cells #[.string n.kind, .string n.text, .slice n.addr n.kids.length n.cap] 24)) 24 #[.string ⟨#[]⟩, .string ⟨#[]⟩, .slice none 0 0]
    rw [World.size_alloc] at h0
    exact (h0.below HU.out.2.2.2 (by simp only [World.size_alloc]; omega)).below hb2 (by omega)
  have r0 : w2.cell? ⟨w.heap.size + 1, 0, none⟩ = some (.string ⟨#[]⟩) := rb.cell 0
  have r1 : w2.cell? ⟨w.heap.size + 1, 1, none⟩ = some (.string ⟨#[]⟩) := rb.cell 1
  have r2 : w2.cell? ⟨w.heap.size + 1, 2, none⟩ = some (.slice none 0 0) := rb.cell 2
  have f0 := rb.frozen 0
  have f1 := rb.frozen 1
  have f2 := rb.frozen 2
  have HM := Lib.hid (And.intro hmin (And.intro hme (And.intro hmb (And.intro hb3 rb))))
  clear hmin hme hmb hb2 hb3 rb
  unfold ANode.val
  go_wp2_with fail
  refine bodyPost_ret (results_struct rfl rfl (load_node (((HM.out.2.2.2.2.set_ 0 (.string m.kind)).set_ 1 (.string m.text)).set_ 2 (.slice m.addr m.kids.length m.cap)) rfl rfl rfl)) rfl ?_
  refine ⟨m, rfl, ?_, ?_, ?_, ?_⟩
  · simp only [World.size_setCell]
    exact ANode.In.same m (fun b hb => store3 _ _ _ _ _ b (by have := (HM.out.2.2.1 b hb).1; omega)) HM.out.1
  · rw [HM.out.2.1, AE.bare_node, HU.out.2.2.1]
  · intro b hb
    have := HM.out.2.2.1 b hb
    simp only [World.size_setCell]
    omega
  · have := HM.out.2.2.2.1
    go_grown
end Go.Proofs.YtiidjpfjiedeiaaDoor
