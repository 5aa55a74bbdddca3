/- spec.Applied: the visits of the walk; sameVisits9. -/
import Derived.Test.YtgimbgpebpippaaGreatDoorApN
import Derived.Test.YtgimbgpebpippaaGreatDoorApT
namespace Go.Proofs.YtgimbgpebpippaaGreatDoor
open Go.RowKit
set_option maxRecDepth 100000
set_option maxHeartbeats 4000000
mutual
theorem lens_of_V : ∀ n : ANode, V n.erase → Lens n
  | .mk k t A c ks, h => by
    simp only [ANode.erase, V, eraseL_length] at h
    refine ⟨?_, lensL_of_V ks h.2⟩
    rcases h.1 with h | h | h | h | h | h | h <;> omega
theorem lensL_of_V : ∀ ns : List ANode, VL (eraseL ns) → LensL ns
  | [], _ => trivial
  | n :: ns, h => by
    simp only [eraseL, VL] at h
    exact ⟨lens_of_V n h.1, lensL_of_V ns h.2⟩
end
theorem specApplied_any (n : ANode) (q : Ask) (w : World) (L : Nat) (hin : n.In w L) (hL : L ≤ w.heap.size) (hV : V n.erase) (hS : Small n.erase) :
    Calls Tryz.prog 14 #[n.val, .string q.skip, .int .i64 q.stop, .bool q.pre, .bool q.post] w (MadeV (walkN q n.erase top s0).1.calls w) := by
  have HIN := Lib.hid (And.intro hin (And.intro hV hS))
  unfold ANode.val
  clear hin hV hS
  have hb : Blk ((w.alloc (.cells #[.string n.kind, .string n.text, .slice n.addr n.kids.length n.cap] 24)).alloc (.cells #[.string q.skip, .int .i64 q.stop, .bool q.pre, .bool q.post, .int .i64 0, .slice none 0 0] 66)) (w.heap.size + 1) 66 #[.string q.skip, .int .i64 q.stop, .bool q.pre, .bool q.post, .int .i64 0, .slice none 0 0] := by
    have := Blk.new (w.alloc (.cells #[.string n.kind, .string n.text, .slice n.addr n.kids.length n.cap] 24)) 66 #[.string q.skip, .int .i64 q.stop, .bool q.pre, .bool q.post, .int .i64 0, .slice none 0 0]
    simpa only [World.size_alloc] using this
  have hb2 : Below w.heap.size w ((w.alloc (.cells #[.string n.kind, .string n.text, .slice n.addr n.kids.length n.cap] 24)).alloc (.cells #[.string q.skip, .int .i64 q.stop, .bool q.pre, .bool q.post, .int .i64 0, .slice none 0 0] 66)) := by go_grown
  have hW : Wk q (w.heap.size + 1) s0 ((w.alloc (.cells #[.string n.kind, .string n.text, .slice n.addr n.kids.length n.cap] 24)).alloc (.cells #[.string q.skip, .int .i64 q.stop, .bool q.pre, .bool q.post, .int .i64 0, .slice none 0 0] 66)) (.slice none 0 0) :=
    ⟨hb, .inl ⟨rfl, rfl, rfl⟩, by simp [Value.ownBlock]⟩
  have hN := node_any q (SizeOf.sizeOf n + 1) n (Nat.lt_succ_self _) _ L (w.heap.size + 1) (.slice none 0 0) top s0 (HIN.out.1.below hb2 hL) (Nat.le_trans hL hb2.size) hW (by omega) (fun g hg => by cases hg) (lens_of_V n HIN.out.2.1) (bd_of_small HIN.out.2.2) (Int.le_refl _)
  have HN := Lib.hid (And.intro hN hb2)
  clear hb hb2 hW hN
  go_enter Tryz.func14, Tryz.ntmps14
  go_wp2_with fail
  refine HN.out.1.mono ?_
  rintro e w2 ⟨v', rfl, hwk, hk, hg⟩
  have c5 : w2.cell? ⟨w.heap.size + 1, 5, none⟩ = some v' := hwk.box.cell 5
  have z5 := hwk.box.lt
  have hb3 : Below w.heap.size w w2 := HN.out.2.trans (hk.below HN.out.2.size (fun k hk => by simp only [rowOf, Value.ownBlock, Option.toList, List.mem_cons, List.not_mem_nil, or_false] at hk; omega))
  have H := Lib.hid (And.intro hwk.lst hb3)
  clear hwk hk hg hb3
  go_wp2_with fail
  go_ret
  exact ⟨v', rfl, H.out.1, H.out.2⟩
end Go.Proofs.YtgimbgpebpippaaGreatDoor
