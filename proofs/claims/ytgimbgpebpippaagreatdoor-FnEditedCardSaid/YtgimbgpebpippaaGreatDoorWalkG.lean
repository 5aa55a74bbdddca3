/- Contracts of nodeOf and nodesOf: the nodes that are made of trees of expressions. -/
import Derived.Test.YtgimbgpebpippaaGreatDoorWalkF
namespace Go.Proofs.YtgimbgpebpippaaGreatDoor
open Go.RowKit
set_option maxRecDepth 100000
set_option maxHeartbeats 1000000

theorem Tryz.infoNode : (Tryz.prog.info? 24).map (fun i => (i.zero, i.size, i.bytes)) = some (some (.agg #[.string ⟨#[]⟩, .string ⟨#[]⟩, .slice none 0 0]), 3, 56) := by kernel_rfl

theorem load_node {w : World} {g : Nat} {a b c : Value} (h : Blk w g 24 #[a, b, c]) (_ha : a.oneCell' = true) (_hb : b.oneCell' = true) (_hc : c.oneCell' = true) : (loadVar 24 ⟨g, 0, none⟩).run Tryz.prog w = .ok (.agg #[a, b, c]) w := by
  have h0 : w.cell? ⟨g, 0, none⟩ = some a := h.cell 0
  have h1 : w.cell? ⟨g, 1, none⟩ = some b := h.cell 1
  have h2 : w.cell? ⟨g, 2, none⟩ = some c := h.cell 2
  clear h
  simp [go_sem, h0, h1, h2]

def NodeUpTo (k : Nat) : Prop := ∀ (x : AE) (w : World), SizeOf.sizeOf x < k → x.In w → Glob w → Calls Tryz.prog 38 #[x.val] w (MadeN x.node w)

theorem nodesOf_any (k : Nat) (ih : NodeUpTo k) (g0 cap0 : Nat) (xs : List AE) (w : World) (hs : ∀ x ∈ xs, SizeOf.sizeOf x < k) (hc : ∀ i x, xs[i]? = some x → w.cell? ⟨g0, i, none⟩ = some x.val) (hlt : g0 < w.heap.size) (hin : AEInL w xs)
    (hlen : xs.length ≤ 1000) (hG : Glob w) :
    Calls Tryz.prog 71 #[.slice (some ⟨g0, 0, none⟩) xs.length cap0] w (MadeNs (nodeL xs) w) := by
  obtain ⟨i0, hi0, hz0, hz1, hz2⟩ := info_parts Tryz.infoNode
  have HIN := Lib.hid (And.intro hin (And.intro hs hc))
  clear hin hs hc
  have HI := Lib.hid (And.intro hi0 (And.intro hz0 (And.intro hz1 hz2)))
  clear hi0 hz0 hz1 hz2
  go_enter Tryz.func71, Tryz.ntmps71
  go_wp2_with fail
  go_loopw [3, 9] (fun v i wr => ∃ (j g c : Nat) (ns : List ANode), j ≤ xs.length ∧ i = .int .i64 j ∧ v = .slice (some ⟨g, 0, none⟩) ns.length c ∧ ns.length = j ∧ NodesSo ((nodeL xs).take j) w wr g c ns) (fun _ i _ => xs.length - (intOf i).toNat)
  case atStart => exact ⟨0, _, 0, [], by omega, rfl, rfl, rfl, NodesSo.start w w (Below.refl _ _) (Nat.le_refl _)⟩
  case round =>
    obtain ⟨j, g, c, ns, hj, rfl, rfl, hxl, hso⟩ := hrel
    have HX := Lib.hid hxl
    have hxb : ns.length ≤ 1000 := by omega
    clear hxl
    have HSO := Lib.hid hso
    have hsize := hso.below.size
    clear hso
    by_cases hjl : j < xs.length
    · obtain ⟨x, hx⟩ : ∃ x, xs[j]? = some x := ⟨xs[j], List.getElem?_eq_getElem hjl⟩
      have hcell := HIN.out.2.2 j x hx
      have hxin := (AEInL_iff _ _).1 HIN.out.1 x (List.mem_of_getElem? hx)
      have hsz := HIN.out.2.1 x (List.mem_of_getElem? hx)
      obtain ⟨tx, vx, hv⟩ := x.val_one
      rw [hv] at hcell
      have hcell' := (HSO.out.below.cell (p := ⟨g0, j, none⟩) hlt).trans hcell
      have HXV := Lib.hid (And.intro hv (And.intro hx hxin))
      clear hv hx hxin hcell
      go_wp2_with fail
      have hcall := ih x wr hsz (HXV.out.2.2.below HSO.out.below (Nat.le_refl _)) (hG.below HSO.out.below (Nat.le_refl _))
      rw [HXV.out.1] at hcall
      refine hcall.mono ?_
      clear hcall
      rintro e w' ⟨n, he, hnin, hne, hnew, hb2⟩
      subst he
      have hs2 := hb2.size
      have HN := Lib.hid (And.intro hnin (And.intro hne (And.intro hnew hb2)))
      clear hnin hne hnew hb2
      unfold ANode.val
      go_wp2_with (at_builtin; refine wpList_append_row _ rfl (.tmp 13) (.tmp 16) 22 rfl 24 i0 (.agg #[.string ⟨#[]⟩, .string ⟨#[]⟩, .slice none 0 0]) 3 56 Tryz.underlying22 HI.out.1 HI.out.2.1 HI.out.2.2.1 HI.out.2.2.2 rfl (by decide) g c ns.length (cellsN ns) rfl ?c1 ⟨w'.heap.size, 0, none⟩ 1 1 [.string n.kind, .string n.text, .slice n.addr n.kids.length n.cap] rfl rfl ?c2 ?c3 ?c4 ?c5 ?_)
      case c1 => exact (HSO.out.row.below HN.out.2.2.2 HSO.out.row.lt).below ((Below.refl _ _).alloc (Nat.le_refl _) _) (by have := HSO.out.row.lt; omega)
      case c2 => exact cells_three_new _ _ _ _ _
      case c3 => intro u hu; simp only [List.mem_cons, List.not_mem_nil, or_false] at hu; rcases hu with rfl | rfl | rfl <;> rfl
      case c4 => unfold maxLen; omega
      case c5 => omega
      intro g' cap' w3 hrow hg hg'
      have HSO2 : Hid (NodesSo ((nodeL xs).take (j + 1)) w w3 g' cap' (ns ++ [n])) := by
        have h := HSO.out.step (n := n) HN.out.1 HN.out.2.1 HN.out.2.2.1 HN.out.2.2.2 ((Below.refl _ _).alloc (Nat.le_refl _) _) rfl hrow hg (by rw [World.size_alloc]; exact hg')
        rw [take_node HXV.out.2.1]
        exact h
      clear hrow hg hg'
      go_wp2_with fail
      go_roundw
      case rel => exact ⟨j + 1, g', cap', ns ++ [n], by omega, by go_num, by rw [List.length_append]; rfl, by rw [List.length_append, HX.out]; rfl, HSO2.out⟩
      case measure => simp [intOf]; omega
    · obtain rfl : j = xs.length := by omega
      have HF : Hid (NodesSo (nodeL xs) w wr g c ns) := by
        have h := HSO.out
        rwa [show xs.length = (nodeL xs).length by simp [nodeL_eq], List.take_length] at h
      go_wp2_with fail
      go_ret
      exact ⟨g, c, ns, rfl, HF.out⟩
end Go.Proofs.YtgimbgpebpippaaGreatDoor
