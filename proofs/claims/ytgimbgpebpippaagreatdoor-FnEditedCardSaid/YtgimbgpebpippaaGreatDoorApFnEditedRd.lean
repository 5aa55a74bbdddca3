/- Lists of trees and of whole numbers that can be read lie in memory. -/
import Derived.Test.YtgimbgpebpippaaGreatDoorApRow
import Derived.Test.YtgimbgpebpippaaGreatDoorEdK
import Derived.ChangeSlices
namespace Go.Proofs.YtgimbgpebpippaaGreatDoor
open Go.ChangeShapes Go.WideShapes Go.ChangeAt Go.RowKit
set_option maxRecDepth 100000
theorem nodes_of {H : Type} {enc : TypeId × Value → H} {w : World} (fuel : Nat) (v : Value) (d : DataW H) (p : List MemPlace) (h : DataW.trod enc Tryz.prog w 0 (fun _ => true) true fuel 22 [v] = some (d, p)) :
    ∃ (A : Option Addr) (cap : Nat) (ns : List ANode), v = .slice A ns.length cap ∧ KidsIn w w.heap.size A 0 ns := by
  rcases Deep.open_slice Tryz.underlying22 h with ⟨e2, _⟩ | ⟨a, len, cap, m', n', D, Pl, e2, hb, hlc, hcm, hm', hx2, hel⟩
  · obtain rfl : v = .slice none 0 0 := by simpa using e2
    exact ⟨none, 0, [], rfl, trivial⟩
  · obtain rfl : v = .slice (some a) len cap := by simpa using e2
    simp only [if_true] at hm'
    rw [hm'] at hel
    rw [Tryz.cellsNode] at hel
    have key : ∀ i, i < len → ∃ n : ANode, n.In w w.heap.size ∧ w.cell? ((a.add (i * 3)).add 0) = some (.string n.kind) ∧ w.cell? ((a.add (i * 3)).add 1) = some (.string n.text) ∧ w.cell? ((a.add (i * 3)).add 2) = some (.slice n.addr n.kids.length n.cap) := by
      intro i hi
      obtain ⟨cs', hc, ht⟩ := hel i (by omega)
      obtain ⟨n, hn, hin⟩ := node_of _ _ _ _ _ (Nat.lt_succ_self _) ht
      obtain ⟨_, x, y, z, hcs, hx, hy, hz⟩ := cells3 hc
      rw [hn] at hcs
      injection hcs with q1 q2
      injection q2 with q2 q3
      injection q3 with q3 _
      exact ⟨n, hin, by rw [hx, q1], by rw [hy, q2], by rw [hz, q3]⟩
    rcases Nat.eq_zero_or_pos len with hz | hpos
    · subst hz
      exact ⟨some a, cap, [], rfl, trivial⟩
    · obtain ⟨b, off, spot⟩ := a
      obtain rfl : spot = none := by
        obtain ⟨n, _, hc, _⟩ := key 0 hpos
        simpa [Addr.add] using World.cell?_spot hc
      haveI : Inhabited ANode := ⟨.mk ⟨#[]⟩ ⟨#[]⟩ none 0 []⟩
      obtain ⟨f, hf⟩ := Deep.choose_lt (α := ANode) (p := fun i n => n.In w w.heap.size ∧ w.cell? (((⟨b, off, none⟩ : Addr).add (i * 3)).add 0) = some (.string n.kind) ∧ w.cell? (((⟨b, off, none⟩ : Addr).add (i * 3)).add 1) = some (.string n.text) ∧ w.cell? (((⟨b, off, none⟩ : Addr).add (i * 3)).add 2) = some (.slice n.addr n.kids.length n.cap)) key
      have hlb : b < w.heap.size := by
        obtain ⟨_, hc, _⟩ := hf 0 hpos
        rw [Deep.add_add, Go.WideShapes.add_plain] at hc
        unfold World.cell? at hc
        rcases Nat.lt_or_ge b w.heap.size with hlt | hge
        · exact hlt
        · simp only [Array.getElem?_eq_none hge] at hc
          cases hc
      have hln : ((List.range len).map f).length = len := by simp
      refine ⟨some ⟨b, off, none⟩, cap, (List.range len).map f, by rw [hln], kids_of hlb _ 0 ?_⟩
      · intro j n hj
        have hjl : j < len := by
          rcases Nat.lt_or_ge j len with h | h
          · exact h
          · rw [List.getElem?_eq_none (by rw [hln]; exact h)] at hj; cases hj
        obtain rfl : f j = n := by
          simpa [hjl] using hj
        obtain ⟨g0, g1, g2, g3⟩ := hf j hjl
        simp only [Go.WideShapes.add_plain] at g1 g2 g3
        rw [Nat.zero_add]
        exact ⟨g0, g1, by rwa [Nat.add_assoc], by rwa [Nat.add_assoc]⟩
theorem Tryz.cellsInt64 : Tryz.prog.cellsOf 2 = 1 := by kernel_rfl
theorem ints_of {H : Type} {enc : TypeId × Value → H} {w : World} (fuel : Nat) (v : Value) (d : DataW H) (p : List MemPlace) (h : DataW.trod enc Tryz.prog w 0 (fun _ => true) true fuel 40 [v] = some (d, p)) :
    ∃ (A : Option Addr) (cap : Nat) (hs : List Int), v = .slice A hs.length cap ∧ IntsIn w w.heap.size A hs := by
  rcases open_ints Tryz.underlying40 Tryz.underlying2 Tryz.cellsInt64 h with ⟨e, _⟩ | ⟨a, len, cap, zs, e, hb, hl, hm, hz, hx, hc, hw⟩
  · obtain rfl : v = .slice none 0 0 := by simpa using e
    exact ⟨none, 0, [], rfl, fun j u hj => by simp at hj⟩
  · obtain rfl : v = .slice (some a) len cap := by simpa using e
    simp only [if_true] at hz
    have hlen : (zs.take len).length = len := by rw [List.length_take]; omega
    refine ⟨some a, cap, zs.take len, by rw [hlen], fun j u hj => ?_⟩
    have hjl : j < len := by
      rcases Nat.lt_or_ge j len with h | h
      · exact h
      · rw [List.getElem?_eq_none (by omega)] at hj; cases hj
    have h1 := hc j (by omega)
    have h2 : zs.getD j 0 = u := by
      rw [List.getElem?_take, if_pos hjl] at hj
      rw [List.getD, hj]; rfl
    rw [h2] at h1
    obtain ⟨gb, off, spot⟩ := a
    have h3 := hc 0 (by omega)
    obtain rfl : spot = none := by simpa [Addr.add] using World.cell?_spot h3
    rw [Go.WideShapes.add_plain] at h1
    refine ⟨gb, off, rfl, ?_, h1⟩
    rcases Nat.lt_or_ge gb w.heap.size with hlt | hge
    · exact hlt
    · simp [World.cell?, Array.getElem?_eq_none hge] at h1
end Go.Proofs.YtgimbgpebpippaaGreatDoor
