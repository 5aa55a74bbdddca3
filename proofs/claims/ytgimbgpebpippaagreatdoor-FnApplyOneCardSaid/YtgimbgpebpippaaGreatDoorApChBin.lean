/- spec.children at a node: Bin. -/
import Derived.Test.YtgimbgpebpippaaGreatDoorApChB
import Derived.Test.YtgimbgpebpippaaGreatDoorApQ
import Derived.Deep.RegionHeld3
namespace Go.Proofs.YtgimbgpebpippaaGreatDoor
open Go.RowKit
set_option maxRecDepth 100000
set_option maxHeartbeats 8000000
theorem children_Bin (tx : ByteArray) (A : Option Addr) (cp : Nat) (ns : List ANode) (w : World) (L : Nat) (hin : KidsIn w L A 0 ns) (hL : L ≤ w.heap.size) (hlen : ns.length ≤ 1000) :
    Calls Tryz.prog 70 #[.agg #[.string ⟨#[98, 105, 110, 97, 114, 121]⟩, .string tx, .slice A ns.length cp]] w (MadeC (kidsOf (.mk ⟨#[98, 105, 110, 97, 114, 121]⟩ tx A cp ns)) w) := by
  obtain ⟨i0, hi0, hz0, hz1, hz2⟩ := info_parts Tryz.infoChild
  have HIN := Lib.hid hin
  have HI := Lib.hid (And.intro hi0 (And.intro hz0 (And.intro hz1 hz2)))
  clear hi0 hz0 hz1 hz2 hin
  go_enter Tryz.func70, Tryz.ntmps70
  go_wp2_with fail
  go_loopw [3, 11] (fun o i wr => ∃ (j g cap : Nat), j ≤ ns.length ∧ i = .int .i64 j ∧ o = .slice (some ⟨g, 0, none⟩) j cap ∧ Hid (ChSo ⟨#[98, 105, 110, 97, 114, 121]⟩ tx A cp ns w wr j g cap)) (fun _ i _ => ns.length - (intOf i).toNat)
  case atStart => exact ⟨0, _, 0, by omega, rfl, rfl, Lib.hid (ChSo.start ⟨#[98, 105, 110, 97, 114, 121]⟩ tx A cp ns w)⟩
  case round =>
    obtain ⟨j, g, cap, hj, rfl, rfl, HS⟩ := hrel
    have hsize := HS.out.below.size
    have b0 : wr.cell? ⟨w.heap.size, 0, none⟩ = some (.string ⟨#[98, 105, 110, 97, 114, 121]⟩) := HS.out.box.cell 0
    have b1 : wr.cell? ⟨w.heap.size, 1, none⟩ = some (.string tx) := HS.out.box.cell 1
    have b2 : wr.cell? ⟨w.heap.size, 2, none⟩ = some (.slice A ns.length cp) := HS.out.box.cell 2
    have zb := HS.out.box.lt
    by_cases hlt : j < ns.length
    · obtain ⟨kid, hkid⟩ : ∃ kid, ns[j]? = some kid := ⟨ns[j], List.getElem?_eq_getElem hlt⟩
      have hkin := HIN.out.get hkid
      rw [Nat.zero_add] at hkin
      obtain ⟨⟨b, off, hA, hbL, c0, c1, c2⟩, _⟩ := hkin
      subst hA
      have HKID := Lib.hid hkid
      clear hkid
      have hb := HS.out.below
      have c0' := (hb.cell (p := ⟨b, off + j * 3, none⟩) (by show b < _; omega)).trans c0
      have c1' := (hb.cell (p := ⟨b, off + j * 3 + 1, none⟩) (by show b < _; omega)).trans c1
      have c2' := (hb.cell (p := ⟨b, off + j * 3 + 2, none⟩) (by show b < _; omega)).trans c2
      have zbb : b < wr.heap.size := by omega
      clear c0 c1 c2 hb
      have q1 : (0 : Int) ≤ (j : Int) := by omega
      have q2 : (j : Int) < (ns.length : Int) := by omega
      by_cases hc : j = 1
      · have hcj : ((j : Int) == 1) = true := by subst hc; rfl
        have HC := Lib.hid hc
        clear hc
        go_wp2_with (at_builtin; refine wpList_append_row _ rfl (.tmp 54) (.tmp 58) 148 rfl 151 i0 _ 6 96 Tryz.underlying148 HI.out.1 HI.out.2.1 HI.out.2.2.1 HI.out.2.2.2 rfl (by decide) g cap j (cellsC (kidsFrom ⟨#[98, 105, 110, 97, 114, 121]⟩ 0 (ns.take j))) rfl ?c1 ⟨wr.heap.size + 1 + 1, 0, none⟩ 1 1 [.string kid.kind, .string kid.text, .slice kid.addr kid.kids.length kid.cap, .string ⟨#[89]⟩, .int .i64 (-1), .string ⟨#[98, 105, 110, 97, 114, 121]⟩] rfl rfl ?c2 ?c3 ?c4 ?c5 ?_)
        case c1 => exact HS.out.row.below (by go_grown) HS.out.row.lt
        case c2 => exact cells_new rfl _ (by simp)
        case c3 => intro u hu; simp only [List.mem_cons, List.not_mem_nil, or_false] at hu; rcases hu with rfl | rfl | rfl | rfl | rfl | rfl <;> rfl
        case c4 => unfold maxLen; omega
        case c5 => omega
        intro g' cap' w3 hrow hg hg'
        have HS2 : Hid (ChSo ⟨#[98, 105, 110, 97, 114, 121]⟩ tx (some ⟨b, off, none⟩) cp ns w w3 (j + 1) g' cap') := HS.out.step (kid := kid) HKID.out (by go_grown) hrow (by rw [show spotOf ⟨#[98, 105, 110, 97, 114, 121]⟩ j = ⟨fY, -1, sBin⟩ from by rw [HC.out]; rfl]; rfl) hg (by simpa only [World.size_alloc, World.size_setCell] using hg')
        clear hrow hg hg'
        go_wp2_with fail
        go_roundw
        case rel => exact ⟨j + 1, g', cap', by omega, by go_num, rfl, HS2⟩
        case measure => simp [intOf]; omega
      · have hcj : ((j : Int) == 1) = false := by simp; omega
        go_wp2_with (at_builtin; refine wpList_append_row _ rfl (.tmp 54) (.tmp 58) 148 rfl 151 i0 _ 6 96 Tryz.underlying148 HI.out.1 HI.out.2.1 HI.out.2.2.1 HI.out.2.2.2 rfl (by decide) g cap j (cellsC (kidsFrom ⟨#[98, 105, 110, 97, 114, 121]⟩ 0 (ns.take j))) rfl ?c1 ⟨wr.heap.size + 1 + 1, 0, none⟩ 1 1 [.string kid.kind, .string kid.text, .slice kid.addr kid.kids.length kid.cap, .string ⟨#[88]⟩, .int .i64 (-1), .string ⟨#[98, 105, 110, 97, 114, 121]⟩] rfl rfl ?c2 ?c3 ?c4 ?c5 ?_)
        case c1 => exact HS.out.row.below (by go_grown) HS.out.row.lt
        case c2 => exact cells_new rfl _ (by simp)
        case c3 => intro u hu; simp only [List.mem_cons, List.not_mem_nil, or_false] at hu; rcases hu with rfl | rfl | rfl | rfl | rfl | rfl <;> rfl
        case c4 => unfold maxLen; omega
        case c5 => omega
        intro g' cap' w3 hrow hg hg'
        have HS2 : Hid (ChSo ⟨#[98, 105, 110, 97, 114, 121]⟩ tx (some ⟨b, off, none⟩) cp ns w w3 (j + 1) g' cap') := HS.out.step (kid := kid) HKID.out (by go_grown) hrow (by rw [show spotOf ⟨#[98, 105, 110, 97, 114, 121]⟩ j = ⟨fX, -1, sBin⟩ from spot_bin hc]; rfl) hg (by simpa only [World.size_alloc, World.size_setCell] using hg')
        clear hrow hg hg'
        go_wp2_with fail
        go_roundw
        case rel => exact ⟨j + 1, g', cap', by omega, by go_num, rfl, HS2⟩
        case measure => simp [intOf]; omega
    · obtain rfl : j = ns.length := by omega
      go_wp2_with fail
      go_ret
      have hk : kidsOf (.mk ⟨#[98, 105, 110, 97, 114, 121]⟩ tx A cp ns) = kidsFrom ⟨#[98, 105, 110, 97, 114, 121]⟩ 0 ns := kidsOf_ne (by decide) _ _ _ _
      have hr := HS.out.row
      have hl := HS.out.lo
      rw [List.take_length] at hr
      unfold MadeC
      rw [hk, kidsFrom_length]
      exact ⟨g, cap, rfl, hr, by omega, HS.out.below⟩
end Go.Proofs.YtgimbgpebpippaaGreatDoor
