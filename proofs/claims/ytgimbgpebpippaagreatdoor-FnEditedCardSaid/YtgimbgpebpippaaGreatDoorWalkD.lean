/- Contracts of exprOf and exprsOf: the trees of expressions that are made of nodes. -/
import Derived.Test.YtgimbgpebpippaaGreatDoorWalkB
namespace Go.Proofs.YtgimbgpebpippaaGreatDoor
open Go.RowKit
set_option maxRecDepth 100000
set_option maxHeartbeats 1000000

theorem Tryz.infoExpr : (Tryz.prog.info? 62).map (fun i => (i.zero, i.size, i.bytes)) = some (some .nilIface, 1, 16) := by kernel_rfl

def ExprUpTo (k : Nat) : Prop := ∀ (n : ANode) (w : World) (L : Nat), SizeOf.sizeOf n < k → n.In w L → L ≤ w.heap.size → Glob w → V n.erase → Calls Tryz.prog 35 #[n.val] w (MadeE n.erase w)

theorem exprsOf_any (k : Nat) (ih : ExprUpTo k) (A : Option Addr) (ks : List ANode) (cap L : Nat) (w : World) (hs : ∀ n ∈ ks, SizeOf.sizeOf n < k) (hin : KidsIn w L A 0 ks) (hlen : ks.length ≤ 1000)
    (hL : L ≤ w.heap.size) (hG : Glob w) (hv : VL (eraseL ks)) :
    Calls Tryz.prog 50 #[.slice A ks.length cap] w (MadeL (eraseL ks) w) := by
  obtain ⟨i0, hi0, hz0, hz1, hz2⟩ := info_parts Tryz.infoExpr
  have HIN := Lib.hid hin
  clear hin
  have HV := Lib.hid hv
  clear hv
  have HS := Lib.hid hs
  clear hs
  have HI := Lib.hid (And.intro hi0 (And.intro hz0 (And.intro hz1 hz2)))
  clear hi0 hz0 hz1 hz2
  go_enter Tryz.func50, Tryz.ntmps50
  go_wp2_with fail
  go_loopw [3, 9] (fun v i wr => ∃ (j g c : Nat) (xs : List AE), j ≤ ks.length ∧ i = .int .i64 j ∧ v = .slice (some ⟨g, 0, none⟩) xs.length c ∧ xs.length = j ∧ ListSo ((eraseL ks).take j) w wr g c xs) (fun _ i _ => ks.length - (intOf i).toNat)
  case atStart => exact ⟨0, _, 0, [], by omega, rfl, rfl, rfl, ListSo.start w w (Below.refl _ _) (Nat.le_refl _)⟩
  case round =>
    obtain ⟨j, g, c, xs, hj, rfl, rfl, hxl, hso⟩ := hrel
    have HX := Lib.hid hxl
    have hxb : xs.length ≤ 1000 := by omega
    clear hxl
    have HSO := Lib.hid hso
    have hsize := hso.below.size
    clear hso
    by_cases hlt : j < ks.length
    · obtain ⟨kid, hkid⟩ : ∃ kid, ks[j]? = some kid := ⟨ks[j], List.getElem?_eq_getElem hlt⟩
      have hkin := HIN.out.get hkid
      rw [Nat.zero_add] at hkin
      have hsz := HS.out kid (List.mem_of_getElem? hkid)
      have HKV : Hid (V kid.erase) := (VL_iff _).1 HV.out _ (by rw [eraseL_eq]; exact List.mem_map_of_mem (List.mem_of_getElem? hkid))
      obtain ⟨⟨b, off, hA, hbL, c0, c1, c2⟩, hkidin⟩ := hkin
      subst hA
      have HKID := Lib.hid hkid
      clear hkid
      have hb := HSO.out.below
      have c0' := (hb.cell (p := ⟨b, off + j * 3, none⟩) (by show b < _; omega)).trans c0
      have c1' := (hb.cell (p := ⟨b, off + j * 3 + 1, none⟩) (by show b < _; omega)).trans c1
      have c2' := (hb.cell (p := ⟨b, off + j * 3 + 2, none⟩) (by show b < _; omega)).trans c2
      clear c0 c1 c2
      have HB := Lib.hid hb
      clear hb
      go_wp2_with fail
      refine (ih kid _ L hsz (hkidin.below (B := w.heap.size) (HB.out.trans (Below.alloc (Below.refl _ _) (by omega) _)) hL) (by simp only [World.size_alloc]; omega) (hG.below (B := w.heap.size) (HB.out.trans (Below.alloc (Below.refl _ _) (by omega) _)) (Nat.le_refl _)) HKV.out).mono ?_
      rintro e w' ⟨x, he, hxin, hxn, hxnew, hb2⟩
      obtain ⟨tx, vx, hx⟩ := x.val_one
      rw [hx] at he
      subst he
      have HXV := Lib.hid hx
      clear hx
      have HXIN := Lib.hid (And.intro hxin (And.intro hxn (And.intro hxnew hb2)))
      have hs2 := hb2.size
      rw [World.size_alloc] at hs2
      clear hxin hxn hxnew hb2
      go_wp2_with (at_builtin; refine wpList_append_row _ rfl (.tmp 13) (.tmp 16) 88 rfl 62 i0 .nilIface 1 16 Tryz.underlying88 HI.out.1 HI.out.2.1 HI.out.2.2.1 HI.out.2.2.2 rfl (by decide) g c xs.length (xs.map AE.val) rfl ?c1 ⟨w'.heap.size, 0, none⟩ 1 1 [.iface tx vx] rfl rfl ?c2 ?c3 ?c4 ?c5 ?_)
      case c1 =>
        have hb2 := HXIN.out.2.2.2
        exact ((HSO.out.row.below ((Below.refl _ _).alloc (Nat.le_refl _) _) HSO.out.row.lt).below hb2 (by rw [World.size_alloc]; have := HSO.out.row.lt; omega)).below ((Below.refl _ _).alloc (Nat.le_refl _) _) (by have := HSO.out.row.lt; omega)
      case c2 => exact cell_one_new _ _ _
      case c3 => intro u hu; cases List.mem_singleton.1 hu; rfl
      case c4 => unfold maxLen; omega
      case c5 => omega
      intro g' cap' w3 hrow hg hg'
      have HSO2 : Hid (ListSo ((eraseL ks).take (j + 1)) w w3 g' cap' (xs ++ [x])) := by
        have h := HSO.out.step (w1 := wr.alloc _) (Below.alloc (Below.refl _ _) (Nat.le_refl _) _) HXIN.out.1 HXIN.out.2.1 HXIN.out.2.2.1 HXIN.out.2.2.2 _ (Below.alloc (Below.refl _ _) (Nat.le_refl _) _) (by rw [HXV.out]) hrow hg (by rw [World.size_alloc]; exact hg')
        rw [take_erase HKID.out]
        exact h
      clear hrow hg hg'
      go_wp2_with fail
      go_roundw
      case rel => exact ⟨j + 1, g', cap', xs ++ [x], by omega, by go_num, by rw [List.length_append]; rfl, by rw [List.length_append, HX.out]; rfl, HSO2.out⟩
      case measure => simp [intOf]; omega
    · obtain rfl : j = ks.length := by omega
      have HF : Hid (ListSo (eraseL ks) w wr g c xs) := by
        have h := HSO.out
        rwa [← eraseL_length, List.take_length] at h
      go_wp2_with fail
      go_ret
      exact ⟨g, c, xs, rfl, HF.out⟩
end Go.Proofs.YtgimbgpebpippaaGreatDoor
