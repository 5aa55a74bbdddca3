/- Contracts of the functions that look at trees of nodes. -/
import Derived.Test.YtgimbgpebpippaaGreatDoorProg
import Derived.Test.YtgimbgpebpippaaGreatDoorPure
import Derived.WalkKit
import Derived.Handy
import Derived.KernelRfl
import Derived.Lib.Hide
import Derived.Deep.QuietTactic
import Derived.BigQuiet
namespace Go.Proofs.YtgimbgpebpippaaGreatDoor
open Go.RowKit
set_option maxRecDepth 100000

theorem fits1 (w : World) (n : ANode) (h1 : n.kind.size ≤ 2147483647) (h2 : n.text.size ≤ 2147483647) (h3 : n.kids.length ≤ 2147483647) :
    Calls Tryz.prog 10 #[n.val] w fun e w' => e = .returned (.bool true) ∧ Below w.heap.size w w' := by
  unfold ANode.val
  go_enter Tryz.func10, Tryz.ntmps10
  go_wp2
  go_ret
  exact ⟨rfl, by go_grown⟩

theorem cnt_any (k : Nat) : ∀ (n : ANode) (w : World) (L : Nat) (m d : Int), SizeOf.sizeOf n < k → n.In w L → L ≤ w.heap.size → 0 ≤ m → m ≤ 4000 → 0 ≤ d → d ≤ 26 →
    Calls Tryz.prog 65 #[n.val, .int .i64 m, .int .i64 d] w fun e w' => e = .returned (.int .i64 (cnt n.erase m d)) ∧ Below w.heap.size w w' := by
  induction k with
  | zero => intro n w L m d hs; omega
  | succ k ih =>
  intro n w L m d hs hin hL hm hm2 hd hd2
  obtain ⟨kd, tx, A, cap, ks⟩ := n
  have hcnt : Hid (cntL (eraseL (ks.drop 0)) m d 1 = cnt (ANode.mk kd tx A cap ks).erase m d) := (cnt_eq (.mk kd tx A cap ks) m d).symm
  have hlen : ks.length ≤ cap := hin.len
  have hcap : cap ≤ 2 ^ 63 - 1 := hin.cap
  have IH := Lib.hid ih
  clear ih
  have HIN := Lib.hid hin
  clear hin
  show Calls Tryz.prog _ #[.agg #[.string kd, .string tx, .slice A ks.length cap], .int .i64 m, .int .i64 d] w _
  go_enter Tryz.func65, Tryz.ntmps65
  go_wp2_with fail
  go_loopw [7, 13] (fun c i wr => ∃ (j : Nat) (cc : Int), j ≤ ks.length ∧ i = .int .i64 j ∧ c = .int .i64 cc ∧ 1 ≤ cc ∧ cc ≤ m + 1 ∧ Hid (cntL (eraseL (ks.drop j)) m d cc = cnt (ANode.mk kd tx A cap ks).erase m d) ∧ Below w.heap.size w wr)
    (fun _ i _ => ks.length - (intOf i).toNat)
  case atStart => exact ⟨0, 1, by omega, rfl, rfl, by omega, by omega, hcnt, by go_grown⟩
  case round =>
    obtain ⟨j, cc, hj, rfl, rfl, h1, h2, hrest, hb⟩ := hrel
    clear hcnt
    have hsize := hb.size
    by_cases hlt : j < ks.length
    · obtain ⟨kid, hkid⟩ : ∃ kid, ks[j]? = some kid := ⟨ks[j], List.getElem?_eq_getElem hlt⟩
      have hkin := HIN.out.kid hkid
      have hsz := ANode.sizeOf_kid (n := .mk kd tx A cap ks) hkid
      obtain ⟨⟨b, off, hA, hbL, c0, c1, c2⟩, hkidin⟩ := hkin
      dsimp only [ANode.addr] at hA
      subst hA
      have hstep := hrest.out
      rw [eraseL_drop hkid, cntL] at hstep
      have HS := Lib.hid hstep
      clear hstep hrest hkid
      have c0' := (hb.cell (p := ⟨b, off + j * 3, none⟩) (by show b < _; omega)).trans c0
      have c1' := (hb.cell (p := ⟨b, off + j * 3 + 1, none⟩) (by show b < _; omega)).trans c1
      have c2' := (hb.cell (p := ⟨b, off + j * 3 + 2, none⟩) (by show b < _; omega)).trans c2
      clear c0 c1 c2
      by_cases hgo : cc ≤ m ∧ (d == 0) = false
      · obtain ⟨hcm, hd0⟩ := hgo
        have hd1 : 1 ≤ d := by
          have : d ≠ 0 := by simpa using hd0
          omega
        have hbd := cnt_bd kid.erase (m - cc) (d - 1) (by omega)
        go_wp2_with fail
        refine (IH.out kid _ L _ _ ?_ ?_ ?_ ?_ ?_ ?_ ?_).mono ?_
        · omega
        · exact hkidin.below (B := w.heap.size) (by go_grown) (by omega)
        · simp only [World.size_alloc]; omega
        · omega
        · omega
        · omega
        · omega
        rintro e w' ⟨rfl, hb'⟩
        have hb2 : Below w.heap.size w w' := hb.trans ((Below.alloc (Below.refl _ _) (by omega) _).trans (hb'.mono (by simp only [World.size_alloc]; omega)))
        clear hb'
        go_wp2_with fail
        go_roundw
        case rel => exact ⟨j + 1, _, by omega, by go_num, rfl, by omega, by omega, by have := HS.out; rwa [if_neg (by omega)] at this, hb2⟩
        case measure => simp [intOf]; omega
      · have hst : cc > m ∨ d = 0 := by
          by_cases hc : cc ≤ m
          · right
            have : ¬ (d == 0) = false := fun h => hgo ⟨hc, h⟩
            simpa using this
          · left; omega
        have HR : Hid _ := Lib.hid (HS.out.symm.trans (if_pos hst))
        by_cases hc : cc ≤ m
        · have hd0 : (d == 0) = true := by
            have : ¬ (d == 0) = false := fun h => hgo ⟨hc, h⟩
            simpa using this
          clear hgo hst HS
          go_wp2_with fail
          go_ret
          exact ⟨ret_int HR.out.symm, by go_grown⟩
        · clear hgo hst HS
          go_wp2_with fail
          go_ret
          exact ⟨ret_int HR.out.symm, by go_grown⟩
    · obtain rfl : j = ks.length := by omega
      go_wp2_with fail
      go_ret
      have hr := hrest.out
      rw [List.drop_length, eraseL, cntL] at hr
      exact ⟨ret_int hr, by go_grown⟩

theorem isIn_any (s : ByteArray) (g cap : Nat) (l : List ByteArray) (w : World) (hl : l.length ≤ 1000) (hc : ∀ i x, l[i]? = some x → w.cell? ⟨g, i, none⟩ = some (.string x)) :
    Calls Tryz.prog 66 #[.string s, .slice (some ⟨g, 0, none⟩) l.length cap] w fun e w' => e = .returned (.bool (l.any fun x => x.toList == s.toList)) ∧ w = w' := by
  have HC := Lib.hid hc
  clear hc
  have h0 : Hid (((l.drop 0).any fun x => x.toList == s.toList) = (l.any fun x => x.toList == s.toList)) := rfl
  go_enter Tryz.func66, Tryz.ntmps66
  go_wp2_with fail
  go_loop [9] (fun i => ∃ j : Nat, j ≤ l.length ∧ i = .int .i64 j ∧ Hid (((l.drop j).any fun x => x.toList == s.toList) = (l.any fun x => x.toList == s.toList))) (fun i => l.length - (intOf i).toNat)
  case atStart => exact ⟨0, by omega, rfl, h0⟩
  case round =>
    obtain ⟨j, hj, rfl, hrest⟩ := hrel
    clear h0
    by_cases hlt : j < l.length
    · obtain ⟨x, hx⟩ : ∃ x, l[j]? = some x := ⟨l[j], List.getElem?_eq_getElem hlt⟩
      have hcell := HC.out j x hx
      have hd : l.drop j = x :: l.drop (j + 1) := by
        rw [List.drop_eq_getElem_cons hlt]
        rw [List.getElem?_eq_getElem hlt] at hx
        rw [Option.some.inj hx]
      have HR := Lib.hid hrest.out
      clear hrest
      have HD := Lib.hid hd
      clear hd hx
      by_cases hb : (x.toList == s.toList) = true
      · go_wp2
        go_ret
        exact ⟨ret_bool (by rw [← HR.out, HD.out, List.any_cons, hb, Bool.true_or]), rfl⟩
      · have hb' : (x.toList == s.toList) = false := by simpa using hb
        clear hb
        go_wp2
        go_round
        case rel => exact ⟨j + 1, by omega, by go_num, by
          have := HR.out
          rwa [HD.out, List.any_cons, hb', Bool.false_or] at this⟩
        case measure => simp [intOf]; omega
    · obtain rfl : j = l.length := by omega
      go_wp2
      go_ret
      exact ⟨ret_bool (by rw [← hrest.out, List.drop_length, List.any_nil]), rfl⟩

theorem isSmall_any (n : ANode) (w : World) (L : Nat) (hin : n.In w L) (hL : L ≤ w.heap.size) :
    Calls Tryz.prog 29 #[n.val] w (Tells (n.erase.hgt ≤ 27) w) := by
  have HIN := Lib.hid hin
  clear hin
  unfold ANode.val
  go_enter Tryz.func29, Tryz.ntmps29
  go_wp2_with fail
  refine (cnt_any _ n _ L 4000 26 (Nat.lt_succ_self _) (HIN.out.below (B := w.heap.size) (by go_grown) hL) (by simp only [World.size_alloc]; omega) (by omega) (by omega) (by omega) (by omega)).mono ?_
  rintro e w' ⟨rfl, hb⟩
  have hb2 : Below w.heap.size w w' := (Below.alloc (Below.refl _ _) (by omega) _).trans (hb.mono (by simp only [World.size_alloc]; omega))
  clear hb
  go_wp2_with fail
  go_ret
  refine Tells.of (fun h => ?_) hb2
  have := hgt_le n.erase 4000 26 (by omega) (by simpa using h)
  omega

/-- The kinds, and what is none of them. -/
theorem kind_cases (k : ByteArray) : k = sName ∨ k = sInt ∨ k = sSel ∨ k = sParen ∨ k = sUn ∨ k = sBin ∨ k = sIndex ∨ k = sCall ∨
    ((k.toList == [110, 97, 109, 101]) = false ∧ (k.toList == [105, 110, 116]) = false ∧ (k.toList == [115, 101, 108, 101, 99, 116, 111, 114]) = false ∧ (k.toList == [112, 97, 114, 101, 110]) = false ∧
      (k.toList == [117, 110, 97, 114, 121]) = false ∧ (k.toList == [98, 105, 110, 97, 114, 121]) = false ∧ (k.toList == [105, 110, 100, 101, 120]) = false ∧ (k.toList == [99, 97, 108, 108]) = false) := by
  by_cases h1 : k = sName
  · simp [h1]
  by_cases h2 : k = sInt
  · simp [h2]
  by_cases h3 : k = sSel
  · simp [h3]
  by_cases h4 : k = sParen
  · simp [h4]
  by_cases h5 : k = sUn
  · simp [h5]
  by_cases h6 : k = sBin
  · simp [h6]
  by_cases h7 : k = sIndex
  · simp [h7]
  by_cases h8 : k = sCall
  · simp [h8]
  have e : ∀ l : List UInt8, (⟨l.toArray⟩ : ByteArray).toList = l := ByteArray.toList_mk
  refine .inr (.inr (.inr (.inr (.inr (.inr (.inr (.inr ⟨?_, ?_, ?_, ?_, ?_, ?_, ?_, ?_⟩)))))))
  · exact (congrArg (fun z => (k.toList == z)) (show sName.toList = _ from e [110, 97, 109, 101])).symm.trans (beq_of_ne h1)
  · exact (congrArg (fun z => (k.toList == z)) (show sInt.toList = _ from e [105, 110, 116])).symm.trans (beq_of_ne h2)
  · exact (congrArg (fun z => (k.toList == z)) (show sSel.toList = _ from e [115, 101, 108, 101, 99, 116, 111, 114])).symm.trans (beq_of_ne h3)
  · exact (congrArg (fun z => (k.toList == z)) (show sParen.toList = _ from e [112, 97, 114, 101, 110])).symm.trans (beq_of_ne h4)
  · exact (congrArg (fun z => (k.toList == z)) (show sUn.toList = _ from e [117, 110, 97, 114, 121])).symm.trans (beq_of_ne h5)
  · exact (congrArg (fun z => (k.toList == z)) (show sBin.toList = _ from e [98, 105, 110, 97, 114, 121])).symm.trans (beq_of_ne h6)
  · exact (congrArg (fun z => (k.toList == z)) (show sIndex.toList = _ from e [105, 110, 100, 101, 120])).symm.trans (beq_of_ne h7)
  · exact (congrArg (fun z => (k.toList == z)) (show sCall.toList = _ from e [99, 97, 108, 108])).symm.trans (beq_of_ne h8)
end Go.Proofs.YtgimbgpebpippaaGreatDoor
