/- nodeOf whole; Same, SameList; IsTree. -/
import Derived.Test.YtgimbgpebpippaaGreatDoorWalkH
import Derived.Test.YtgimbgpebpippaaGreatDoorWalkC
namespace Go.Proofs.YtgimbgpebpippaaGreatDoor
open Go.RowKit
set_option maxRecDepth 100000
set_option maxHeartbeats 1000000

theorem nodeOf_any (k : Nat) : NodeUpTo k := by
  induction k with
  | zero => intro x w hs; omega
  | succ k ih =>
  intro x w hs hin hG
  cases x with
  | ident b nm => exact nodeOf_ident b nm w hin
  | lit b tx => exact nodeOf_lit b tx w hin
  | paren b x => rw [AE.paren.sizeOf_spec] at hs; exact nodeOf_paren k ih b x w (by omega) hin hG
  | sel b x sb nm => rw [AE.sel.sizeOf_spec] at hs; exact nodeOf_sel k ih b x sb nm w (by omega) hin hG
  | star b x => rw [AE.star.sizeOf_spec] at hs; exact nodeOf_star k ih b x w (by omega) hin hG
  | unary b op x => rw [AE.unary.sizeOf_spec] at hs; exact nodeOf_unary k ih b op x w (by omega) hin hG
  | binary b op x y => rw [AE.binary.sizeOf_spec] at hs; exact nodeOf_binary k ih b op x y w (by omega) (by omega) hin hG
  | index b x y => rw [AE.index.sizeOf_spec] at hs; exact nodeOf_index k ih b x y w (by omega) (by omega) hin hG
  | call b f g c args =>
    rw [AE.call.sizeOf_spec] at hs
    exact nodeOf_call k ih b f g c args w (by omega) (fun x hx => by have := List.sizeOf_lt_of_mem hx; omega) hin hG

/-! Same -/
def SameUpTo (k : Nat) : Prop := ∀ (n m : ANode) (w : World) (L : Nat), SizeOf.sizeOf n < k → n.In w L → m.In w L → L ≤ w.heap.size → n.erase = m.erase →
  Calls Tryz.prog 16 #[n.val, m.val] w fun e w' => e = .returned (.bool true) ∧ Below w.heap.size w w'

theorem sameList_any (k : Nat) (ih : SameUpTo k) (A A' : Option Addr) (cap cap' : Nat) (ns ms : List ANode) (w : World) (L : Nat) (hs : ∀ n ∈ ns, SizeOf.sizeOf n < k) (hn : KidsIn w L A 0 ns) (hm : KidsIn w L A' 0 ms) (hL : L ≤ w.heap.size)
    (he : eraseL ns = eraseL ms) (hc : ns.length ≤ 9223372036854775807) :
    Calls Tryz.prog 26 #[.slice A ns.length cap, .slice A' ms.length cap'] w fun e w' => e = .returned (.bool true) ∧ Below w.heap.size w w' := by
  have hlen : ms.length = ns.length := by
    have := congrArg List.length he
    simpa [eraseL_length] using this.symm
  rw [hlen]
  have H := Lib.hid (And.intro hn (And.intro hm (And.intro he (And.intro hs hlen))))
  clear hn hm he hs hlen
  go_enter Tryz.func26, Tryz.ntmps26
  go_wp2_with fail
  go_loopw [13] (fun i wr => ∃ j : Nat, j ≤ ns.length ∧ i = .int .i64 j ∧ Below w.heap.size w wr) (fun i _ => ns.length - (intOf i).toNat)
  case atStart => exact ⟨0, by omega, rfl, by go_grown⟩
  case round =>
    obtain ⟨j, hj, rfl, hb⟩ := hrel
    have hsize := hb.size
    by_cases hlt : j < ns.length
    · obtain ⟨hn, hm, he, hs, hlen⟩ := H.out
      obtain ⟨n, hnj⟩ : ∃ n, ns[j]? = some n := ⟨ns[j], List.getElem?_eq_getElem hlt⟩
      obtain ⟨m, hmj⟩ : ∃ m, ms[j]? = some m := ⟨ms[j]'(by omega), List.getElem?_eq_getElem (by omega)⟩
      have hnk := hn.get hnj
      have hmk := hm.get hmj
      rw [Nat.zero_add] at hnk hmk
      have hsz := hs n (List.mem_of_getElem? hnj)
      have heq : n.erase = m.erase := by
        have := congrArg (·[j]?) he
        simpa [eraseL_eq, hnj, hmj] using this
      obtain ⟨⟨b, off, rfl, hbL, c0, c1, c2⟩, hnin⟩ := hnk
      obtain ⟨⟨b', off', rfl, hbL', d0, d1, d2⟩, hmin⟩ := hmk
      have c0' := (hb.cell (p := ⟨b, off + j * 3, none⟩) (by show b < _; omega)).trans c0
      have c1' := (hb.cell (p := ⟨b, off + j * 3 + 1, none⟩) (by show b < _; omega)).trans c1
      have c2' := (hb.cell (p := ⟨b, off + j * 3 + 2, none⟩) (by show b < _; omega)).trans c2
      have d0' := (hb.cell (p := ⟨b', off' + j * 3, none⟩) (by show b' < _; omega)).trans d0
      have d1' := (hb.cell (p := ⟨b', off' + j * 3 + 1, none⟩) (by show b' < _; omega)).trans d1
      have d2' := (hb.cell (p := ⟨b', off' + j * 3 + 2, none⟩) (by show b' < _; omega)).trans d2
      have HE := Lib.hid (And.intro heq (And.intro hnin hmin))
      clear c0 c1 c2 d0 d1 d2 hn hm he hs hlen hnj hmj heq hnin hmin
      have q1 : (0 : Int) ≤ (j : Int) := by omega
      have q2 : (j : Int) < (ns.length : Int) := by omega
      go_wp2_with fail
      go_region_held3 (fun w' => w'.cell? ⟨b, off + j * 3, none⟩ = some (.string n.kind) ∧ w'.cell? ⟨b, off + j * 3 + 1, none⟩ = some (.string n.text) ∧ w'.cell? ⟨b, off + j * 3 + 2, none⟩ = some (.slice n.addr n.kids.length n.cap) ∧
          w'.cell? ⟨b', off' + j * 3, none⟩ = some (.string m.kind) ∧ w'.cell? ⟨b', off' + j * 3 + 1, none⟩ = some (.string m.text) ∧ w'.cell? ⟨b', off' + j * 3 + 2, none⟩ = some (.slice m.addr m.kids.length m.cap)) (go_keep)
        (first
          | (go_at_call 16; refine (ih n m _ L hsz (HE.out.2.1.below (B := w.heap.size) (by go_grown) hL) (HE.out.2.2.below (B := w.heap.size) (by go_grown) hL) (by go_size) HE.out.1).mono ?_; rintro e w1 ⟨rfl, hb1⟩; have e0 := (hb1.cell (p := ⟨b, off + j * 3, none⟩) (by show b < _; go_size)).trans c0'; have e1 := (hb1.cell (p := ⟨b, off + j * 3 + 1, none⟩) (by show b < _; go_size)).trans c1'; have e2 := (hb1.cell (p := ⟨b, off + j * 3 + 2, none⟩) (by show b < _; go_size)).trans c2'; have e3 := (hb1.cell (p := ⟨b', off' + j * 3, none⟩) (by show b' < _; go_size)).trans d0'; have e4 := (hb1.cell (p := ⟨b', off' + j * 3 + 1, none⟩) (by show b' < _; go_size)).trans d1'; have e5 := (hb1.cell (p := ⟨b', off' + j * 3 + 2, none⟩) (by show b' < _; go_size)).trans d2'; have hbn : Below w.heap.size w w1 := Below.trans (by go_grown) (hb1.mono (by go_size))))
      all_goals
        go_wp2_with fail
        go_roundw
        case rel => exact ⟨j + 1, by omega, by go_num, hbn⟩
        case measure => simp [intOf]; omega
    · obtain rfl : j = ns.length := by omega
      go_wp2_with fail
      go_ret
      exact ⟨rfl, hb⟩

theorem same_any (k : Nat) : SameUpTo k := by
  induction k with
  | zero => intro n m w L hs; omega
  | succ k ih =>
  intro n m w L hs hn hm hL he
  have hsk : ∀ x ∈ n.kids, SizeOf.sizeOf x < k := by
    intro x hx
    obtain ⟨i, hi, rfl⟩ := List.mem_iff_getElem.1 hx
    have := ANode.sizeOf_kid (n := n) (List.getElem?_eq_getElem hi)
    omega
  have hkid := hn.kids
  have hkid2 := hm.kids
  have hlen := hn.len
  have hcap := hn.cap
  have hek : eraseL n.kids = eraseL m.kids := by
    have := congrArg Node.kids he
    rwa [ANode.erase_kids, ANode.erase_kids, ← eraseL_eq, ← eraseL_eq] at this
  have hk : m.kind = n.kind := by
    have := congrArg Node.kind he
    rw [ANode.erase_kind, ANode.erase_kind] at this
    exact this.symm
  have ht : m.text = n.text := by
    have := congrArg Node.text he
    rw [ANode.erase_text, ANode.erase_text] at this
    exact this.symm
  have hnl : n.kids.length ≤ 9223372036854775807 := by unfold maxLen at hcap; omega
  unfold ANode.val
  rw [hk, ht]
  have hlist := sameList_any k ih n.addr m.addr n.cap m.cap n.kids m.kids
  have HL := Lib.hid (And.intro hlist (And.intro hsk (And.intro hkid (And.intro hkid2 hek))))
  clear hlist hsk hkid hkid2 hek hk ht he hlen hcap hn hm
  go_enter Tryz.func16, Tryz.ntmps16
  go_wp2_with fail
  refine (HL.out.1 _ L HL.out.2.1 (HL.out.2.2.1.below (B := w.heap.size) (by go_grown) hL) (HL.out.2.2.2.1.below (B := w.heap.size) (by go_grown) hL) (by go_size) HL.out.2.2.2.2 hnl).mono ?_
  rintro e w1 ⟨rfl, hb1⟩
  have hbn : Below w.heap.size w w1 := Below.trans (by go_grown) (hb1.mono (by go_size))
  clear hb1
  go_wp2_with fail
  go_ret
  exact ⟨rfl, hbn⟩

theorem isTreeTop_any (n : ANode) (w : World) (L : Nat) (hin : n.In w L) (hL : L ≤ w.heap.size) :
    Calls Tryz.prog 11 #[n.val] w (Tells (V n.erase) w) := by
  have HIN := Lib.hid hin
  clear hin
  have HSM := fun w' (h : Below w.heap.size w w') => isSmall_any n w' L (HIN.out.below h hL) (Nat.le_trans hL h.size)
  have HIT := fun w' (h : Below w.heap.size w w') (hh : n.erase.hgt ≤ 27) => isTree_any _ n w' L 12 (Nat.lt_succ_self _) (HIN.out.below h hL) (Nat.le_trans hL h.size) (by omega) (by omega)
  have HC := Lib.hid (And.intro HSM HIT)
  clear HSM HIT
  unfold ANode.val at *
  go_enter Tryz.func11, Tryz.ntmps11
  go_wp2_with fail
  refine (HC.out.1 _ (by go_grown)).mono ?_
  rintro e w1 ⟨b, rfl, hb, hb1⟩
  have hbx : Below (w.heap.size + 1) (w.alloc (.cells #[.string n.kind, .string n.text, .slice n.addr n.kids.length n.cap] 24)) w1 := Below.trans (Below.refl _ _) (hb1.mono (by go_size))
  have hbn : Below w.heap.size w w1 := Below.trans (by go_grown) (hb1.mono (by go_size))
  have rb := (Blk.new w 24 #[.string n.kind, .string n.text, .slice n.addr n.kids.length n.cap]).below hbx (Nat.lt_succ_self _)
  have r0 : w1.cell? ⟨w.heap.size, 0, none⟩ = some (.string n.kind) := rb.cell 0
  have r1 : w1.cell? ⟨w.heap.size, 1, none⟩ = some (.string n.text) := rb.cell 1
  have r2 : w1.cell? ⟨w.heap.size, 2, none⟩ = some (.slice n.addr n.kids.length n.cap) := rb.cell 2
  clear rb hb1 hbx
  cases b
  · go_wp2_with fail
    go_ret
    exact Tells.no hbn
  · have HB := Lib.hid (hb rfl)
    clear hb
    go_wp2_with fail
    refine (HC.out.2 _ hbn HB.out).mono ?_
    rintro e w2 ⟨b, rfl, hb, hb2⟩
    have hbn2 : Below w.heap.size w w2 := hbn.trans (hb2.mono hbn.size)
    have HB2 := Lib.hid (And.intro hb hbn2)
    clear hb hb2 hbn2
    go_wp2_with fail
    go_ret
    exact Tells.of HB2.out.1 HB2.out.2

end Go.Proofs.YtgimbgpebpippaaGreatDoor
