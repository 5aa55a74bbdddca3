/- nodeOf whole; Same, SameList; Unparened, and the law's own function. -/
import Derived.Test.YtiidjpfjiedeiaaDoorWalkH
import Derived.Test.YtiidjpfjiedeiaaDoorWalkC
namespace Go.Proofs.YtiidjpfjiedeiaaDoor
open Go.RowKit
set_option maxRecDepth 100000
set_option maxHeartbeats 1000000

theorem nodeOf_any (k : Nat) : NodeUpTo k := by
  induction k with
  | zero => intro x w hs; omega
  | succ k ih =>
  intro x w hs hin hG
  cases x with
  | ident b nm => exact nodeOf_ident b nm w hin
  | lit b tx => exact nodeOf_lit b tx w hin
  | paren b x => rw [AE.paren.sizeOf_spec] at hs; exact nodeOf_paren k ih b x w (by omega) hin hG
  | sel b x sb nm => rw [AE.sel.sizeOf_spec] at hs; exact nodeOf_sel k ih b x sb nm w (by omega) hin hG
  | star b x => rw [AE.star.sizeOf_spec] at hs; exact nodeOf_star k ih b x w (by omega) hin hG
  | unary b op x => rw [AE.unary.sizeOf_spec] at hs; exact nodeOf_unary k ih b op x w (by omega) hin hG
  | binary b op x y => rw [AE.binary.sizeOf_spec] at hs; exact nodeOf_binary k ih b op x y w (by omega) (by omega) hin hG
  | index b x y => rw [AE.index.sizeOf_spec] at hs; exact nodeOf_index k ih b x y w (by omega) (by omega) hin hG
  | call b f g c args =>
    rw [AE.call.sizeOf_spec] at hs
    exact nodeOf_call k ih b f g c args w (by omega) (fun x hx => by have := List.sizeOf_lt_of_mem hx; omega) hin hG

/-! Same -/
def SameUpTo (k : Nat) : Prop := ∀ (n m : ANode) (w : World) (L : Nat), SizeOf.sizeOf n < k → n.In w L → m.In w L → L ≤ w.heap.size → n.erase = m.erase →
  Calls Tryd.prog 6 #[n.val, m.val] w fun e w' => e = .returned (.bool true) ∧ Below w.heap.size w w'

theorem sameList_any (k : Nat) (ih : SameUpTo k) (A A' : Option Addr) (cap cap' : Nat) (ns ms : List ANode) (w : World) (L : Nat) (hs : ∀ n ∈ ns, SizeOf.sizeOf n < k) (hn : KidsIn w L A 0 ns) (hm : KidsIn w L A' 0 ms) (hL : L ≤ w.heap.size)
    (he : eraseL ns = eraseL ms) (hc : ns.length ≤ 9223372036854775807) :
    Calls Tryd.prog 11 #[.slice A ns.length cap, .slice A' ms.length cap'] w fun e w' => e = .returned (.bool true) ∧ Below w.heap.size w w' := by
  have hlen : ms.length = ns.length := by
    have := congrArg List.length he
    simpa [eraseL_length] using this.symm
  rw [hlen]
  have H := Lib.hid (And.intro hn (And.intro hm (And.intro he (And.intro hs hlen))))
  clear hn hm he hs hlen
  go_enter Tryd.func11, Tryd.ntmps11
  go_wp2_with fail
  go_loopw [13] (fun i wr => ∃ j : Nat, j ≤ ns.length ∧ i = .int .i64 j ∧ Below w.heap.size w wr) (fun i _ => ns.length - (intOf i).toNat)
  case atStart => exact ⟨0, by omega, rfl, by go_grown⟩
  case round =>
    obtain ⟨j, hj, rfl, hb⟩ := hrel
    have hsize := hb.size
    by_cases hlt : j < ns.length
    · obtain ⟨hn, hm, he, hs, hlen⟩ := H.out
      obtain ⟨n, hnj⟩ : ∃ n, ns[j]? = some n := ⟨ns[j], List.getElem?_eq_getElem hlt⟩
      obtain ⟨m, hmj⟩ : ∃ m, ms[j]? = some m := ⟨ms[j]'(by omega), List.getElem?_eq_getElem (by omega)⟩
      have hnk := hn.get hnj
      have hmk := hm.get hmj
      rw [Nat.zero_add] at hnk hmk
      have hsz := hs n (List.mem_of_getElem? hnj)
      have heq : n.erase = m.erase := by
        have := congrArg (·[j]?) he
        simpa [eraseL_eq, hnj, hmj] using this
      obtain ⟨⟨b, off, rfl, hbL, c0, c1, c2⟩, hnin⟩ := hnk
      obtain ⟨⟨b', off', rfl, hbL', d0, d1, d2⟩, hmin⟩ := hmk
      have c0' := (hb.cell (p := ⟨b, off + j * 3, none⟩) (by show b < _; omega)).trans c0
      have c1' := (hb.cell (p := ⟨b, off + j * 3 + 1, none⟩) (by show b < _; omega)).trans c1
      have c2' := (hb.cell (p := ⟨b, off + j * 3 + 2, none⟩) (by show b < _; omega)).trans c2
      have d0' := (hb.cell (p := ⟨b', off' + j * 3, none⟩) (by show b' < _; omega)).trans d0
      have d1' := (hb.cell (p := ⟨b', off' + j * 3 + 1, none⟩) (by show b' < _; omega)).trans d1
      have d2' := (hb.cell (p := ⟨b', off' + j * 3 + 2, none⟩) (by show b' < _; omega)).trans d2
      have HE := Lib.hid (And.intro heq (And.intro hnin hmin))
      clear c0 c1 c2 d0 d1 d2 hn hm he hs hlen hnj hmj heq hnin hmin
      have q1 : (0 : Int) ≤ (j : Int) := by omega
      have q2 : (j : Int) < (ns.length : Int) := by omega
      go_wp2_with fail
      go_region_held3 (fun w' => w'.cell? ⟨b, off + j * 3, none⟩ = some (.string n.kind) ∧ w'.cell? ⟨b, off + j * 3 + 1, none⟩ = some (.string n.text) ∧ w'.cell? ⟨b, off + j * 3 + 2, none⟩ = some (.slice n.addr n.kids.length n.cap) ∧
          w'.cell? ⟨b', off' + j * 3, none⟩ = some (.string m.kind) ∧ w'.cell? ⟨b', off' + j * 3 + 1, none⟩ = some (.string m.text) ∧ w'.cell? ⟨b', off' + j * 3 + 2, none⟩ = some (.slice m.addr m.kids.length m.cap)) (go_keep)
        (first
          | (go_at_call 6; refine (ih n m _ L hsz (HE.out.2.1.below (B := w.heap.size) (by go_grown) hL) (HE.out.2.2.below (B := w.heap.size) (by go_grown) hL) (by go_size) HE.out.1).mono ?_; rintro e w1 ⟨rfl, hb1⟩; have e0 := (hb1.cell (p := ⟨b, off + j * 3, none⟩) (by show b < _; go_size)).trans c0'; have e1 := (hb1.cell (p := ⟨b, off + j * 3 + 1, none⟩) (by show b < _; go_size)).trans c1'; have e2 := (hb1.cell (p := ⟨b, off + j * 3 + 2, none⟩) (by show b < _; go_size)).trans c2'; have e3 := (hb1.cell (p := ⟨b', off' + j * 3, none⟩) (by show b' < _; go_size)).trans d0'; have e4 := (hb1.cell (p := ⟨b', off' + j * 3 + 1, none⟩) (by show b' < _; go_size)).trans d1'; have e5 := (hb1.cell (p := ⟨b', off' + j * 3 + 2, none⟩) (by show b' < _; go_size)).trans d2'; have hbn : Below w.heap.size w w1 := Below.trans (by go_grown) (hb1.mono (by go_size))))
      all_goals
        go_wp2_with fail
        go_roundw
        case rel => exact ⟨j + 1, by omega, by go_num, hbn⟩
        case measure => simp [intOf]; omega
    · obtain rfl : j = ns.length := by omega
      go_wp2_with fail
      go_ret
      exact ⟨rfl, hb⟩

theorem same_any (k : Nat) : SameUpTo k := by
  induction k with
  | zero => intro n m w L hs; omega
  | succ k ih =>
  intro n m w L hs hn hm hL he
  have hsk : ∀ x ∈ n.kids, SizeOf.sizeOf x < k := by
    intro x hx
    obtain ⟨i, hi, rfl⟩ := List.mem_iff_getElem.1 hx
    have := ANode.sizeOf_kid (n := n) (List.getElem?_eq_getElem hi)
    omega
  have hkid := hn.kids
  have hkid2 := hm.kids
  have hlen := hn.len
  have hcap := hn.cap
  have hek : eraseL n.kids = eraseL m.kids := by
    have := congrArg Node.kids he
    rwa [ANode.erase_kids, ANode.erase_kids, ← eraseL_eq, ← eraseL_eq] at this
  have hk : m.kind = n.kind := by
    have := congrArg Node.kind he
    rw [ANode.erase_kind, ANode.erase_kind] at this
    exact this.symm
  have ht : m.text = n.text := by
    have := congrArg Node.text he
    rw [ANode.erase_text, ANode.erase_text] at this
    exact this.symm
  have hnl : n.kids.length ≤ 9223372036854775807 := by unfold maxLen at hcap; omega
  unfold ANode.val
  rw [hk, ht]
  have hlist := sameList_any k ih n.addr m.addr n.cap m.cap n.kids m.kids
  have HL := Lib.hid (And.intro hlist (And.intro hsk (And.intro hkid (And.intro hkid2 hek))))
  clear hlist hsk hkid hkid2 hek hk ht he hlen hcap hn hm
  go_enter Tryd.func6, Tryd.ntmps6
  go_wp2_with fail
  refine (HL.out.1 _ L HL.out.2.1 (HL.out.2.2.1.below (B := w.heap.size) (by go_grown) hL) (HL.out.2.2.2.1.below (B := w.heap.size) (by go_grown) hL) (by go_size) HL.out.2.2.2.2 hnl).mono ?_
  rintro e w1 ⟨rfl, hb1⟩
  have hbn : Below w.heap.size w w1 := Below.trans (by go_grown) (hb1.mono (by go_size))
  clear hb1
  go_wp2_with fail
  go_ret
  exact ⟨rfl, hbn⟩

theorem isTreeTop_any (n : ANode) (w : World) (L : Nat) (hin : n.In w L) (hL : L ≤ w.heap.size) :
    Calls Tryd.prog 5 #[n.val] w (Tells (V n.erase) w) := by
  have HIN := Lib.hid hin
  clear hin
  have HSM := fun w' (h : Below w.heap.size w w') => isSmall_any n w' L (HIN.out.below h hL) (Nat.le_trans hL h.size)
  have HIT := fun w' (h : Below w.heap.size w w') (hh : n.erase.hgt ≤ 27) => isTree_any _ n w' L 12 (Nat.lt_succ_self _) (HIN.out.below h hL) (Nat.le_trans hL h.size) (by omega) (by omega)
  have HC := Lib.hid (And.intro HSM HIT)
  clear HSM HIT
  unfold ANode.val at *
  go_enter Tryd.func5, Tryd.ntmps5
  go_wp2_with fail
  refine (HC.out.1 _ (by go_grown)).mono ?_
  rintro e w1 ⟨b, rfl, hb, hb1⟩
  have hbx : Below (w.heap.size + 1) (w.alloc (.cells #[.string n.kind, .string n.text, .slice n.addr n.kids.length n.cap] 24)) w1 := Below.trans (Below.refl _ _) (hb1.mono (by go_size))
  have hbn : Below w.heap.size w w1 := Below.trans (by go_grown) (hb1.mono (by go_size))
  have rb := (Blk.new w 24 #[.string n.kind, .string n.text, .slice n.addr n.kids.length n.cap]).below hbx (Nat.lt_succ_self _)
  have r0 : w1.cell? ⟨w.heap.size, 0, none⟩ = some (.string n.kind) := rb.cell 0
  have r1 : w1.cell? ⟨w.heap.size, 1, none⟩ = some (.string n.text) := rb.cell 1
  have r2 : w1.cell? ⟨w.heap.size, 2, none⟩ = some (.slice n.addr n.kids.length n.cap) := rb.cell 2
  clear rb hb1 hbx
  cases b
  · go_wp2_with fail
    go_ret
    exact Tells.no hbn
  · have HB := Lib.hid (hb rfl)
    clear hb
    go_wp2_with fail
    refine (HC.out.2 _ hbn HB.out).mono ?_
    rintro e w2 ⟨b, rfl, hb, hb2⟩
    have hbn2 : Below w.heap.size w w2 := hbn.trans (hb2.mono hbn.size)
    have HB2 := Lib.hid (And.intro hb hbn2)
    clear hb hb2 hbn2
    go_wp2_with fail
    go_ret
    exact Tells.of HB2.out.1 HB2.out.2

/-! the parentheses around a node -/
def ANode.bare : ANode → ANode
  | .mk k t A cap ks => if k = sParen then (match ks with | [x] => x.bare | ks => .mk k t A cap ks) else .mk k t A cap ks

/-- What stands in parentheses. -/
theorem paren_kid {kd tx : ByteArray} {A : Option Addr} {cap : Nat} {ks : List ANode} {w : World} {L : Nat} (hk : kd = sParen) (hin : (ANode.mk kd tx A cap ks).In w L) (hv : V (ANode.mk kd tx A cap ks).erase) :
    ∃ x b off, ks = [x] ∧ A = some ⟨b, off, none⟩ ∧ b < L ∧ w.cell? ⟨b, off, none⟩ = some (.string x.kind) ∧ w.cell? ⟨b, off + 1, none⟩ = some (.string x.text) ∧ w.cell? ⟨b, off + 2, none⟩ = some (.slice x.addr x.kids.length x.cap) ∧
      x.In w L ∧ V x.erase ∧ (ANode.mk kd tx A cap ks).bare = x.bare := by
  subst hk
  simp only [ANode.erase, V, eraseL_length] at hv
  obtain ⟨hk, hvl⟩ := hv
  have hl : ks.length = 1 := by
    rcases hk with ⟨hk, ht, hl⟩ | ⟨hk, hl⟩ | ⟨_, _, hl⟩ | ⟨hk, _⟩ | ⟨hk, _⟩ | ⟨hk, _⟩ | ⟨hk, _⟩
    · rcases hk with hk | hk <;> exact absurd (congrArg (fun z => z.data.toList) hk) (by decide)
    · exact hl
    · exact hl
    all_goals exact absurd (congrArg (fun z => z.data.toList) hk) (by decide)
  obtain ⟨x, rfl⟩ := List.length_eq_one_iff.1 hl
  obtain ⟨⟨b, off, hA, hb, h0, h1, h2⟩, hx⟩ := hin.kid (i := 0) (kid := x) rfl
  simp only [Nat.zero_mul, Nat.add_zero] at h0 h1 h2
  refine ⟨x, b, off, rfl, hA, hb, h0, h1, h2, hx, ?_, ?_⟩
  · simp only [eraseL, VL] at hvl
    exact hvl.1
  · simp only [ANode.bare, if_pos]

theorem bare_of_ne {k t : ByteArray} {A : Option Addr} {c : Nat} {ks : List ANode} (h : ¬ k = sParen) : (ANode.mk k t A c ks).bare = ANode.mk k t A c ks := by
  unfold ANode.bare
  split <;> simp_all
theorem mk_kind (k t : ByteArray) (A : Option Addr) (c : Nat) (ks : List ANode) : (ANode.mk k t A c ks).kind = k := rfl
theorem mk_text (k t : ByteArray) (A : Option Addr) (c : Nat) (ks : List ANode) : (ANode.mk k t A c ks).text = t := rfl
theorem mk_addr (k t : ByteArray) (A : Option Addr) (c : Nat) (ks : List ANode) : (ANode.mk k t A c ks).addr = A := rfl
theorem mk_kids (k t : ByteArray) (A : Option Addr) (c : Nat) (ks : List ANode) : (ANode.mk k t A c ks).kids = ks := rfl
theorem mk_cap (k t : ByteArray) (A : Option Addr) (c : Nat) (ks : List ANode) : (ANode.mk k t A c ks).cap = c := rfl
def UnpSo (n : ANode) (L : Nat) (w : World) (e : Ending) (w' : World) : Prop := ∃ m : ANode, e = .returned m.val ∧ m.In w' L ∧ m = n.bare ∧ Below w.heap.size w w'

theorem specUnparened_any (n : ANode) (w : World) (L : Nat) (hin : n.In w L) (hL : L ≤ w.heap.size) (hv : V n.erase) :
    Calls Tryd.prog 8 #[n.val] w (UnpSo n L w) := by
  have HIN := Lib.hid (And.intro hin hv)
  clear hin hv
  obtain ⟨kd0, tx0, A0, cap0, ks0⟩ := n
  show Calls Tryd.prog _ #[.agg #[.string kd0, .string tx0, .slice A0 ks0.length cap0]] w _
  go_enter Tryd.func8, Tryd.ntmps8
  go_wp2_with fail
  go_loopg [] (SizeOf.sizeOf (ANode.mk kd0 tx0 A0 cap0 ks0)) (fun k wr => ∃ y : ANode, wr = (w.alloc (.cells #[.string y.kind, .string y.text, .slice y.addr y.kids.length y.cap] 24)).alloc (.cells #[.string ⟨#[]⟩, .string ⟨#[]⟩, .slice none 0 0] 24) ∧ SizeOf.sizeOf y ≤ k ∧ y.In w L ∧ V y.erase ∧ y.bare = (ANode.mk kd0 tx0 A0 cap0 ks0).bare)
  case atStart => exact ⟨.mk kd0 tx0 A0 cap0 ks0, rfl, Nat.le_refl _, HIN.out.1, HIN.out.2, rfl⟩
  case round =>
    obtain ⟨y, rfl, hk, hyin, hyv, hyb⟩ := hrel
    obtain ⟨kd, tx, A, cap, ks⟩ := y
    simp only [mk_kind, mk_text, mk_addr, mk_kids, mk_cap]
    by_cases hp : kd = sParen
    · obtain ⟨x, b, off, rfl, rfl, hbL, c0, c1, c2, hxin, hxv, hxb⟩ := paren_kid hp hyin hyv
      subst hp
      have hbs : b < w.heap.size := by omega
      have hsz : SizeOf.sizeOf x < gk := by
        rw [ANode.mk.sizeOf_spec] at hk
        simp only [List.cons.sizeOf_spec] at hk
        omega
      have HB := Lib.hid (And.intro hyb (And.intro hxb (And.intro hxin hxv)))
      clear hyb hxb hxin hxv hk hyin hyv
      unfold sParen
      go_wp2_with fail
      go_roundg (SizeOf.sizeOf x)
      case measure => exact hsz
      case rel => exact ⟨x, rfl, Nat.le_refl _, HB.out.2.2.1, HB.out.2.2.2, HB.out.2.1.symm.trans HB.out.1⟩
    · have hne : (kd.toList == [112, 97, 114, 101, 110]) = false := (congrArg (fun z => (kd.toList == z)) (show sParen.toList = _ from ByteArray.toList_mk [112, 97, 114, 101, 110])).symm.trans (beq_of_ne hp)
      have HB := Lib.hid (And.intro hyb hyin)
      have HP := Lib.hid hp
      clear hyb hyin hyv hk hp
      go_wp2_with fail
      have rb : ∀ o, Blk ((w.alloc o).alloc (.cells #[.string kd, .string tx, .slice A ks.length cap] 24)) (w.heap.size + 1) 24 #[.string kd, .string tx, .slice A ks.length cap] := fun o => by
        have := Blk.new (w.alloc o) 24 #[.string kd, .string tx, .slice A ks.length cap]
        rwa [World.size_alloc] at this
      refine bodyPost_ret (results_struct rfl rfl (load_node (rb _) rfl rfl rfl)) rfl ?_
      refine ⟨ANode.mk kd tx A cap ks, rfl, ANode.In.below HB.out.2 (B := w.heap.size) (by go_grown) hL, ?_, by go_grown⟩
      exact (bare_of_ne HP.out).symm.trans HB.out.1
end Go.Proofs.YtiidjpfjiedeiaaDoor
