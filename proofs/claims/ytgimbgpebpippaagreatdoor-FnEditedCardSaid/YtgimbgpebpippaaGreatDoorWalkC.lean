/- The contract of isTree: what it says where it answers true. -/
import Derived.Test.YtgimbgpebpippaaGreatDoorWalkA
namespace Go.Proofs.YtgimbgpebpippaaGreatDoor
open Go.RowKit
set_option maxRecDepth 100000
set_option maxHeartbeats 4000000

/-- The relation of the loop over the kids. -/
def KidsSo (kd tx : ByteArray) (A : Option Addr) (cap : Nat) (ks : List ANode) (w wr : World) (j : Nat) : Prop :=
  j ≤ ks.length ∧ (∀ i kid, i < j → ks[i]? = some kid → V kid.erase) ∧ Below (w.heap.size + 1) (w.alloc (.cells #[.string kd, .string tx, .slice A ks.length cap] 24)) wr

theorem KidsSo.start {kd tx : ByteArray} {A : Option Addr} {cap : Nat} {ks : List ANode} {w wr : World}
    (h : Below (w.heap.size + 1) (w.alloc (.cells #[.string kd, .string tx, .slice A ks.length cap] 24)) wr) : KidsSo kd tx A cap ks w wr 0 :=
  ⟨by omega, fun i kid hi => absurd hi (by omega), h⟩
theorem KidsSo.below {kd tx : ByteArray} {A : Option Addr} {cap : Nat} {ks : List ANode} {w wr : World} {j : Nat} (h : KidsSo kd tx A cap ks w wr j) : Below w.heap.size w wr :=
  (Below.alloc (Below.refl _ _) (Nat.le_refl _) _).trans (h.2.2.mono (by omega))
theorem KidsSo.box {kd tx : ByteArray} {A : Option Addr} {cap : Nat} {ks : List ANode} {w wr : World} {j : Nat} (h : KidsSo kd tx A cap ks w wr j) :
    wr.cell? ⟨w.heap.size, 0, none⟩ = some (.string kd) ∧ wr.cell? ⟨w.heap.size, 1, none⟩ = some (.string tx) ∧ wr.cell? ⟨w.heap.size, 2, none⟩ = some (.slice A ks.length cap) := by
  have e := fun i => h.2.2.cell (p := ⟨w.heap.size, i, none⟩) (Nat.lt_succ_self _)
  exact ⟨(e 0).trans (World.cell?_alloc_at _ _ _ _ rfl), (e 1).trans (World.cell?_alloc_at _ _ _ _ rfl), (e 2).trans (World.cell?_alloc_at _ _ _ _ rfl)⟩
theorem KidsSo.size {kd tx : ByteArray} {A : Option Addr} {cap : Nat} {ks : List ANode} {w wr : World} {j : Nat} (h : KidsSo kd tx A cap ks w wr j) : w.heap.size + 1 ≤ wr.heap.size := by
  have := h.2.2.size
  rwa [World.size_alloc] at this
theorem KidsSo.all {kd tx : ByteArray} {A : Option Addr} {cap : Nat} {ks : List ANode} {w wr : World} (h : KidsSo kd tx A cap ks w wr ks.length) : VL (eraseL ks) := by
  rw [VL_iff]
  intro m hm
  rw [eraseL_eq, List.mem_map] at hm
  obtain ⟨kid, hk, rfl⟩ := hm
  obtain ⟨i, hi, he⟩ := List.mem_iff_getElem.1 hk
  exact h.2.1 i kid hi (by rw [List.getElem?_eq_getElem hi, he])
theorem KidsSo.step {kd tx : ByteArray} {A : Option Addr} {cap : Nat} {ks : List ANode} {w wr wr' : World} {j : Nat} {kid : ANode} (h : KidsSo kd tx A cap ks w wr j) (hj : j < ks.length) (hk : ks[j]? = some kid) (hv : V kid.erase)
    (hb : Below (w.heap.size + 1) wr wr') : KidsSo kd tx A cap ks w wr' (j + 1) := by
  refine ⟨hj, fun i m hi hm => ?_, h.2.2.trans hb⟩
  by_cases e : i = j
  · subst e; rw [hk] at hm; cases hm; exact hv
  · exact h.2.1 i m (by omega) hm
theorem KidsSo.left {kd tx : ByteArray} {A : Option Addr} {cap : Nat} {ks : List ANode} {w wr wr' : World} {j : Nat} (h : KidsSo kd tx A cap ks w wr j) (hb : Below (w.heap.size + 1) wr wr') : Below w.heap.size w wr' :=
  h.below.trans (hb.mono (by omega))

theorem isTree_any (k : Nat) : ∀ (n : ANode) (w : World) (L : Nat) (d : Int), SizeOf.sizeOf n < k → n.In w L → L ≤ w.heap.size → (n.erase.hgt : Int) ≤ d + 100 → d ≤ 100 →
    Calls Tryz.prog 30 #[n.val, .int .i64 d] w (Tells (V n.erase) w) := by
  induction k with
  | zero => intro n w L d hs; omega
  | succ k ih =>
  intro n w L d hs hin hL hd hd2
  obtain ⟨kd, tx, A, cap, ks⟩ := n
  have hlen : ks.length ≤ cap := hin.len
  have hcap : cap ≤ 2 ^ 63 - 1 := hin.cap
  have IH := Lib.hid ih
  clear ih
  have HIN := Lib.hid hin
  clear hin
  have hd1 : -100 ≤ d - 1 := by
    have : 1 ≤ (ANode.mk kd tx A cap ks).erase.hgt := by simp only [ANode.erase, Node.hgt]; omega
    omega
  have hsl := KidsSo.start (kd := kd) (tx := tx) (A := A) (cap := cap) (ks := ks) (w := w) (wr := w.alloc (.cells #[.string kd, .string tx, .slice A ks.length cap] 24)) (Below.refl _ _)
  have HS := Lib.hid hsl
  clear hsl
  show Calls Tryz.prog _ #[.agg #[.string kd, .string tx, .slice A ks.length cap], .int .i64 d] w _
  rcases kind_cases kd with rfl | rfl | rfl | rfl | rfl | rfl | rfl | rfl | ⟨h1, h2, h3, h4, h5, h6, h7, h8⟩
  · unfold sName at HIN HS hs hd ⊢
    go_enter Tryz.func30, Tryz.ntmps30
    by_cases htx : tx.toList = []
    · go_wp2_with fail
      all_goals
        go_ret
        exact Tells.no (by go_grown)
    · have HTX := Lib.hid (ne_empty htx)
      by_cases hl : ks.length = 0
      · obtain rfl : ks = [] := List.eq_nil_of_length_eq_zero hl
        clear hl
        go_wp2_with fail
        all_goals
          go_ret
          exact Tells.of (fun _ => V_mk (Vk.leaf (by first | exact Or.inl rfl | exact Or.inr rfl) HTX.out) trivial) (by go_grown)
      · have hl2 : ((ks.length : Int) == 0) = false := by simpa using hl
        clear hl
        go_wp2_with fail
        all_goals
          go_ret
          exact Tells.no (by go_grown)
  · unfold sInt at HIN HS hs hd ⊢
    go_enter Tryz.func30, Tryz.ntmps30
    by_cases htx : tx.toList = []
    · go_wp2_with fail
      all_goals
        go_ret
        exact Tells.no (by go_grown)
    · have HTX := Lib.hid (ne_empty htx)
      by_cases hl : ks.length = 0
      · obtain rfl : ks = [] := List.eq_nil_of_length_eq_zero hl
        clear hl
        go_wp2_with fail
        all_goals
          go_ret
          exact Tells.of (fun _ => V_mk (Vk.leaf (by first | exact Or.inl rfl | exact Or.inr rfl) HTX.out) trivial) (by go_grown)
      · have hl2 : ((ks.length : Int) == 0) = false := by simpa using hl
        clear hl
        go_wp2_with fail
        all_goals
          go_ret
          exact Tells.no (by go_grown)
  · unfold sSel at HIN HS hs hd ⊢
    go_enter Tryz.func30, Tryz.ntmps30
    go_wp2_with fail
    go_loopw [60] (fun i wr => ∃ j : Nat, i = .int .i64 j ∧ KidsSo ⟨#[115, 101, 108, 101, 99, 116, 111, 114]⟩ tx A cap ks w wr j) (fun i _ => ks.length - (intOf i).toNat)
    case atStart => exact ⟨0, rfl, KidsSo.start (by first | exact Below.refl _ _ | exact (Below.refl _ _).alloc (by simp only [World.size_alloc]; omega) _)⟩
    case round =>
      obtain ⟨j, rfl, hso⟩ := hrel
      have hj := hso.1
      have hsize := hso.size
      have HSO := Lib.hid hso
      clear hso
      by_cases hlt : j < ks.length
      · obtain ⟨kid, hkid⟩ : ∃ kid, ks[j]? = some kid := ⟨ks[j], List.getElem?_eq_getElem hlt⟩
        have hkin := HIN.out.kid hkid
        have hsz := ANode.sizeOf_kid (n := .mk ⟨#[115, 101, 108, 101, 99, 116, 111, 114]⟩ tx A cap ks) hkid
        have hhg := hgt_kid (n := .mk ⟨#[115, 101, 108, 101, 99, 116, 111, 114]⟩ tx A cap ks) hkid
        obtain ⟨⟨b, off, hA, hbL, c0, c1, c2⟩, hkidin⟩ := hkin
        dsimp only [ANode.addr] at hA
        subst hA
        have HKID := Lib.hid hkid
        clear hkid
        have hb := HSO.out.below
        have c0' := (hb.cell (p := ⟨b, off + j * 3, none⟩) (by show b < _; omega)).trans c0
        have c1' := (hb.cell (p := ⟨b, off + j * 3 + 1, none⟩) (by show b < _; omega)).trans c1
        have c2' := (hb.cell (p := ⟨b, off + j * 3 + 2, none⟩) (by show b < _; omega)).trans c2
        clear c0 c1 c2
        have HB := Lib.hid hb
        clear hb
        go_wp2_with fail
        refine (IH.out kid _ L (d - 1) (by omega) (hkidin.below (B := w.heap.size) (HB.out.trans (Below.alloc (Below.refl _ _) (by omega) _)) hL) (by simp only [World.size_alloc]; omega) (by omega) (by omega)).mono ?_
        rintro e w' ⟨bb, rfl, hbb, hbel⟩
        have hb2 : Below (w.heap.size + 1) _ w' := (Below.alloc (Below.refl _ _) (by omega) _).trans (hbel.mono (by simp only [World.size_alloc]; omega))
        have HB2 := Lib.hid hb2
        clear hb2 hbel
        cases bb
        · go_wp2_with fail
          go_ret
          exact Tells.no (HSO.out.left HB2.out)
        · have HV := Lib.hid (hbb rfl)
          clear hbb
          go_wp2_with fail
          go_roundw
          case rel => exact ⟨j + 1, by go_num, HSO.out.step hlt HKID.out HV.out HB2.out⟩
          case measure => simp [intOf]; omega
      · obtain rfl : j = ks.length := by omega
        obtain ⟨b0, b1, b2⟩ := HSO.out.box
        go_wp2_with fail
        all_goals
          go_ret
          refine Tells.of (fun h => V_mk ?_ HSO.out.all) HSO.out.below
          exact Vk.sel (by simp at h; try omega)
  · unfold sParen at HIN HS hs hd ⊢
    go_enter Tryz.func30, Tryz.ntmps30
    by_cases htx : tx.toList = []
    · have htx2 : tx = sEmpty := empty_of htx
      subst htx2
      clear htx
      unfold sEmpty at HIN HS hs hd ⊢
      go_wp2_with fail
      go_loopw [60] (fun i wr => ∃ j : Nat, i = .int .i64 j ∧ KidsSo ⟨#[112, 97, 114, 101, 110]⟩ ⟨#[]⟩ A cap ks w wr j) (fun i _ => ks.length - (intOf i).toNat)
      case atStart => exact ⟨0, rfl, KidsSo.start (by first | exact Below.refl _ _ | exact (Below.refl _ _).alloc (by simp only [World.size_alloc]; omega) _)⟩
      case round =>
        obtain ⟨j, rfl, hso⟩ := hrel
        have hj := hso.1
        have hsize := hso.size
        have HSO := Lib.hid hso
        clear hso
        by_cases hlt : j < ks.length
        · obtain ⟨kid, hkid⟩ : ∃ kid, ks[j]? = some kid := ⟨ks[j], List.getElem?_eq_getElem hlt⟩
          have hkin := HIN.out.kid hkid
          have hsz := ANode.sizeOf_kid (n := .mk ⟨#[112, 97, 114, 101, 110]⟩ ⟨#[]⟩ A cap ks) hkid
          have hhg := hgt_kid (n := .mk ⟨#[112, 97, 114, 101, 110]⟩ ⟨#[]⟩ A cap ks) hkid
          obtain ⟨⟨b, off, hA, hbL, c0, c1, c2⟩, hkidin⟩ := hkin
          dsimp only [ANode.addr] at hA
          subst hA
          have HKID := Lib.hid hkid
          clear hkid
          have hb := HSO.out.below
          have c0' := (hb.cell (p := ⟨b, off + j * 3, none⟩) (by show b < _; omega)).trans c0
          have c1' := (hb.cell (p := ⟨b, off + j * 3 + 1, none⟩) (by show b < _; omega)).trans c1
          have c2' := (hb.cell (p := ⟨b, off + j * 3 + 2, none⟩) (by show b < _; omega)).trans c2
          clear c0 c1 c2
          have HB := Lib.hid hb
          clear hb
          go_wp2_with fail
          refine (IH.out kid _ L (d - 1) (by omega) (hkidin.below (B := w.heap.size) (HB.out.trans (Below.alloc (Below.refl _ _) (by omega) _)) hL) (by simp only [World.size_alloc]; omega) (by omega) (by omega)).mono ?_
          rintro e w' ⟨bb, rfl, hbb, hbel⟩
          have hb2 : Below (w.heap.size + 1) _ w' := (Below.alloc (Below.refl _ _) (by omega) _).trans (hbel.mono (by simp only [World.size_alloc]; omega))
          have HB2 := Lib.hid hb2
          clear hb2 hbel
          cases bb
          · go_wp2_with fail
            go_ret
            exact Tells.no (HSO.out.left HB2.out)
          · have HV := Lib.hid (hbb rfl)
            clear hbb
            go_wp2_with fail
            go_roundw
            case rel => exact ⟨j + 1, by go_num, HSO.out.step hlt HKID.out HV.out HB2.out⟩
            case measure => simp [intOf]; omega
        · obtain rfl : j = ks.length := by omega
          obtain ⟨b0, b1, b2⟩ := HSO.out.box
          go_wp2_with fail
          all_goals
            go_ret
            refine Tells.of (fun h => V_mk ?_ HSO.out.all) HSO.out.below
            exact Vk.paren (by simp at h; try omega)
    · have htx2 : tx.toList.isEmpty = false := by
        rw [Bool.eq_false_iff]; exact fun h => htx (List.isEmpty_iff.1 h)
      go_wp2_with fail
      go_ret
      exact Tells.no (by go_grown)
  · unfold sUn at HIN HS hs hd ⊢
    go_enter Tryz.func30, Tryz.ntmps30
    go_wp2_with fail
    refine (isIn_any tx _ 6 unOps _ (by decide) (fun i x hx => strs_cell _ unOps _ _ (by simp only [World.size_alloc]) i x hx)).mono ?_
    rintro e w' ⟨he, rfl⟩
    by_cases hany : (unOps.any fun x => x.toList == tx.toList) = true
    · rw [hany] at he
      subst he
      have HANY := Lib.hid (mem_of_any hany)
      clear hany
      go_wp2_with fail
      go_loopw [60] (fun i wr => ∃ j : Nat, i = .int .i64 j ∧ KidsSo ⟨#[117, 110, 97, 114, 121]⟩ tx A cap ks w wr j) (fun i _ => ks.length - (intOf i).toNat)
      case atStart => exact ⟨0, rfl, KidsSo.start (by first | exact Below.refl _ _ | exact (Below.refl _ _).alloc (by simp only [World.size_alloc]; omega) _)⟩
      case round =>
        obtain ⟨j, rfl, hso⟩ := hrel
        have hj := hso.1
        have hsize := hso.size
        have HSO := Lib.hid hso
        clear hso
        by_cases hlt : j < ks.length
        · obtain ⟨kid, hkid⟩ : ∃ kid, ks[j]? = some kid := ⟨ks[j], List.getElem?_eq_getElem hlt⟩
          have hkin := HIN.out.kid hkid
          have hsz := ANode.sizeOf_kid (n := .mk ⟨#[117, 110, 97, 114, 121]⟩ tx A cap ks) hkid
          have hhg := hgt_kid (n := .mk ⟨#[117, 110, 97, 114, 121]⟩ tx A cap ks) hkid
          obtain ⟨⟨b, off, hA, hbL, c0, c1, c2⟩, hkidin⟩ := hkin
          dsimp only [ANode.addr] at hA
          subst hA
          have HKID := Lib.hid hkid
          clear hkid
          have hb := HSO.out.below
          have c0' := (hb.cell (p := ⟨b, off + j * 3, none⟩) (by show b < _; omega)).trans c0
          have c1' := (hb.cell (p := ⟨b, off + j * 3 + 1, none⟩) (by show b < _; omega)).trans c1
          have c2' := (hb.cell (p := ⟨b, off + j * 3 + 2, none⟩) (by show b < _; omega)).trans c2
          clear c0 c1 c2
          have HB := Lib.hid hb
          clear hb
          go_wp2_with fail
          refine (IH.out kid _ L (d - 1) (by omega) (hkidin.below (B := w.heap.size) (HB.out.trans (Below.alloc (Below.refl _ _) (by omega) _)) hL) (by simp only [World.size_alloc]; omega) (by omega) (by omega)).mono ?_
          rintro e w' ⟨bb, rfl, hbb, hbel⟩
          have hb2 : Below (w.heap.size + 1) _ w' := (Below.alloc (Below.refl _ _) (by omega) _).trans (hbel.mono (by simp only [World.size_alloc]; omega))
          have HB2 := Lib.hid hb2
          clear hb2 hbel
          cases bb
          · go_wp2_with fail
            go_ret
            exact Tells.no (HSO.out.left HB2.out)
          · have HV := Lib.hid (hbb rfl)
            clear hbb
            go_wp2_with fail
            go_roundw
            case rel => exact ⟨j + 1, by go_num, HSO.out.step hlt HKID.out HV.out HB2.out⟩
            case measure => simp [intOf]; omega
        · obtain rfl : j = ks.length := by omega
          obtain ⟨b0, b1, b2⟩ := HSO.out.box
          go_wp2_with fail
          all_goals
            go_ret
            refine Tells.of (fun h => V_mk ?_ HSO.out.all) HSO.out.below
            exact Vk.un HANY.out (by simp at h; try omega)
    · rw [Bool.eq_false_iff.2 hany] at he
      subst he
      clear hany
      go_wp2_with fail
      go_ret
      exact Tells.no (by go_grown)
  · unfold sBin at HIN HS hs hd ⊢
    go_enter Tryz.func30, Tryz.ntmps30
    go_wp2_with fail
    refine (isIn_any tx _ 10 binOps _ (by decide) (fun i x hx => strs_cell _ binOps _ _ (by simp only [World.size_alloc]) i x hx)).mono ?_
    rintro e w' ⟨he, rfl⟩
    by_cases hany : (binOps.any fun x => x.toList == tx.toList) = true
    · rw [hany] at he
      subst he
      have HANY := Lib.hid (mem_of_any hany)
      clear hany
      go_wp2_with fail
      go_loopw [60] (fun i wr => ∃ j : Nat, i = .int .i64 j ∧ KidsSo ⟨#[98, 105, 110, 97, 114, 121]⟩ tx A cap ks w wr j) (fun i _ => ks.length - (intOf i).toNat)
      case atStart => exact ⟨0, rfl, KidsSo.start (by first | exact Below.refl _ _ | exact (Below.refl _ _).alloc (by simp only [World.size_alloc]; omega) _)⟩
      case round =>
        obtain ⟨j, rfl, hso⟩ := hrel
        have hj := hso.1
        have hsize := hso.size
        have HSO := Lib.hid hso
        clear hso
        by_cases hlt : j < ks.length
        · obtain ⟨kid, hkid⟩ : ∃ kid, ks[j]? = some kid := ⟨ks[j], List.getElem?_eq_getElem hlt⟩
          have hkin := HIN.out.kid hkid
          have hsz := ANode.sizeOf_kid (n := .mk ⟨#[98, 105, 110, 97, 114, 121]⟩ tx A cap ks) hkid
          have hhg := hgt_kid (n := .mk ⟨#[98, 105, 110, 97, 114, 121]⟩ tx A cap ks) hkid
          obtain ⟨⟨b, off, hA, hbL, c0, c1, c2⟩, hkidin⟩ := hkin
          dsimp only [ANode.addr] at hA
          subst hA
          have HKID := Lib.hid hkid
          clear hkid
          have hb := HSO.out.below
          have c0' := (hb.cell (p := ⟨b, off + j * 3, none⟩) (by show b < _; omega)).trans c0
          have c1' := (hb.cell (p := ⟨b, off + j * 3 + 1, none⟩) (by show b < _; omega)).trans c1
          have c2' := (hb.cell (p := ⟨b, off + j * 3 + 2, none⟩) (by show b < _; omega)).trans c2
          clear c0 c1 c2
          have HB := Lib.hid hb
          clear hb
          go_wp2_with fail
          refine (IH.out kid _ L (d - 1) (by omega) (hkidin.below (B := w.heap.size) (HB.out.trans (Below.alloc (Below.refl _ _) (by omega) _)) hL) (by simp only [World.size_alloc]; omega) (by omega) (by omega)).mono ?_
          rintro e w' ⟨bb, rfl, hbb, hbel⟩
          have hb2 : Below (w.heap.size + 1) _ w' := (Below.alloc (Below.refl _ _) (by omega) _).trans (hbel.mono (by simp only [World.size_alloc]; omega))
          have HB2 := Lib.hid hb2
          clear hb2 hbel
          cases bb
          · go_wp2_with fail
            go_ret
            exact Tells.no (HSO.out.left HB2.out)
          · have HV := Lib.hid (hbb rfl)
            clear hbb
            go_wp2_with fail
            go_roundw
            case rel => exact ⟨j + 1, by go_num, HSO.out.step hlt HKID.out HV.out HB2.out⟩
            case measure => simp [intOf]; omega
        · obtain rfl : j = ks.length := by omega
          obtain ⟨b0, b1, b2⟩ := HSO.out.box
          go_wp2_with fail
          all_goals
            go_ret
            refine Tells.of (fun h => V_mk ?_ HSO.out.all) HSO.out.below
            exact Vk.bin HANY.out (by simp at h; try omega)
    · rw [Bool.eq_false_iff.2 hany] at he
      subst he
      clear hany
      go_wp2_with fail
      go_ret
      exact Tells.no (by go_grown)
  · unfold sIndex at HIN HS hs hd ⊢
    go_enter Tryz.func30, Tryz.ntmps30
    by_cases htx : tx.toList = []
    · have htx2 : tx = sEmpty := empty_of htx
      subst htx2
      clear htx
      unfold sEmpty at HIN HS hs hd ⊢
      go_wp2_with fail
      go_loopw [60] (fun i wr => ∃ j : Nat, i = .int .i64 j ∧ KidsSo ⟨#[105, 110, 100, 101, 120]⟩ ⟨#[]⟩ A cap ks w wr j) (fun i _ => ks.length - (intOf i).toNat)
      case atStart => exact ⟨0, rfl, KidsSo.start (by first | exact Below.refl _ _ | exact (Below.refl _ _).alloc (by simp only [World.size_alloc]; omega) _)⟩
      case round =>
        obtain ⟨j, rfl, hso⟩ := hrel
        have hj := hso.1
        have hsize := hso.size
        have HSO := Lib.hid hso
        clear hso
        by_cases hlt : j < ks.length
        · obtain ⟨kid, hkid⟩ : ∃ kid, ks[j]? = some kid := ⟨ks[j], List.getElem?_eq_getElem hlt⟩
          have hkin := HIN.out.kid hkid
          have hsz := ANode.sizeOf_kid (n := .mk ⟨#[105, 110, 100, 101, 120]⟩ ⟨#[]⟩ A cap ks) hkid
          have hhg := hgt_kid (n := .mk ⟨#[105, 110, 100, 101, 120]⟩ ⟨#[]⟩ A cap ks) hkid
          obtain ⟨⟨b, off, hA, hbL, c0, c1, c2⟩, hkidin⟩ := hkin
          dsimp only [ANode.addr] at hA
          subst hA
          have HKID := Lib.hid hkid
          clear hkid
          have hb := HSO.out.below
          have c0' := (hb.cell (p := ⟨b, off + j * 3, none⟩) (by show b < _; omega)).trans c0
          have c1' := (hb.cell (p := ⟨b, off + j * 3 + 1, none⟩) (by show b < _; omega)).trans c1
          have c2' := (hb.cell (p := ⟨b, off + j * 3 + 2, none⟩) (by show b < _; omega)).trans c2
          clear c0 c1 c2
          have HB := Lib.hid hb
          clear hb
          go_wp2_with fail
          refine (IH.out kid _ L (d - 1) (by omega) (hkidin.below (B := w.heap.size) (HB.out.trans (Below.alloc (Below.refl _ _) (by omega) _)) hL) (by simp only [World.size_alloc]; omega) (by omega) (by omega)).mono ?_
          rintro e w' ⟨bb, rfl, hbb, hbel⟩
          have hb2 : Below (w.heap.size + 1) _ w' := (Below.alloc (Below.refl _ _) (by omega) _).trans (hbel.mono (by simp only [World.size_alloc]; omega))
          have HB2 := Lib.hid hb2
          clear hb2 hbel
          cases bb
          · go_wp2_with fail
            go_ret
            exact Tells.no (HSO.out.left HB2.out)
          · have HV := Lib.hid (hbb rfl)
            clear hbb
            go_wp2_with fail
            go_roundw
            case rel => exact ⟨j + 1, by go_num, HSO.out.step hlt HKID.out HV.out HB2.out⟩
            case measure => simp [intOf]; omega
        · obtain rfl : j = ks.length := by omega
          obtain ⟨b0, b1, b2⟩ := HSO.out.box
          go_wp2_with fail
          all_goals
            go_ret
            refine Tells.of (fun h => V_mk ?_ HSO.out.all) HSO.out.below
            exact Vk.index (by simp at h; try omega)
    · have htx2 : tx.toList.isEmpty = false := by
        rw [Bool.eq_false_iff]; exact fun h => htx (List.isEmpty_iff.1 h)
      go_wp2_with fail
      go_ret
      exact Tells.no (by go_grown)
  · unfold sCall at HIN HS hs hd ⊢
    go_enter Tryz.func30, Tryz.ntmps30
    by_cases htx : tx.toList = []
    · have htx2 : tx = sEmpty := empty_of htx
      subst htx2
      clear htx
      unfold sEmpty at HIN HS hs hd ⊢
      go_wp2_with fail
      go_loopw [60] (fun i wr => ∃ j : Nat, i = .int .i64 j ∧ KidsSo ⟨#[99, 97, 108, 108]⟩ ⟨#[]⟩ A cap ks w wr j) (fun i _ => ks.length - (intOf i).toNat)
      case atStart => exact ⟨0, rfl, KidsSo.start (by first | exact Below.refl _ _ | exact (Below.refl _ _).alloc (by simp only [World.size_alloc]; omega) _)⟩
      case round =>
        obtain ⟨j, rfl, hso⟩ := hrel
        have hj := hso.1
        have hsize := hso.size
        have HSO := Lib.hid hso
        clear hso
        by_cases hlt : j < ks.length
        · obtain ⟨kid, hkid⟩ : ∃ kid, ks[j]? = some kid := ⟨ks[j], List.getElem?_eq_getElem hlt⟩
          have hkin := HIN.out.kid hkid
          have hsz := ANode.sizeOf_kid (n := .mk ⟨#[99, 97, 108, 108]⟩ ⟨#[]⟩ A cap ks) hkid
          have hhg := hgt_kid (n := .mk ⟨#[99, 97, 108, 108]⟩ ⟨#[]⟩ A cap ks) hkid
          obtain ⟨⟨b, off, hA, hbL, c0, c1, c2⟩, hkidin⟩ := hkin
          dsimp only [ANode.addr] at hA
          subst hA
          have HKID := Lib.hid hkid
          clear hkid
          have hb := HSO.out.below
          have c0' := (hb.cell (p := ⟨b, off + j * 3, none⟩) (by show b < _; omega)).trans c0
          have c1' := (hb.cell (p := ⟨b, off + j * 3 + 1, none⟩) (by show b < _; omega)).trans c1
          have c2' := (hb.cell (p := ⟨b, off + j * 3 + 2, none⟩) (by show b < _; omega)).trans c2
          clear c0 c1 c2
          have HB := Lib.hid hb
          clear hb
          go_wp2_with fail
          refine (IH.out kid _ L (d - 1) (by omega) (hkidin.below (B := w.heap.size) (HB.out.trans (Below.alloc (Below.refl _ _) (by omega) _)) hL) (by simp only [World.size_alloc]; omega) (by omega) (by omega)).mono ?_
          rintro e w' ⟨bb, rfl, hbb, hbel⟩
          have hb2 : Below (w.heap.size + 1) _ w' := (Below.alloc (Below.refl _ _) (by omega) _).trans (hbel.mono (by simp only [World.size_alloc]; omega))
          have HB2 := Lib.hid hb2
          clear hb2 hbel
          cases bb
          · go_wp2_with fail
            go_ret
            exact Tells.no (HSO.out.left HB2.out)
          · have HV := Lib.hid (hbb rfl)
            clear hbb
            go_wp2_with fail
            go_roundw
            case rel => exact ⟨j + 1, by go_num, HSO.out.step hlt HKID.out HV.out HB2.out⟩
            case measure => simp [intOf]; omega
        · obtain rfl : j = ks.length := by omega
          obtain ⟨b0, b1, b2⟩ := HSO.out.box
          go_wp2_with fail
          all_goals
            go_ret
            refine Tells.of (fun h => V_mk ?_ HSO.out.all) HSO.out.below
            exact Vk.call (by simp at h; try omega) (by simp at h; try omega)
    · have htx2 : tx.toList.isEmpty = false := by
        rw [Bool.eq_false_iff]; exact fun h => htx (List.isEmpty_iff.1 h)
      go_wp2_with fail
      go_ret
      exact Tells.no (by go_grown)
  · go_enter Tryz.func30, Tryz.ntmps30
    go_wp2_with fail
    go_ret
    exact Tells.no (by go_grown)
end Go.Proofs.YtgimbgpebpippaaGreatDoor
