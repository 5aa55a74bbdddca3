/- spec.AreTrees; the law's own function: FnEdited. -/
import Derived.Test.YtgimbgpebpippaaGreatDoorEdL
import Derived.Test.YtgimbgpebpippaaGreatDoorApSv
import Derived.Test.YtgimbgpebpippaaGreatDoorWalkI
namespace Go.Proofs.YtgimbgpebpippaaGreatDoor
open Go.RowKit
set_option maxRecDepth 100000
set_option maxHeartbeats 8000000
theorem areTrees_any (A : Option Addr) (ks : List ANode) (cap : Nat) (w : World) (hin : KidsIn w w.heap.size A 0 ks) (hlen : ks.length ≤ 2147483647) :
    Calls Tryz.prog 23 #[.slice A ks.length cap] w (Tells (VL (eraseL ks) ∧ ks.length ≤ 20) w) := by
  have H := Lib.hid hin
  clear hin
  go_enter Tryz.func23, Tryz.ntmps23
  go_wp2_with fail
  go_loopw [7] (fun i wr => ∃ j : Nat, j ≤ ks.length ∧ i = .int .i64 j ∧ Hid (Below w.heap.size w wr ∧ VL ((eraseL ks).take j))) (fun i _ => ks.length - (intOf i).toNat)
  case atStart => exact ⟨0, Nat.zero_le _, rfl, Lib.hid ⟨Below.refl _ _, by rw [List.take_zero]; trivial⟩⟩
  case round =>
    obtain ⟨j, hj, rfl, hr⟩ := hrel
    by_cases hjl : j < ks.length
    · obtain ⟨c, hc⟩ : ∃ c, ks[j]? = some c := ⟨ks[j], List.getElem?_eq_getElem hjl⟩
      obtain ⟨hkat, hcin⟩ := H.out.get hc
      rw [Nat.zero_add] at hkat
      obtain ⟨b, off, rfl, hbL, k0, k1, k2⟩ := hkat
      have hbw := hr.out.1
      have k0' := (hbw.cell (p := ⟨b, off + j * 3, none⟩) (by show b < _; omega)).trans k0
      have k1' := (hbw.cell (p := ⟨b, off + j * 3 + 1, none⟩) (by show b < _; omega)).trans k1
      have k2' := (hbw.cell (p := ⟨b, off + j * 3 + 2, none⟩) (by show b < _; omega)).trans k2
      have zz := hbw.size
      have q1 : (0 : Int) ≤ (j : Int) := by omega
      have q2 : (j : Int) < (ks.length : Int) := by omega
      have HT : Hid (∀ w', Below w.heap.size w w' → Calls Tryz.prog 11 #[.agg #[.string c.kind, .string c.text, .slice c.addr c.kids.length c.cap]] w' (Tells (V c.erase) w')) := fun w' h => isTreeTop_any c w' w.heap.size (hcin.below h (Nat.le_refl _)) h.size
      have HR := Lib.hid (And.intro hr.out (take_erase hc))
      clear k0 k1 k2 hc hcin hr hbw
      go_wp2_with fail
      refine (HT.out _ (by have := HR.out.1.1; go_grown)).mono ?_
      rintro e w1 ⟨b1, rfl, hb, hb1⟩
      have hbw1 : Below w.heap.size w w1 := HR.out.1.1.trans (((Below.refl _ _).alloc (Nat.le_refl _) _).trans (hb1.mono (by rw [World.size_alloc]; omega)) |>.mono zz)
      have HB := Lib.hid hbw1
      clear hb1 hbw1
      cases b1
      · clear hb
        go_wp2_with fail
        go_ret
        exact Tells.no HB.out
      · have HV := Lib.hid (hb rfl)
        clear hb
        go_wp2_with fail
        go_roundw
        case rel => exact ⟨j + 1, by omega, by go_num, Lib.hid ⟨HB.out, by rw [HR.out.2, VL_iff]; intro n hn; rcases List.mem_append.1 hn with h | h; exact (VL_iff _).1 HR.out.1.2 n h; rw [List.mem_singleton] at h; rw [h]; exact HV.out⟩⟩
        case measure => simp [intOf]; omega
    · obtain rfl : j = ks.length := by omega
      go_wp2_with fail
      go_ret
      refine Tells.of (fun h => ⟨?_, ?_⟩) hr.out.1
      · have := hr.out.2
        rwa [← eraseL_length ks, List.take_length] at this
      · have h2 : (ks.length : Int) ≤ 20 := by simpa using h
        omega
theorem lawFnEdited_any (A : Option Addr) (ks : List ANode) (cap : Nat) (Ah : Option Addr) (hs : List Int) (ch : Nat) (w : World) (hin : KidsIn w w.heap.size A 0 ks) (hints : IntsIn w w.heap.size Ah hs) (hG : Glob w) :
    Calls Tryz.prog 8 #[.slice A ks.length cap, .slice Ah hs.length ch] w fun e w' => e = .returned (.bool true) ∧ Below w.heap.size w w' := by
  have H := Lib.hid (And.intro hin (And.intro hints hG))
  clear hin hints hG
  by_cases hl1 : (2147483647 : Int) < (ks.length : Int)
  · go_enter Tryz.func8, Tryz.ntmps8
    go_wp2_with fail
    go_ret
    exact ⟨rfl, Below.refl _ _⟩
  by_cases hl2 : (2147483647 : Int) < (hs.length : Int)
  · go_enter Tryz.func8, Tryz.ntmps8
    go_wp2_with fail
    go_ret
    exact ⟨rfl, Below.refl _ _⟩
  have hk1 : ks.length ≤ 2147483647 := by omega
  have hk2 : hs.length ≤ 2147483647 := by omega
  go_enter Tryz.func8, Tryz.ntmps8
  go_wp2_with fail
  go_loopw [21] (fun i wr => ∃ j : Nat, j ≤ hs.length ∧ i = .int .i64 j ∧ Hid (Below w.heap.size w wr ∧ ∀ u ∈ hs.take j, 0 ≤ u ∧ u ≤ 5)) (fun i _ => hs.length - (intOf i).toNat)
  case atStart => exact ⟨0, Nat.zero_le _, rfl, Lib.hid ⟨Below.refl _ _, fun u hu => by simp at hu⟩⟩
  case round =>
    obtain ⟨j, hj, rfl, hr⟩ := hrel
    by_cases hjl : j < hs.length
    · obtain ⟨u, hu⟩ : ∃ u, hs[j]? = some u := ⟨_, List.getElem?_eq_getElem hjl⟩
      obtain ⟨gb, offh, hA, hgb, hcell⟩ := H.out.2.1 j u hu
      subst hA
      have k3 := (hr.out.1.cell (p := ⟨gb, offh + j, none⟩) hgb).trans hcell
      have zz := hr.out.1.size
      have q1 : (0 : Int) ≤ (j : Int) := by omega
      have q2 : (j : Int) < (hs.length : Int) := by omega
      have zg : gb < wr.heap.size := by omega
      have ht : hs.take (j + 1) = hs.take j ++ [u] := by
        rw [List.take_succ_eq_append_getElem hjl]
        rw [List.getElem?_eq_getElem hjl] at hu
        rw [Option.some.inj hu]
      have HR := Lib.hid (And.intro hr.out ht)
      clear hr hu hgb hcell ht
      by_cases h1 : u < 0
      · go_wp2_with fail
        go_ret
        exact ⟨rfl, HR.out.1.1⟩
      by_cases h2 : (5 : Int) < u
      · go_wp2_with fail
        go_ret
        exact ⟨rfl, HR.out.1.1⟩
      go_wp2_with fail
      go_roundw
      case rel => exact ⟨j + 1, by omega, by go_num, Lib.hid ⟨HR.out.1.1, by rw [HR.out.2]; intro x hx; rcases List.mem_append.1 hx with h | h; exact HR.out.1.2 x h; rw [List.mem_singleton] at h; rw [h]; omega⟩⟩
      case measure => simp [intOf]; omega
    · obtain rfl : j = hs.length := by omega
      have hhs := hr.out.2
      rw [List.take_length] at hhs
      have HR := Lib.hid (And.intro hr.out.1 hhs)
      have HT := Lib.hid (areTrees_any A ks cap wr ((H.out.1.below hr.out.1 (Nat.le_refl _)).more hr.out.1.size) hk1)
      clear hr hhs
      go_wp2_with fail
      refine HT.out.mono ?_
      rintro e w1 ⟨b1, rfl, hb, hb1⟩
      have hbw1 : Below w.heap.size w w1 := HR.out.1.trans (hb1.mono HR.out.1.size)
      have HB := Lib.hid (And.intro hbw1 hb)
      clear hb hb1 hbw1
      cases b1
      · go_wp2_with fail
        go_ret
        exact ⟨rfl, HB.out.1⟩
      · have hv := HB.out.2 rfl
        have hi1 : ∀ w', Below w.heap.size w w' → KidsIn w' w'.heap.size A 0 ks ∧ IntsIn w' w'.heap.size Ah hs := fun w' h => ⟨(H.out.1.below h (Nat.le_refl _)).more h.size, fun j u hj => by
          obtain ⟨gb, off, h1, h2, h3⟩ := H.out.2.1 j u hj
          exact ⟨gb, off, h1, by have := h.size; omega, (h.cell (p := ⟨gb, off + j, none⟩) h2).trans h3⟩⟩
        have HA := Lib.hid (specEdited_any A ks cap Ah hs ch w1 (hi1 w1 HB.out.1).1 hv.2 HR.out.2 (by omega) (hi1 w1 HB.out.1).2)
        have HI : Hid (∀ w', Below w.heap.size w w' → Calls Tryz.prog 25 #[.slice A ks.length cap, .slice Ah hs.length ch] w' (EdAns (edL hs 0 (eraseL ks)) (edV hs 0 0 (eraseL ks)) w')) := fun w' h => implEdited_any A ks cap Ah hs ch w' (hi1 w' h).1 hv.2 (H.out.2.2.below h (Nat.le_refl _)) hv.1 HR.out.2 (by omega) (hi1 w' h).2
        have HV := Lib.hid hv
        clear hv hi1
        go_wp2_with fail
        refine HA.out.mono ?_
        rintro e w2 ⟨A1, c1, n1, v1, rfl, s1, s2, s3, s4⟩
        have hbw2 : Below w.heap.size w w2 := HB.out.1.trans (s4.mono HB.out.1.size)
        have HS := Lib.hid (And.intro s1 (And.intro s2 (And.intro s3 hbw2)))
        clear s1 s2 s3 s4 hbw2
        go_wp2_with fail
        refine (HI.out _ HS.out.2.2.2).mono ?_
        rintro e w3 ⟨A2, c2, n2, v2, rfl, t1, t2, t3, t4⟩
        have hsl := sameList_any _ (same_any (SizeOf.sizeOf n2 + 1)) A2 A1 c2 c1 n2 n1 w3 w3.heap.size (fun n hn => by have := List.sizeOf_lt_of_mem hn; omega) t1 ((HS.out.1.below t4 (Nat.le_refl _)).more t4.size) (Nat.le_refl _) (by rw [t2, HS.out.2.1]) (by
          have h1 := edL_len hs 0 (eraseL ks)
          have h2 := congrArg List.length t2
          rw [eraseL_length] at h1 h2
          omega)
        have hvl : (edV hs 0 0 (eraseL ks)).length ≤ 100000 := by rw [edV_len, eraseL_length]; have := HV.out.2; omega
        have hsv := fun w4 (h : Below w3.heap.size w3 w4) => sameVisits_any _ v2 v1 w4 (t3.kept (.of h)) ((HS.out.2.2.1.kept (.of t4)).kept (.of h)) hvl
        have hbw3 : Below w.heap.size w w3 := HS.out.2.2.2.trans (t4.mono HS.out.2.2.2.size)
        have HF := Lib.hid (And.intro hsl (And.intro hsv hbw3))
        clear t1 t2 t3 t4 hsl hsv hbw3 hvl
        go_wp2_with fail
        refine HF.out.1.mono ?_
        rintro e w4 ⟨rfl, hb4⟩
        have HF4 := Lib.hid (And.intro (HF.out.2.1 w4 hb4) (HF.out.2.2.trans (hb4.mono HF.out.2.2.size)))
        clear hb4
        go_wp2_with fail
        refine HF4.out.1.mono ?_
        rintro e w5 ⟨rfl, hb5⟩
        have HZ := Lib.hid (HF4.out.2.trans (hb5.mono HF4.out.2.size))
        clear hb5
        go_wp2_with fail
        go_ret
        exact ⟨rfl, HZ.out⟩
end Go.Proofs.YtgimbgpebpippaaGreatDoor
