/- applyList: the rounds of its loop, whatever the client's functions do to the list. -/
import Derived.Test.YtgimbgpebpippaaGreatDoorFrLs
import Derived.Deep.LoopGhost
import Derived.Deep.RegionHeld3
import Derived.RegionTactic
namespace Go.Proofs.YtgimbgpebpippaaGreatDoor
open Go.RowKit
set_option maxRecDepth 100000
set_option maxHeartbeats 8000000

theorem list_nilAhead (b c : Nat) (w : World) : (nilAhead 530 listT (.agg #[.pointer (some ⟨b, c, none⟩)]) "loop.example/pub-g01465/pub/astutil.at").run Tryz.prog w = .ok (some false) w := by kernel_rfl
/-- A list at a round: its row, its length, the index, and what is left to do. -/
structure LD where
  g : Nat
  n : Nat
  cp : Nat
  i : Nat
  m : Nat
/-- What holds of the rounds of applyList's loop. -/
structure ListRule (ba b c sb : Nat) (TV : Value) (nk : ByteArray) (ix0 st0 : Int) (J : LD → World → Prop) (PC : World → Prop) : Prop where
  heapy : ∀ d, Heapy (J d)
  alloc : ∀ d w v, J d w → J d (w.alloc (.cells #[v] listT))
  sl : ∀ d w, J d w → w.cell? ⟨b, c, none⟩ = some (.slice (some ⟨d.g, 0, none⟩) d.n d.cp)
  app : ∀ d w, J d w → ∃ a0 a1 a2 a3 a4 a5 st, Blk w ba 123 #[a0, a1, a2, a3, a4, a5, .int .i64 d.i, .int .i64 st]
  sav : ∀ d w, J d w → Blk w sb 121 #[.int .i64 ix0, .int .i64 st0]
  bd : ∀ d w, J d w → d.n ≤ 1000000 ∧ d.i ≤ 1000000
  elt : ∀ d w, J d w → d.i < d.n → ∃ t u, w.cell? ⟨d.g, d.i, none⟩ = some (.iface t u) ∧ ∀ w', Sm (w.setCell ⟨ba, 7, none⟩ (.int .i64 1)) w' →
    Calls Tryz.prog 68 #[.pointer (some ⟨ba, 0, none⟩), TV, .string nk, iterV ba, .iface t u] w'
      (ApOut (fun w2 => ∃ (d' : LD) (a0 a1 a2 a3 a4 a5 : Value) (x y : Int), Blk w2 ba 123 #[a0, a1, a2, a3, a4, a5, .int .i64 x, .int .i64 y] ∧ x + y = d'.i ∧ d'.m < d.m ∧ J d' (w2.setCell ⟨ba, 6, none⟩ (.int .i64 d'.i))) PC)
theorem applyList_rule {ba b c : Nat} {TT : TypeId} {nk : ByteArray} {ix0 st0 : Int} {J : LD → World → Prop} {PC : World → Prop} {w : World} {a0 a1 a2 a3 a4 a5 : Value} {d0 : LD}
    (hlist : ∀ w, Calls Tryz.prog 73 #[.iface TT (.pointer (some ⟨b, 0, none⟩)), .string nk] w fun e w' => e = .returned (listV ⟨b, c, none⟩) ∧ w = w')
    (happ : Blk w ba 123 #[a0, a1, a2, a3, a4, a5, .int .i64 ix0, .int .i64 st0])
    (R : ListRule ba b c w.heap.size (.iface TT (.pointer (some ⟨b, 0, none⟩))) nk ix0 st0 J PC) (h0 : J d0 ((w.setCell ⟨ba, 6, none⟩ (.int .i64 0)).alloc (.cells #[.int .i64 ix0, .int .i64 st0] 121))) :
    Calls Tryz.prog 86 #[.pointer (some ⟨ba, 0, none⟩), .iface TT (.pointer (some ⟨b, 0, none⟩)), .string nk] w
      (ApOut (fun w2 => ∃ d w1, J d w1 ∧ d.n ≤ d.i ∧ w2 = (w1.setCell ⟨ba, 6, none⟩ (.int .i64 ix0)).setCell ⟨ba, 7, none⟩ (.int .i64 st0)) PC) := by
  have H := Lib.hid (And.intro hlist (And.intro R h0))
  have c6 : w.cell? ⟨ba, 6, none⟩ = some (.int .i64 ix0) := Blk.cell happ 6
  have c7 : w.cell? ⟨ba, 6 + 1, none⟩ = some (.int .i64 st0) := Blk.cell happ 7
  have i6 := Blk.frozen happ 6
  have i7 := Blk.frozen happ 7
  have hlt := Blk.lt happ
  clear happ hlist R h0
  have hna : ∀ w, (nilAhead 530 listT (.agg #[.pointer (some ⟨b, c, none⟩)]) "loop.example/pub-g01465/pub/astutil.at").run Tryz.prog w = .ok (some false) w := fun w => list_nilAhead b c w
  go_enter Tryz.func86, Tryz.ntmps86
  go_wp2_with fail
  go_loopg [] d0.m (fun k wr => ∃ d, d.m = k ∧ Hid (J d wr))
  case atStart => exact ⟨d0, rfl, Lib.hid H.out.2.2⟩
  case round =>
    obtain ⟨d, hm, hJ⟩ := hrel
    go_wp2_with fail
    refine (H.out.1 _).mono ?_
    rintro e w1 ⟨rfl, rfl⟩
    have hle := H.out.2.1.bd d _ hJ.out
    have e6 : wr.cell? ⟨ba, 6, none⟩ = some (.int .i64 d.i) := by
      obtain ⟨b0, b1, b2, b3, b4, b5, st, hb⟩ := H.out.2.1.app d _ hJ.out
      exact Blk.cell hb 6
    have zb := lt_of_cell e6
    have F6 : Hid (∀ w', J d w' → w'.cell? ⟨ba, 6, none⟩ = some (.int .i64 d.i)) := fun w' h => by
      obtain ⟨b0, b1, b2, b3, b4, b5, st, hb⟩ := H.out.2.1.app d _ h
      exact Blk.cell hb 6
    have HL : Hid (∀ w', J d w' → Calls Tryz.prog 339 #[.agg #[.pointer (some ⟨b, c, none⟩)]] w' fun e w2 => e = .returned (.int .i64 d.n) ∧ J d w2) := fun w' h =>
      (listLen_any b c _ d.n d.cp w' (H.out.2.1.sl d _ h)).mono (by rintro e w2 ⟨rfl, rfl⟩; exact ⟨rfl, H.out.2.1.alloc d _ _ h⟩)
    by_cases hin : d.i < d.n
    · have q1 : (d.i : Int) < (d.n : Int) := by omega
      have HT : Hid (∀ w', J d w' → Calls Tryz.prog 337 #[.agg #[.pointer (some ⟨b, c, none⟩)], .int .i64 d.i] w' fun e w2 => ∃ t u, e = .returned (.iface t u) ∧
          (∀ w3, Sm (w2.setCell ⟨ba, 7, none⟩ (.int .i64 1)) w3 → Calls Tryz.prog 68 #[.pointer (some ⟨ba, 0, none⟩), .iface TT (.pointer (some ⟨b, 0, none⟩)), .string nk, iterV ba, .iface t u] w3
            (ApOut (fun w2 => ∃ (d' : LD) (a0 a1 a2 a3 a4 a5 : Value) (x y : Int), Blk w2 ba 123 #[a0, a1, a2, a3, a4, a5, .int .i64 x, .int .i64 y] ∧ x + y = d'.i ∧ d'.m < d.m ∧ J d' (w2.setCell ⟨ba, 6, none⟩ (.int .i64 d'.i))) PC)) ∧ J d w2) := fun w' h => by
        obtain ⟨t, u, hc, _⟩ := H.out.2.1.elt d w' h hin
        refine (listAt_any b c d.g d.n d.cp d.i t u w' (H.out.2.1.sl d _ h) hin hc).mono ?_
        rintro e w2 ⟨rfl, rfl⟩
        have h2 := H.out.2.1.alloc d w' (.pointer (some ⟨b, c, none⟩)) h
        obtain ⟨t', u', hc', hq⟩ := H.out.2.1.elt d _ h2 hin
        have hzg := lt_of_cell hc
        rw [World.cell?_alloc_past _ _ _ hzg, hc] at hc'
        injection hc' with hc'
        injection hc' with e1 e2
        subst e1 e2
        exact ⟨t, u, rfl, hq, h2⟩
      go_wp2_with fail
      go_region_held3 (fun w' => w'.cell? ⟨ba, 6, none⟩ = some (.int .i64 d.i)) (go_keep)
        (first
          | (refine (HL.out _ (H.out.2.1.heapy d wr _ (by exact ⟨rfl, rfl, rfl, rfl⟩) hJ.out)).mono ?_; rintro e w5 ⟨rfl, hJ5⟩; have h6 : w5.cell? ⟨ba, 6, none⟩ = some (.int .i64 d.i) := F6.out _ hJ5; have HJ5 := Lib.hid hJ5; clear hJ5))
      all_goals
        clear e6 zb
        have e6 : w5.cell? ⟨ba, 6, none⟩ = some (.int .i64 d.i) := h6
        have zb := lt_of_cell e6
        go_wp2_with fail
        go_region_held3 (fun w' => w'.cell? ⟨ba, 6, none⟩ = some (.int .i64 d.i)) (go_keep)
          (first
            | (refine (HT.out _ (H.out.2.1.heapy d w5 _ (by exact ⟨rfl, rfl, rfl, rfl⟩) HJ5.out)).mono ?_; rintro e w6 ⟨t, u, rfl, hq, hJ6⟩; have h6 : w6.cell? ⟨ba, 6, none⟩ = some (.int .i64 d.i) := F6.out _ hJ6; have HJ6 := Lib.hid hJ6; have HQ6 := Lib.hid hq; clear hJ6 hq))
        clear e6 zb h6
        obtain ⟨b0, b1, b2, b3, b4, b5, st, hb⟩ := H.out.2.1.app d _ HJ6.out
        have e6 : w6.cell? ⟨ba, 6, none⟩ = some (.int .i64 d.i) := hb.cell 6
        have e7 : w6.cell? ⟨ba, 7, none⟩ = some (.int .i64 st) := hb.cell 7
        have j7 := hb.frozen 7
        have zb := hb.lt
        clear hb
        go_wp2_with fail
        refine (HQ6.out _ (by exact ⟨rfl, rfl, rfl, rfl⟩)).mono ?_
        rintro e w7 (⟨rfl, d', b0, b1, b2, b3, b4, b5, x, y, hb, hxy, hlt', hJ7⟩ | ⟨rfl, hp⟩)
        · have HJ7 := Lib.hid (And.intro hlt' hJ7)
          have n6 : w7.cell? ⟨ba, 6, none⟩ = some (.int .i64 x) := hb.cell 6
          have n7 : w7.cell? ⟨ba, 7, none⟩ = some (.int .i64 y) := hb.cell 7
          have m6 := hb.frozen 6
          have zc := hb.lt
          have hle' := H.out.2.1.bd d' _ hJ7
          have hw : IntKind.i64.wrap (x + y) = (d'.i : Int) := by rw [hxy]; exact IntWalk.i64_in _ (by omega)
          clear hb hlt' hJ7 hxy
          go_wp2_with fail
          go_region
          all_goals
            go_wp2_with fail
            go_roundg d'.m
            case measure => have := HJ7.out.1; omega
            case rel => exact ⟨d', rfl, Lib.hid (H.out.2.1.heapy d' (w7.setCell ⟨ba, 6, none⟩ (.int .i64 d'.i)) _ ⟨rfl, rfl, rfl, rfl⟩ HJ7.out.2)⟩
        · have HP := Lib.hid hp
          clear hp
          go_wp2_with fail
          exact ⟨rfl, .inr ⟨rfl, HP.out⟩⟩
    · have q1 : (d.n : Int) ≤ (d.i : Int) := by omega
      go_wp2_with fail
      go_region_held3 (fun w' => w'.cell? ⟨ba, 6, none⟩ = some (.int .i64 d.i)) (go_keep)
        (first
          | (refine (HL.out _ (H.out.2.1.heapy d wr _ (by exact ⟨rfl, rfl, rfl, rfl⟩) hJ.out)).mono ?_; rintro e w5 ⟨rfl, hJ5⟩; have h6 : w5.cell? ⟨ba, 6, none⟩ = some (.int .i64 d.i) := F6.out _ hJ5; have HJ5 := Lib.hid hJ5; clear hJ5))
      all_goals
        clear e6 zb
        have hsv := H.out.2.1.sav d _ HJ5.out
        obtain ⟨b0, b1, b2, b3, b4, b5, st, hb⟩ := H.out.2.1.app d _ HJ5.out
        have s0 : w5.cell? ⟨w.heap.size, 0, none⟩ = some (.int .i64 ix0) := hsv.cell 0
        have s1 : w5.cell? ⟨w.heap.size, 1, none⟩ = some (.int .i64 st0) := hsv.cell 1
        have e6 : w5.cell? ⟨ba, 6, none⟩ = some (.int .i64 d.i) := hb.cell 6
        have e7 : w5.cell? ⟨ba, 7, none⟩ = some (.int .i64 st) := hb.cell 7
        have j6 := hb.frozen 6
        have j7 := hb.frozen 7
        clear hb hsv
        go_wp2_with fail
        refine bodyPost_ret (results_none rfl _ _ _) rfl ?_
        exact .inl ⟨rfl, d, _, H.out.2.1.heapy d w5 _ ⟨rfl, rfl, rfl, rfl⟩ HJ5.out, by omega, rfl⟩
end Go.Proofs.YtgimbgpebpippaaGreatDoor
