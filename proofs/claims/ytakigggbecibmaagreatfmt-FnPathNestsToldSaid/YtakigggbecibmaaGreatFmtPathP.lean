/- The closure visit of PathEnclosingInterval, at a node of 2 children (printed by gen_pathP.py). -/
import Derived.Test.YtakigggbecibmaaGreatFmtPathO
namespace Go.Proofs.YtakigggbecibmaaGreatFmt
open Go.RowKit
set_option maxRecDepth 100000
set_option maxHeartbeats 8000000
attribute [local go_sem] Tryz.taMissFuncDecl

theorem visit_2 (w0 w : World) (B bp bs be bv : Nat) (a b lo hi l1 h0 : Int) (v nv : Value) (t : TypeId) (pn : Value) (xs : List Value) (hn : nv = .iface t pn) (hfd : t ≠ 63) (hB0 : w0.heap.size = B) (hb : Below B w0 w)
    (hst : PathSt w B bp bs be bv a b v xs) (hlen : xs.length ≤ 1000) (ox : NodeOk w0 t pn lo hi) (u0 : Value) (t0 : TypeId) (p0 : Value) (hu0 : u0 = .iface t0 p0) (o0 : NodeOk w0 t0 p0 lo h0) (u1 : Value) (t1 : TypeId) (p1 : Value) (hu1 : u1 = .iface t1 p1) (o1 : NodeOk w0 t1 p1 l1 hi)
    (kids : ∀ w', Below B w0 w' → Calls Tryz.prog 26 #[nv] w' (Kids w' [u0, u1])) (R : Ending → World → Prop) (hRb : ∀ e w', R e w' → ∃ r, e = .returned (.bool r))
    (hit : (h0 ≤ max a lo ∧ min b hi ≤ l1 ∧ (∀ w', St w0 B bp bs be bv (max a lo) (min b hi) (xs ++ [nv]) w' → R (.returned (.bool false)) w')) ∨
      (max a lo < h0 ∧ min b hi ≤ l1 ∧ (Hit w0 B bp bs be bv (max a lo) (min b hi) (xs ++ [nv]) u0 R)) ∨
      (max a lo < h0 ∧ l1 < min b hi ∧ (∀ w', St w0 B bp bs be bv (max a lo) (min b hi) (xs ++ [nv]) w' → R (.returned (.bool (decide ((max a lo) = lo ∧ (min b hi) = hi)))) w')) ∨
      (h0 ≤ max a lo ∧ l1 < min b hi ∧ (Hit w0 B bp bs be bv (max a lo) (min b hi) (xs ++ [nv]) u1 R))) :
    Calls Tryz.prog 25 #[nv, ptr bp, ptr bs, ptr be, ptr bv] w R := by
  subst hn hu0 hu1
  obtain ⟨fk0, rk0, ⟨mk01, mk02⟩, kk0⟩ := o0.pos
  obtain ⟨fm0, rm0, ⟨mm01, mm02⟩, km0⟩ := o0.end_
  obtain ⟨fk1, rk1, ⟨mk11, mk12⟩, kk1⟩ := o1.pos
  obtain ⟨fm1, rm1, ⟨mm11, mm12⟩, km1⟩ := o1.end_
  obtain ⟨i0, hi0, hz0, hz1, hz2⟩ := info_parts Tryz.infoNode
  have HI := Lib.hid (And.intro hi0 (And.intro hz0 (And.intro hz1 hz2)))
  obtain ⟨fp, rp, ⟨mp1, mp2⟩, kp⟩ := ox.pos
  obtain ⟨fe, re, ⟨me1, me2⟩, ke⟩ := ox.end_
  rw [hB0] at kp ke kk0 km0 kk1 km1
  have KK0 := Lib.hid kk0
  have KM0 := Lib.hid km0
  have KK1 := Lib.hid kk1
  have KM1 := Lib.hid km1
  have KP := Lib.hid kp
  have KE := Lib.hid ke
  have hBw : B ≤ w.heap.size := by have := hb.size; omega
  have c1 : w.cell? ⟨bp, 0, none⟩ = some v := hst.pbox.cell 0
  have H := Lib.hid (And.intro hst (And.intro hb (And.intro kids hit)))
  clear hi0 hz0 hz1 hz2 ox kp ke kk0 km0 kk1 km1 hst hb o0 o1 kids hit
  go_enter Tryz.func25, Tryz.ntmps25
  go_wp2_with (at_builtin; refine wpList_append_lst _ rfl (.tmp 22) (.tmp 24) 45 rfl 52 i0 .nilIface 16 Tryz.underlying45 HI.out.1 HI.out.2.1 HI.out.2.2.1 HI.out.2.2.2 rfl B v xs rfl ?c1 ⟨w.heap.size, 0, none⟩ 1 1 [.iface t pn] rfl rfl (by decide) ?c3 ?c4 ?c5 ?c6 ?_)
  case c1 => exact H.out.1.lst.below (by go_grown)
  case c3 => exact cell_one_new _ _ _
  case c4 => intro u hu; cases List.mem_singleton.1 hu; rfl
  case c5 => unfold maxLen; omega
  case c6 => omega
  intro g' cap' w3 hrow hg hg'
  obtain ⟨d0, d1, hst2, hb2⟩ := H.out.1.app (u := .iface t pn) hBw (w2 := w.alloc (.cells #[.iface t pn] 52)) (by go_grown) hrow hg (by rw [World.size_alloc]; exact hg')
  have HS := Lib.hid (And.intro hst2 (H.out.2.1.trans hb2))
  clear hst2 hb2 hrow hg hg'
  go_wp2_with fail
  refine (KP.out _ HS.out.2).mono ?_
  rintro e w4 ⟨rfl, hb4⟩
  have HS4 := Lib.hid (And.intro (HS.out.1.below hb4) (HS.out.2.trans (hb4.mono (by have := HS.out.2.size; omega))))
  clear hb4
  go_wp2_with fail
  refine (KE.out _ HS4.out.2).mono ?_
  rintro e w5 ⟨rfl, hb5⟩
  have HS5 := Lib.hid (And.intro (HS4.out.1.below hb5) (HS4.out.2.trans (hb5.mono (by have := HS4.out.2.size; omega))))
  clear hb5
  have cs : w5.cell? ⟨bs, 0, none⟩ = some (.int .i64 a) := HS5.out.1.sbox.cell 0
  have fs : w5.frozen? ⟨bs, 0, none⟩ = false := HS5.out.1.sbox.frozen 0
  go_upto_if 32 with fail
  go_cut [] from 22 (fun wx => Hid (PathSt wx B bp bs be bv (max a lo) b (.slice (some ⟨g', 0, none⟩) (xs.length + 1) cap') (xs ++ [.iface t pn]) ∧ Below B w0 wx))
  case first =>
    by_cases hc : a < lo
    · go_wp2_with fail
      go_meet
      rw [Int.max_eq_right (by omega)]
      exact ⟨HS5.out.1.setS lo, HS5.out.2.setCell (by exact HS5.out.1.lo.2.1) _⟩
    · go_wp2_with fail
      go_meet
      rw [Int.max_eq_left (by omega)]
      exact HS5.out
  case rest =>
    obtain ⟨A, hA⟩ : ∃ A, max a lo = A := ⟨_, rfl⟩
    rw [hA] at hcut H
    have ce : wc.cell? ⟨be, 0, none⟩ = some (.int .i64 b) := hcut.out.1.ebox.cell 0
    have fe : wc.frozen? ⟨be, 0, none⟩ = false := hcut.out.1.ebox.frozen 0
    have HC1 := Lib.hid hcut.out
    clear hcut cs fs
    go_upto_if 36 with fail
    go_cut [] from 22 (fun wx => Hid (PathSt wx B bp bs be bv A (min b hi) (.slice (some ⟨g', 0, none⟩) (xs.length + 1) cap') (xs ++ [.iface t pn]) ∧ Below B w0 wx))
    case first =>
      by_cases hc : hi < b
      · go_wp2_with fail
        go_meet
        rw [Int.min_eq_right (by omega)]
        exact ⟨HC1.out.1.setE hi, HC1.out.2.setCell (by exact HC1.out.1.lo.2.2.1) _⟩
      · go_wp2_with fail
        go_meet
        rw [Int.min_eq_left (by omega)]
        exact HC1.out
    case rest =>
      obtain ⟨D, hD⟩ : ∃ D, min b hi = D := ⟨_, rfl⟩
      rw [hD] at hcut H
      have HC2 := Lib.hid hcut.out
      have hA1 : lo ≤ A := by omega
      have hD1 : D ≤ hi := by omega
      clear hcut ce fe hA hD HC1
      go_wp2_with fail
      refine (H.out.2.2.1 _ HC2.out.2).mono ?_
      rintro e w6 ⟨g, cap, rfl, hrow, hgl, hb6⟩
      have u0c := hrow.cell (i := 0) (v := .iface t0 p0) rfl
      have u1c := hrow.cell (i := 1) (v := .iface t1 p1) rfl
      have glt := hrow.lt
      have HCell := Lib.hid (fun (w' : World) (h : Below w6.heap.size w6 w') => (⟨(h.cell (p := ⟨g, 0, none⟩) glt).trans u0c, (h.cell (p := ⟨g, 1, none⟩) glt).trans u1c⟩ : w'.cell? ⟨g, 0, none⟩ = some (.iface t0 p0) ∧ w'.cell? ⟨g, 1, none⟩ = some (.iface t1 p1)))
      have HS6 := Lib.hid (And.intro (HC2.out.1.below hb6) (And.intro (HC2.out.2.trans (hb6.mono (by have := HC2.out.2.size; omega))) (Below.refl w6.heap.size w6)))
      clear hrow hb6 u0c u1c
      have HW := Lib.hid H.out.2.2.2
      clear H
      go_wp2_with fail
      rcases HW.out with ⟨q0, q1, hR⟩ | ⟨q0, q1, hR⟩ | ⟨q0, q1, hR⟩ | ⟨q0, q1, hR⟩
      · have HR := Lib.hid hR
        clear hR HW
        obtain ⟨u0c6, u1c6⟩ := HCell.out _ HS6.out.2.2
        have cs6 : w6.cell? ⟨bs, 0, none⟩ = some (.int .i64 A) := HS6.out.1.sbox.cell 0
        have ce6 : w6.cell? ⟨be, 0, none⟩ = some (.int .i64 D) := HS6.out.1.ebox.cell 0
        refine wp_loop_rounds 1 ?_
        rw [rounds_succ]
        go_wp2_with fail
        refine (KK0.out _ HS6.out.2.1).mono ?_
        rintro e w7 ⟨rfl, hb⟩
        have HS7 := Lib.hid (And.intro (HS6.out.1.below hb) (And.intro (HS6.out.2.1.trans (hb.mono (by have := HS6.out.2.1.size; omega))) (HS6.out.2.2.trans (hb.mono HS6.out.2.2.size))))
        clear hb u0c6 u1c6 cs6 ce6
        obtain ⟨u0c7, u1c7⟩ := HCell.out _ HS7.out.2.2
        have cs7 : w7.cell? ⟨bs, 0, none⟩ = some (.int .i64 A) := HS7.out.1.sbox.cell 0
        have ce7 : w7.cell? ⟨be, 0, none⟩ = some (.int .i64 D) := HS7.out.1.ebox.cell 0
        go_wp2_with fail
        refine (KM0.out _ HS7.out.2.1).mono ?_
        rintro e w8 ⟨rfl, hb⟩
        have HS8 := Lib.hid (And.intro (HS7.out.1.below hb) (And.intro (HS7.out.2.1.trans (hb.mono (by have := HS7.out.2.1.size; omega))) (HS7.out.2.2.trans (hb.mono HS7.out.2.2.size))))
        clear hb u0c7 u1c7 cs7 ce7
        obtain ⟨u0c8, u1c8⟩ := HCell.out _ HS8.out.2.2
        have cs8 : w8.cell? ⟨bs, 0, none⟩ = some (.int .i64 A) := HS8.out.1.sbox.cell 0
        have ce8 : w8.cell? ⟨be, 0, none⟩ = some (.int .i64 D) := HS8.out.1.ebox.cell 0
        go_wp2_with fail
        refine (KK1.out _ HS8.out.2.1).mono ?_
        rintro e w9 ⟨rfl, hb⟩
        have HS9 := Lib.hid (And.intro (HS8.out.1.below hb) (And.intro (HS8.out.2.1.trans (hb.mono (by have := HS8.out.2.1.size; omega))) (HS8.out.2.2.trans (hb.mono HS8.out.2.2.size))))
        clear hb u0c8 u1c8 cs8 ce8
        obtain ⟨u0c9, u1c9⟩ := HCell.out _ HS9.out.2.2
        have cs9 : w9.cell? ⟨bs, 0, none⟩ = some (.int .i64 A) := HS9.out.1.sbox.cell 0
        have ce9 : w9.cell? ⟨be, 0, none⟩ = some (.int .i64 D) := HS9.out.1.ebox.cell 0
        go_wp2_with fail
        exact HR.out _ ⟨_, HS9.out.1, HS9.out.2.1⟩
      · have HR := Lib.hid hR
        clear hR HW
        obtain ⟨u0c6, u1c6⟩ := HCell.out _ HS6.out.2.2
        have cs6 : w6.cell? ⟨bs, 0, none⟩ = some (.int .i64 A) := HS6.out.1.sbox.cell 0
        have ce6 : w6.cell? ⟨be, 0, none⟩ = some (.int .i64 D) := HS6.out.1.ebox.cell 0
        refine wp_loop_rounds 1 ?_
        rw [rounds_succ]
        go_wp2_with fail
        refine (KK0.out _ HS6.out.2.1).mono ?_
        rintro e w7 ⟨rfl, hb⟩
        have HS7 := Lib.hid (And.intro (HS6.out.1.below hb) (And.intro (HS6.out.2.1.trans (hb.mono (by have := HS6.out.2.1.size; omega))) (HS6.out.2.2.trans (hb.mono HS6.out.2.2.size))))
        clear hb u0c6 u1c6 cs6 ce6
        obtain ⟨u0c7, u1c7⟩ := HCell.out _ HS7.out.2.2
        have cs7 : w7.cell? ⟨bs, 0, none⟩ = some (.int .i64 A) := HS7.out.1.sbox.cell 0
        have ce7 : w7.cell? ⟨be, 0, none⟩ = some (.int .i64 D) := HS7.out.1.ebox.cell 0
        go_wp2_with fail
        refine (KM0.out _ HS7.out.2.1).mono ?_
        rintro e w8 ⟨rfl, hb⟩
        have HS8 := Lib.hid (And.intro (HS7.out.1.below hb) (And.intro (HS7.out.2.1.trans (hb.mono (by have := HS7.out.2.1.size; omega))) (HS7.out.2.2.trans (hb.mono HS7.out.2.2.size))))
        clear hb u0c7 u1c7 cs7 ce7
        obtain ⟨u0c8, u1c8⟩ := HCell.out _ HS8.out.2.2
        have cs8 : w8.cell? ⟨bs, 0, none⟩ = some (.int .i64 A) := HS8.out.1.sbox.cell 0
        have ce8 : w8.cell? ⟨be, 0, none⟩ = some (.int .i64 D) := HS8.out.1.ebox.cell 0
        go_wp2_with fail
        refine (KK1.out _ HS8.out.2.1).mono ?_
        rintro e w9 ⟨rfl, hb⟩
        have HS9 := Lib.hid (And.intro (HS8.out.1.below hb) (And.intro (HS8.out.2.1.trans (hb.mono (by have := HS8.out.2.1.size; omega))) (HS8.out.2.2.trans (hb.mono HS8.out.2.2.size))))
        clear hb u0c8 u1c8 cs8 ce8
        obtain ⟨u0c9, u1c9⟩ := HCell.out _ HS9.out.2.2
        have cs9 : w9.cell? ⟨bs, 0, none⟩ = some (.int .i64 A) := HS9.out.1.sbox.cell 0
        have ce9 : w9.cell? ⟨be, 0, none⟩ = some (.int .i64 D) := HS9.out.1.ebox.cell 0
        rcases HR.out with ⟨p, q, hu, hR⟩ | ⟨t', p', hu, hne, hR⟩
        · injection hu with e1 e2
          subst e1 e2
          have HR2 := Lib.hid hR
          clear hR HR
          go_wp2_with fail
          refine (isTok_yes _ _ _).mono ?_
          rintro e wz ⟨rfl, hbz⟩
          have hsz : St w0 B bp bs be bv A D (xs ++ [.iface t pn]) wz := St.next ⟨_, HS9.out.1, HS9.out.2.1⟩ (by have := HS9.out.2.1.size; omega) hbz
          have HSz := Lib.hid hsz
          clear hsz hbz
          go_wp2_with fail
          exact HR2.out _ HSz.out
        · injection hu with e1 e2
          subst e1 e2
          have HR2 := Lib.hid hR
          clear hR HR
          go_wp2_with fail
          refine (isTok_no _ _ _ hne).mono ?_
          rintro e wz ⟨rfl, hbz⟩
          have hvz : wz.cell? ⟨bv, 0, none⟩ = some (visFn bp bs be bv) := (HS9.out.1.below hbz).vbox.cell 0
          have hsz : St w0 B bp bs be bv A D (xs ++ [.iface t pn]) wz := St.next ⟨_, HS9.out.1, HS9.out.2.1⟩ (by have := HS9.out.2.1.size; omega) hbz
          have HSz := Lib.hid hsz
          clear hsz hbz
          go_wp2_with fail
          refine (HR2.out _ HSz.out).mono ?_
          intro e wy hr
          obtain ⟨r, rfl⟩ := hRb _ _ hr
          have HRR := Lib.hid hr
          clear hr
          go_wp2_with fail
          exact HRR.out
      · have HR := Lib.hid hR
        clear hR HW
        obtain ⟨u0c6, u1c6⟩ := HCell.out _ HS6.out.2.2
        have cs6 : w6.cell? ⟨bs, 0, none⟩ = some (.int .i64 A) := HS6.out.1.sbox.cell 0
        have ce6 : w6.cell? ⟨be, 0, none⟩ = some (.int .i64 D) := HS6.out.1.ebox.cell 0
        refine wp_loop_rounds 1 ?_
        rw [rounds_succ]
        go_wp2_with fail
        refine (KK0.out _ HS6.out.2.1).mono ?_
        rintro e w7 ⟨rfl, hb⟩
        have HS7 := Lib.hid (And.intro (HS6.out.1.below hb) (And.intro (HS6.out.2.1.trans (hb.mono (by have := HS6.out.2.1.size; omega))) (HS6.out.2.2.trans (hb.mono HS6.out.2.2.size))))
        clear hb u0c6 u1c6 cs6 ce6
        obtain ⟨u0c7, u1c7⟩ := HCell.out _ HS7.out.2.2
        have cs7 : w7.cell? ⟨bs, 0, none⟩ = some (.int .i64 A) := HS7.out.1.sbox.cell 0
        have ce7 : w7.cell? ⟨be, 0, none⟩ = some (.int .i64 D) := HS7.out.1.ebox.cell 0
        go_wp2_with fail
        refine (KM0.out _ HS7.out.2.1).mono ?_
        rintro e w8 ⟨rfl, hb⟩
        have HS8 := Lib.hid (And.intro (HS7.out.1.below hb) (And.intro (HS7.out.2.1.trans (hb.mono (by have := HS7.out.2.1.size; omega))) (HS7.out.2.2.trans (hb.mono HS7.out.2.2.size))))
        clear hb u0c7 u1c7 cs7 ce7
        obtain ⟨u0c8, u1c8⟩ := HCell.out _ HS8.out.2.2
        have cs8 : w8.cell? ⟨bs, 0, none⟩ = some (.int .i64 A) := HS8.out.1.sbox.cell 0
        have ce8 : w8.cell? ⟨be, 0, none⟩ = some (.int .i64 D) := HS8.out.1.ebox.cell 0
        go_wp2_with fail
        refine (KK1.out _ HS8.out.2.1).mono ?_
        rintro e w9 ⟨rfl, hb⟩
        have HS9 := Lib.hid (And.intro (HS8.out.1.below hb) (And.intro (HS8.out.2.1.trans (hb.mono (by have := HS8.out.2.1.size; omega))) (HS8.out.2.2.trans (hb.mono HS8.out.2.2.size))))
        clear hb u0c8 u1c8 cs8 ce8
        obtain ⟨u0c9, u1c9⟩ := HCell.out _ HS9.out.2.2
        have cs9 : w9.cell? ⟨bs, 0, none⟩ = some (.int .i64 A) := HS9.out.1.sbox.cell 0
        have ce9 : w9.cell? ⟨be, 0, none⟩ = some (.int .i64 D) := HS9.out.1.ebox.cell 0
        by_cases eA : A = lo
        · by_cases eD : D = hi
          · have := HR.out _ ⟨_, HS9.out.1, HS9.out.2.1⟩
            rw [decide_eq_true (show A = lo ∧ D = hi from ⟨eA, eD⟩)] at this
            have HF := Lib.hid this
            clear this
            go_wp2_with fail
            exact HF.out
          · have := HR.out _ ⟨_, HS9.out.1, HS9.out.2.1⟩
            rw [decide_eq_false (show ¬ (A = lo ∧ D = hi) from fun h => eD h.2)] at this
            have HF := Lib.hid this
            clear this
            go_wp2_with fail
            exact HF.out
        · have := HR.out _ ⟨_, HS9.out.1, HS9.out.2.1⟩
          rw [decide_eq_false (show ¬ (A = lo ∧ D = hi) from fun h => eA h.1)] at this
          have HF := Lib.hid this
          clear this
          go_wp2_with fail
          exact HF.out
      · have HR := Lib.hid hR
        clear hR HW
        obtain ⟨u0c6, u1c6⟩ := HCell.out _ HS6.out.2.2
        have cs6 : w6.cell? ⟨bs, 0, none⟩ = some (.int .i64 A) := HS6.out.1.sbox.cell 0
        have ce6 : w6.cell? ⟨be, 0, none⟩ = some (.int .i64 D) := HS6.out.1.ebox.cell 0
        refine wp_loop_rounds 2 ?_
        rw [rounds_succ]
        go_wp2_with fail
        refine (KK0.out _ HS6.out.2.1).mono ?_
        rintro e w7 ⟨rfl, hb⟩
        have HS7 := Lib.hid (And.intro (HS6.out.1.below hb) (And.intro (HS6.out.2.1.trans (hb.mono (by have := HS6.out.2.1.size; omega))) (HS6.out.2.2.trans (hb.mono HS6.out.2.2.size))))
        clear hb u0c6 u1c6 cs6 ce6
        obtain ⟨u0c7, u1c7⟩ := HCell.out _ HS7.out.2.2
        have cs7 : w7.cell? ⟨bs, 0, none⟩ = some (.int .i64 A) := HS7.out.1.sbox.cell 0
        have ce7 : w7.cell? ⟨be, 0, none⟩ = some (.int .i64 D) := HS7.out.1.ebox.cell 0
        go_wp2_with fail
        refine (KM0.out _ HS7.out.2.1).mono ?_
        rintro e w8 ⟨rfl, hb⟩
        have HS8 := Lib.hid (And.intro (HS7.out.1.below hb) (And.intro (HS7.out.2.1.trans (hb.mono (by have := HS7.out.2.1.size; omega))) (HS7.out.2.2.trans (hb.mono HS7.out.2.2.size))))
        clear hb u0c7 u1c7 cs7 ce7
        obtain ⟨u0c8, u1c8⟩ := HCell.out _ HS8.out.2.2
        have cs8 : w8.cell? ⟨bs, 0, none⟩ = some (.int .i64 A) := HS8.out.1.sbox.cell 0
        have ce8 : w8.cell? ⟨be, 0, none⟩ = some (.int .i64 D) := HS8.out.1.ebox.cell 0
        go_wp2_with fail
        refine (KK1.out _ HS8.out.2.1).mono ?_
        rintro e w9 ⟨rfl, hb⟩
        have HS9 := Lib.hid (And.intro (HS8.out.1.below hb) (And.intro (HS8.out.2.1.trans (hb.mono (by have := HS8.out.2.1.size; omega))) (HS8.out.2.2.trans (hb.mono HS8.out.2.2.size))))
        clear hb u0c8 u1c8 cs8 ce8
        obtain ⟨u0c9, u1c9⟩ := HCell.out _ HS9.out.2.2
        have cs9 : w9.cell? ⟨bs, 0, none⟩ = some (.int .i64 A) := HS9.out.1.sbox.cell 0
        have ce9 : w9.cell? ⟨be, 0, none⟩ = some (.int .i64 D) := HS9.out.1.ebox.cell 0
        go_wp2_with fail
        rw [rounds_succ]
        go_wp2_with fail
        refine (KK1.out _ HS9.out.2.1).mono ?_
        rintro e w10 ⟨rfl, hb⟩
        have HS10 := Lib.hid (And.intro (HS9.out.1.below hb) (And.intro (HS9.out.2.1.trans (hb.mono (by have := HS9.out.2.1.size; omega))) (HS9.out.2.2.trans (hb.mono HS9.out.2.2.size))))
        clear hb u0c9 u1c9 cs9 ce9
        obtain ⟨u0c10, u1c10⟩ := HCell.out _ HS10.out.2.2
        have cs10 : w10.cell? ⟨bs, 0, none⟩ = some (.int .i64 A) := HS10.out.1.sbox.cell 0
        have ce10 : w10.cell? ⟨be, 0, none⟩ = some (.int .i64 D) := HS10.out.1.ebox.cell 0
        go_wp2_with fail
        refine (KM1.out _ HS10.out.2.1).mono ?_
        rintro e w11 ⟨rfl, hb⟩
        have HS11 := Lib.hid (And.intro (HS10.out.1.below hb) (And.intro (HS10.out.2.1.trans (hb.mono (by have := HS10.out.2.1.size; omega))) (HS10.out.2.2.trans (hb.mono HS10.out.2.2.size))))
        clear hb u0c10 u1c10 cs10 ce10
        obtain ⟨u0c11, u1c11⟩ := HCell.out _ HS11.out.2.2
        have cs11 : w11.cell? ⟨bs, 0, none⟩ = some (.int .i64 A) := HS11.out.1.sbox.cell 0
        have ce11 : w11.cell? ⟨be, 0, none⟩ = some (.int .i64 D) := HS11.out.1.ebox.cell 0
        go_wp2_with fail
        refine (KM0.out _ HS11.out.2.1).mono ?_
        rintro e w12 ⟨rfl, hb⟩
        have HS12 := Lib.hid (And.intro (HS11.out.1.below hb) (And.intro (HS11.out.2.1.trans (hb.mono (by have := HS11.out.2.1.size; omega))) (HS11.out.2.2.trans (hb.mono HS11.out.2.2.size))))
        clear hb u0c11 u1c11 cs11 ce11
        obtain ⟨u0c12, u1c12⟩ := HCell.out _ HS12.out.2.2
        have cs12 : w12.cell? ⟨bs, 0, none⟩ = some (.int .i64 A) := HS12.out.1.sbox.cell 0
        have ce12 : w12.cell? ⟨be, 0, none⟩ = some (.int .i64 D) := HS12.out.1.ebox.cell 0
        rcases HR.out with ⟨p, q, hu, hR⟩ | ⟨t', p', hu, hne, hR⟩
        · injection hu with e1 e2
          subst e1 e2
          have HR2 := Lib.hid hR
          clear hR HR
          go_wp2_with fail
          refine (isTok_yes _ _ _).mono ?_
          rintro e wz ⟨rfl, hbz⟩
          have hsz : St w0 B bp bs be bv A D (xs ++ [.iface t pn]) wz := St.next ⟨_, HS12.out.1, HS12.out.2.1⟩ (by have := HS12.out.2.1.size; omega) hbz
          have HSz := Lib.hid hsz
          clear hsz hbz
          go_wp2_with fail
          exact HR2.out _ HSz.out
        · injection hu with e1 e2
          subst e1 e2
          have HR2 := Lib.hid hR
          clear hR HR
          go_wp2_with fail
          refine (isTok_no _ _ _ hne).mono ?_
          rintro e wz ⟨rfl, hbz⟩
          have hvz : wz.cell? ⟨bv, 0, none⟩ = some (visFn bp bs be bv) := (HS12.out.1.below hbz).vbox.cell 0
          have hsz : St w0 B bp bs be bv A D (xs ++ [.iface t pn]) wz := St.next ⟨_, HS12.out.1, HS12.out.2.1⟩ (by have := HS12.out.2.1.size; omega) hbz
          have HSz := Lib.hid hsz
          clear hsz hbz
          go_wp2_with fail
          refine (HR2.out _ HSz.out).mono ?_
          intro e wy hr
          obtain ⟨r, rfl⟩ := hRb _ _ hr
          have HRR := Lib.hid hr
          clear hr
          go_wp2_with fail
          exact HRR.out
end Go.Proofs.YtakigggbecibmaaGreatFmt
