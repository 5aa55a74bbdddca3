/- The closure visit of PathEnclosingInterval, at a node of one child. -/
import Derived.Test.YtakigggbecibmaaGreatFmtPathN
import Derived.Deep.CutBlock
import Derived.LoopN
namespace Go.Proofs.YtakigggbecibmaaGreatFmt
open Go.RowKit
set_option maxRecDepth 100000
set_option maxHeartbeats 8000000
attribute [local go_sem] Tryz.taMissFuncDecl

def St (w0 : World) (B bp bs be bv : Nat) (a b : Int) (zs : List Value) (w' : World) : Prop := ∃ v', PathSt w' B bp bs be bv a b v' zs ∧ Below B w0 w'
def Hit (w0 : World) (B bp bs be bv : Nat) (a b : Int) (zs : List Value) (u : Value) (R : Ending → World → Prop) : Prop :=
  (∃ p q, u = tokV p q ∧ ∀ w', St w0 B bp bs be bv a b zs w' → R (.returned (.bool true)) w') ∨
  (∃ t p, u = .iface t p ∧ t ≠ 62 ∧ ∀ w', St w0 B bp bs be bv a b zs w' → Calls Tryz.prog 25 #[u, ptr bp, ptr bs, ptr be, ptr bv] w' R)
theorem St.next {w0 w w' : World} {B bp bs be bv : Nat} {a b : Int} {zs : List Value} (h : St w0 B bp bs be bv a b zs w) (hB : B ≤ w.heap.size) (hb : Below w.heap.size w w') : St w0 B bp bs be bv a b zs w' := by
  obtain ⟨v, h1, h2⟩ := h
  exact ⟨v, h1.below hb, h2.trans (hb.mono hB)⟩
def numCall (w0 : World) (B : Nat) (f : FuncId) (r : Value) (x : Int) : Prop := ∀ w', Below B w0 w' → Calls Tryz.prog f #[r] w' (Num x w')

theorem visit_1 (w0 w : World) (B bp bs be bv : Nat) (a b lo hi : Int) (v nv : Value) (t : TypeId) (pn : Value) (xs : List Value) (hn : nv = .iface t pn) (hfd : t ≠ 63) (hB0 : w0.heap.size = B) (hb : Below B w0 w)
    (hst : PathSt w B bp bs be bv a b v xs) (hlen : xs.length ≤ 1000) (ox : NodeOk w0 t pn lo hi) (u0 : Value) (t0 : TypeId) (p0 : Value) (hu0 : u0 = .iface t0 p0) (o0 : NodeOk w0 t0 p0 lo hi)
    (kids : ∀ w', Below B w0 w' → Calls Tryz.prog 26 #[nv] w' (Kids w' [u0])) (R : Ending → World → Prop) (hRb : ∀ e w', R e w' → ∃ r, e = .returned (.bool r)) (hit : Hit w0 B bp bs be bv (max a lo) (min b hi) (xs ++ [nv]) u0 R) :
    Calls Tryz.prog 25 #[nv, ptr bp, ptr bs, ptr be, ptr bv] w R := by
  subst hn hu0
  obtain ⟨fk, rk, ⟨mk1, mk2⟩, kk⟩ := o0.pos
  obtain ⟨fm, rm, ⟨mm1, mm2⟩, km⟩ := o0.end_
  obtain ⟨i0, hi0, hz0, hz1, hz2⟩ := info_parts Tryz.infoNode
  have HI := Lib.hid (And.intro hi0 (And.intro hz0 (And.intro hz1 hz2)))
  obtain ⟨fp, rp, ⟨mp1, mp2⟩, kp⟩ := ox.pos
  obtain ⟨fe, re, ⟨me1, me2⟩, ke⟩ := ox.end_
  rw [hB0] at kp ke kk km
  have KK := Lib.hid kk
  have KM := Lib.hid km
  have KP := Lib.hid kp
  have KE := Lib.hid ke
  have hBw : B ≤ w.heap.size := by have := hb.size; omega
  have c1 : w.cell? ⟨bp, 0, none⟩ = some v := hst.pbox.cell 0
  have H := Lib.hid (And.intro hst (And.intro hb (And.intro kids hit)))
  clear hi0 hz0 hz1 hz2 ox kp ke kk km hst hb o0 kids hit
  go_enter Tryz.func25, Tryz.ntmps25
  go_wp2_with (at_builtin; refine wpList_append_lst _ rfl (.tmp 22) (.tmp 24) 45 rfl 52 i0 .nilIface 16 Tryz.underlying45 HI.out.1 HI.out.2.1 HI.out.2.2.1 HI.out.2.2.2 rfl B v xs rfl ?c1 ⟨w.heap.size, 0, none⟩ 1 1 [.iface t pn] rfl rfl (by decide) ?c3 ?c4 ?c5 ?c6 ?_)
  case c1 => exact H.out.1.lst.below (by go_grown)
  case c3 => exact cell_one_new _ _ _
  case c4 => intro u hu; cases List.mem_singleton.1 hu; rfl
  case c5 => unfold maxLen; omega
  case c6 => omega
  intro g' cap' w3 hrow hg hg'
  obtain ⟨d0, d1, hst2, hb2⟩ := H.out.1.app (u := .iface t pn) hBw (w2 := w.alloc (.cells #[.iface t pn] 52)) (by go_grown) hrow hg (by rw [World.size_alloc]; exact hg')
  have HS := Lib.hid (And.intro hst2 (H.out.2.1.trans hb2))
  clear hst2 hb2 hrow hg hg'
  go_wp2_with fail
  refine (KP.out _ HS.out.2).mono ?_
  rintro e w4 ⟨rfl, hb4⟩
  have HS4 := Lib.hid (And.intro (HS.out.1.below hb4) (HS.out.2.trans (hb4.mono (by have := HS.out.2.size; omega))))
  clear hb4
  go_wp2_with fail
  refine (KE.out _ HS4.out.2).mono ?_
  rintro e w5 ⟨rfl, hb5⟩
  have HS5 := Lib.hid (And.intro (HS4.out.1.below hb5) (HS4.out.2.trans (hb5.mono (by have := HS4.out.2.size; omega))))
  clear hb5
  have cs : w5.cell? ⟨bs, 0, none⟩ = some (.int .i64 a) := HS5.out.1.sbox.cell 0
  have fs : w5.frozen? ⟨bs, 0, none⟩ = false := HS5.out.1.sbox.frozen 0
  go_upto_if 32 with fail
  go_cut [] from 22 (fun wx => Hid (PathSt wx B bp bs be bv (max a lo) b (.slice (some ⟨g', 0, none⟩) (xs.length + 1) cap') (xs ++ [.iface t pn]) ∧ Below B w0 wx))
  case first =>
    by_cases hc : a < lo
    · go_wp2_with fail
      go_meet
      rw [Int.max_eq_right (by omega)]
      exact ⟨HS5.out.1.setS lo, HS5.out.2.setCell (by exact HS5.out.1.lo.2.1) _⟩
    · go_wp2_with fail
      go_meet
      rw [Int.max_eq_left (by omega)]
      exact HS5.out
  case rest =>
    obtain ⟨A, hA⟩ : ∃ A, max a lo = A := ⟨_, rfl⟩
    rw [hA] at hcut H
    have ce : wc.cell? ⟨be, 0, none⟩ = some (.int .i64 b) := hcut.out.1.ebox.cell 0
    have fe : wc.frozen? ⟨be, 0, none⟩ = false := hcut.out.1.ebox.frozen 0
    have HC1 := Lib.hid hcut.out
    clear hcut cs fs
    go_upto_if 36 with fail
    go_cut [] from 22 (fun wx => Hid (PathSt wx B bp bs be bv A (min b hi) (.slice (some ⟨g', 0, none⟩) (xs.length + 1) cap') (xs ++ [.iface t pn]) ∧ Below B w0 wx))
    case first =>
      by_cases hc : hi < b
      · go_wp2_with fail
        go_meet
        rw [Int.min_eq_right (by omega)]
        exact ⟨HC1.out.1.setE hi, HC1.out.2.setCell (by exact HC1.out.1.lo.2.2.1) _⟩
      · go_wp2_with fail
        go_meet
        rw [Int.min_eq_left (by omega)]
        exact HC1.out
    case rest =>
      obtain ⟨D, hD⟩ : ∃ D, min b hi = D := ⟨_, rfl⟩
      rw [hD] at hcut H
      have HC2 := Lib.hid hcut.out
      have hA1 : lo ≤ A := by omega
      have hD1 : D ≤ hi := by omega
      clear hcut ce fe hA hD HC1
      go_wp2_with fail
      refine (H.out.2.2.1 _ HC2.out.2).mono ?_
      rintro e w6 ⟨g, cap, rfl, hrow, hgl, hb6⟩
      have u0c := hrow.cell (i := 0) (v := .iface t0 p0) rfl
      have HS6 := Lib.hid (And.intro (HC2.out.1.below hb6) (And.intro (HC2.out.2.trans (hb6.mono (by have := HC2.out.2.size; omega))) hrow))
      clear hrow hb6
      go_wp2_with fail
      refine wp_loop_rounds 1 ?_
      rw [rounds_succ]
      go_wp2_with fail
      refine (KK.out _ HS6.out.2.1).mono ?_
      rintro e w7 ⟨rfl, hb7⟩
      have HS7 := Lib.hid (And.intro (HS6.out.1.below hb7) (HS6.out.2.1.trans (hb7.mono (by have := HS6.out.2.1.size; omega))))
      clear hb7
      go_wp2_with fail
      refine (KM.out _ HS7.out.2).mono ?_
      rintro e w8 ⟨rfl, hb8⟩
      have HS8 := Lib.hid (And.intro (HS7.out.1.below hb8) (HS7.out.2.trans (hb8.mono (by have := HS7.out.2.size; omega))))
      clear hb8
      have cs8 : w8.cell? ⟨bs, 0, none⟩ = some (.int .i64 A) := HS8.out.1.sbox.cell 0
      have ce8 : w8.cell? ⟨be, 0, none⟩ = some (.int .i64 D) := HS8.out.1.ebox.cell 0
      rcases H.out.2.2.2 with ⟨p, q, hu, hR⟩ | ⟨t', p', hu, hne, hR⟩
      · injection hu with e1 e2
        subst e1 e2
        have HR := Lib.hid hR
        clear hR
        go_wp2_with fail
        refine (isTok_yes _ _ _).mono ?_
        rintro e w9 ⟨rfl, hb9⟩
        have hs9 : St w0 B bp bs be bv A D (xs ++ [.iface t pn]) w9 := St.next ⟨_, HS8.out⟩ (by have := HS8.out.2.size; omega) hb9
        have HS9 := Lib.hid hs9
        clear hs9 hb9
        go_wp2_with fail
        exact HR.out _ HS9.out
      · injection hu with e1 e2
        subst e1 e2
        have HR := Lib.hid hR
        clear hR
        go_wp2_with fail
        refine (isTok_no _ _ _ hne).mono ?_
        rintro e w9 ⟨rfl, hb9⟩
        have hv9 : w9.cell? ⟨bv, 0, none⟩ = some (visFn bp bs be bv) := (HS8.out.1.below hb9).vbox.cell 0
        have hs9 : St w0 B bp bs be bv A D (xs ++ [.iface t pn]) w9 := St.next ⟨_, HS8.out⟩ (by have := HS8.out.2.size; omega) hb9
        have HS9 := Lib.hid hs9
        clear hs9 hb9
        go_wp2_with fail
        refine (HR.out _ HS9.out).mono ?_
        intro e w10 hr
        obtain ⟨r, rfl⟩ := hRb _ _ hr
        have HRR := Lib.hid hr
        clear hr
        go_wp2_with fail
        exact HRR.out
end Go.Proofs.YtakigggbecibmaaGreatFmt
