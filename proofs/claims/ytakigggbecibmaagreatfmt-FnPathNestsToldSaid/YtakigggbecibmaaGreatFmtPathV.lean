/- What the statements compute: the offsets of the terms, the places of sums and of what stands above them, whether two paths are the same. -/
import Derived.Test.YtakigggbecibmaaGreatFmtPathU
import Derived.Test.YtakigggbecibmaaGreatFmtPathPl
import Derived.Test.YtakigggbecibmaaGreatFmtPathC
import Derived.BigRegion
namespace Go.Proofs.YtakigggbecibmaaGreatFmt
open Go.RowKit
set_option maxRecDepth 100000
set_option maxHeartbeats 4000000

theorem Tryz.infoSpan : (Tryz.prog.info? 54).map (fun i => (i.zero, i.size, i.bytes)) = some (some (.agg #[.int .i64 0, .int .i64 0]), 2, 16) := by kernel_rfl
theorem Tryz.infoInt : (Tryz.prog.info? 2).map (fun i => (i.zero, i.size, i.bytes)) = some (some (.int .i64 0), 1, 8) := by kernel_rfl
theorem Tryz.infoPlace : (Tryz.prog.info? 29).map (fun i => (i.zero, i.size, i.bytes)) = some (some (.agg #[.string ⟨#[]⟩, .string ⟨#[]⟩, .int .i64 0, .int .i64 0]), 4, 48) := by kernel_rfl
theorem cells_two_new (w : World) (a b : Value) (t : TypeId) : ∀ j u, ([a, b] : List Value)[j]? = some u → (w.alloc (.cells #[a, b] t)).cell? ((⟨w.heap.size, 0, none⟩ : Addr).add j) = some u := by
  intro j u h
  have e : (⟨w.heap.size, 0, none⟩ : Addr).add j = ⟨w.heap.size, j, none⟩ := by
    unfold Addr.add; split <;> simp_all
  rw [e, World.cell?_alloc_new]
  simpa using h
theorem cells_four_new (w : World) (a b c d : Value) (t : TypeId) : ∀ j u, ([a, b, c, d] : List Value)[j]? = some u → (w.alloc (.cells #[a, b, c, d] t)).cell? ((⟨w.heap.size, 0, none⟩ : Addr).add j) = some u := by
  intro j u h
  have e : (⟨w.heap.size, 0, none⟩ : Addr).add j = ⟨w.heap.size, j, none⟩ := by
    unfold Addr.add; split <;> simp_all
  rw [e, World.cell?_alloc_new]
  simpa using h
/-- The offsets of the first terms, in two rows of the call's own. -/
structure SpanSt (w0 w : World) (g1 c1 g2 c2 : Nat) (ts : List Tm) (k1 k2 : Nat) : Prop where
  spans : Row w g1 54 2 k1 (spanCells ts k1) c1
  signs : Row w g2 2 1 k2 (signCells ts k2) c2
  ne : g1 ≠ g2
  lo : w0.heap.size ≤ g1 ∧ w0.heap.size ≤ g2
  below : Below w0.heap.size w0 w
theorem SpanSt.next {w0 w w' : World} {g1 c1 g2 c2 k1 k2 : Nat} {ts : List Tm} (h : SpanSt w0 w g1 c1 g2 c2 ts k1 k2) (hb : Below w.heap.size w w') : SpanSt w0 w' g1 c1 g2 c2 ts k1 k2 :=
  ⟨h.spans.below hb h.spans.lt, h.signs.below hb h.signs.lt, h.ne, h.lo, h.below.trans (hb.mono h.below.size)⟩
theorem SpanSt.app1 {w0 w w' : World} {g1 c1 g2 c2 k1 k2 g' c' : Nat} {ts : List Tm} (h : SpanSt w0 w g1 c1 g2 c2 ts k1 k2) (hrow : Row w' g' 54 2 (k1 + 1) (spanCells ts k1 ++ [.int .i64 (tS ts k1), .int .i64 (tE ts k1)]) c')
    (hg : w.grownBy w' (some g1)) (hg' : g' = g1 ∨ g' = w.heap.size) : SpanSt w0 w' g' c' g2 c2 ts (k1 + 1) k2 := by
  have l1 := h.spans.lt
  have l2 := h.signs.lt
  have n := h.ne
  have lo := h.lo
  have hs := h.below.size
  refine ⟨hrow, h.signs.same (hg.block g2 l2 (fun e => n (Option.some.inj e).symm)), by omega, ⟨by omega, lo.2⟩, h.below.grown hg hs (fun k hk => ?_)⟩
  obtain rfl : g1 = k := Option.some.inj hk
  exact lo.1
theorem SpanSt.app2 {w0 w w' : World} {g1 c1 g2 c2 k1 k2 g' c' : Nat} {ts : List Tm} (h : SpanSt w0 w g1 c1 g2 c2 ts k1 k2) (hrow : Row w' g' 2 1 (k2 + 1) (signCells ts k2 ++ [.int .i64 (tG ts k2)]) c')
    (hg : w.grownBy w' (some g2)) (hg' : g' = g2 ∨ g' = w.heap.size) : SpanSt w0 w' g1 c1 g' c' ts k1 (k2 + 1) := by
  have l1 := h.spans.lt
  have l2 := h.signs.lt
  have n := h.ne
  have lo := h.lo
  have hs := h.below.size
  refine ⟨h.spans.same (hg.block g1 l1 (fun e => n (Option.some.inj e))), hrow, by omega, ⟨lo.1, by omega⟩, h.below.grown hg hs (fun k hk => ?_)⟩
  obtain rfl : g2 = k := Option.some.inj hk
  exact lo.2
def Spanned (ts : List Tm) (w0 : World) (e : Ending) (w : World) : Prop := ∃ g1 c1 g2 c2, e = .returned (.tuple #[.slice (some ⟨g1, 0, none⟩) ts.length c1, .slice (some ⟨g2, 0, none⟩) ts.length c2]) ∧ SpanSt w0 w g1 c1 g2 c2 ts ts.length ts.length

theorem spans_any (ts : List Tm) (A : Option Addr) (cap : Nat) (w : World) (L : Nat) (h : TmsOk ts) (hT : TermsIn w L A ts) (hL : L ≤ w.heap.size) :
    Calls Tryz.prog 15 #[.slice A ts.length cap] w (Spanned ts w) := by
  have HT := Lib.hid (And.intro hT h.1)
  have hlen := h.2.2
  obtain ⟨i1, hi1, hz1, hs1, hb1⟩ := info_parts Tryz.infoSpan
  obtain ⟨i2, hi2, hz2, hs2, hb2⟩ := info_parts Tryz.infoInt
  have HI := Lib.hid (And.intro (And.intro hi1 (And.intro hz1 (And.intro hs1 hb1))) (And.intro hi2 (And.intro hz2 (And.intro hs2 hb2))))
  clear hT h hi1 hz1 hs1 hb1 hi2 hz2 hs2 hb2
  go_enter Tryz.func15, Tryz.ntmps15
  go_wp2_with fail
  go_loopw [4, 5, 6, 14] (fun o s a i wr => ∃ (j : Nat) (av : Int) (g1 c1 g2 c2 : Nat), j ≤ ts.length ∧ i = .int .i64 j ∧ a = .int .i64 av ∧ av = atSlot ts j ∧ o = .slice (some ⟨g1, 0, none⟩) j c1 ∧ s = .slice (some ⟨g2, 0, none⟩) j c2 ∧ Hid (SpanSt w wr g1 c1 g2 c2 ts j j)) (fun _ _ _ i _ => ts.length - (intOf i).toNat)
  case atStart =>
    refine ⟨0, 18, w.heap.size, 0, w.heap.size + 1, 0, by omega, rfl, rfl, rfl, rfl, rfl, ?_⟩
    exact ⟨(Row.new w 54 2 #[] 0 (by simp) (by simp)).below ((Below.refl _ _).alloc (Nat.le_refl _) _) (by simp), by
      have := Row.new (w.alloc (.cells #[] 54)) 2 1 #[] 0 (by simp) (by simp)
      rwa [World.size_alloc] at this, by omega, ⟨by omega, by omega⟩, by go_grown⟩
  case round =>
    obtain ⟨j, av, g1, c1, g2, c2, hj, rfl, rfl, ha, rfl, rfl, HS⟩ := hrel
    have hsize := HS.out.below.size
    by_cases hlt : j < ts.length
    · obtain ⟨b, off, hA, hbL, c0, d1, d2⟩ := HT.out.1.at_ j hlt
      have c0' := (HS.out.below.cell (p := ⟨b, off + j * 3, none⟩) (by show b < _; omega)).trans c0
      have d1' := (HS.out.below.cell (p := ⟨b, off + j * 3 + 1, none⟩) (by show b < _; omega)).trans d1
      have d2' := (HS.out.below.cell (p := ⟨b, off + j * 3 + 2, none⟩) (by show b < _; omega)).trans d2
      subst hA
      obtain ⟨nm, hnm⟩ : ∃ x, (tm ts j).name = x := ⟨_, rfl⟩
      obtain ⟨be, hbe⟩ : ∃ x, (tm ts j).before = x := ⟨_, rfl⟩
      obtain ⟨af, haf⟩ : ∃ x, (tm ts j).after = x := ⟨_, rfl⟩
      rw [hnm] at c0'
      rw [hbe] at d1'
      rw [haf] at d2'
      clear c0 d1 d2
      have hok := tm_ok HT.out.2 hlt
      unfold TmOk at hok
      rw [hnm, hbe, haf] at hok
      obtain ⟨o1, o2, o3, o4, o5, o6⟩ := hok
      have q1 : (0 : Int) ≤ (j : Int) := by omega
      have q2 : (j : Int) < (ts.length : Int) := by omega
      obtain ⟨sg, hsg⟩ : ∃ x, tG ts j = x := ⟨_, rfl⟩
      obtain ⟨st, hst⟩ : ∃ x, tS ts j = x := ⟨_, rfl⟩
      have eE : tE ts j = st + nm.size := by
        have := (tS_eq HT.out.2 hlt).1
        rw [hnm] at this
        omega
      by_cases hj0 : j = 0
      · have e0 : ¬ 0 < j := by omega
        have b1 : av = 18 := by rw [ha, hj0]; rfl
        subst b1
        have e1 : sg = -1 := by rw [← hsg, hj0]; rfl
        have e2 : st = 18 := by rw [← hst, hj0]; rfl
        subst e1 e2
        have HB := Lib.hid (And.intro hst (And.intro hsg eE))
        clear ha hst hsg eE hnm hbe haf hj0
        go_wp2_with (at_builtin; refine wpList_append_row _ rfl (.tmp 30) (.tmp 38) 33 rfl 54 i1 _ 2 16 Tryz.underlying33 HI.out.1.1 HI.out.1.2.1 HI.out.1.2.2.1 HI.out.1.2.2.2 rfl (by decide) g1 c1 j (spanCells ts j) rfl ?c1 ⟨wr.heap.size + 1, 0, none⟩ 1 1 [.int .i64 18, .int .i64 (18 + nm.size)] rfl rfl ?c3 ?c4 ?c5 ?c6 ?_)
        case c1 => exact (HS.out.next (by go_grown)).spans
        case c3 =>
          have := cells_two_new (wr.alloc (.cells #[.string nm, .int .i64 be, .int .i64 af] 43)) (.int .i64 18) (.int .i64 (18 + nm.size)) 54
          rwa [World.size_alloc] at this
        case c4 => intro u hu; simp only [List.mem_cons, List.not_mem_nil, or_false] at hu; rcases hu with rfl | rfl <;> rfl
        case c5 => unfold maxLen; omega
        case c6 => omega
        intro g1' c1' w3 hrow hg hg'
        have hs3 : SpanSt w w3 g1' c1' g2 c2 ts (j + 1) j := (HS.out.next (by go_grown)).app1 (by rw [HB.out.1, HB.out.2.2]; exact hrow) hg (by simpa [World.size_alloc] using hg')
        have bx3 := (((Blk.new wr 43 #[.string nm, .int .i64 be, .int .i64 af]).alloc _).same (hg.block wr.heap.size (by rw [World.size_alloc, World.size_alloc]; omega) (fun e => by have := HS.out.spans.lt; have := Option.some.inj e; omega))).alloc
        have HS3 := Lib.hid (And.intro hs3 bx3)
        clear hrow hg hg' hs3 bx3
        go_wp2_with (at_builtin; refine wpList_append_row _ rfl (.tmp 40) (.tmp 42) 34 rfl 2 i2 _ 1 8 Tryz.underlying34 HI.out.2.1 HI.out.2.2.1 HI.out.2.2.2.1 HI.out.2.2.2.2 rfl (by decide) g2 c2 j (signCells ts j) rfl ?c1 ⟨w3.heap.size, 0, none⟩ 1 1 [.int .i64 (-1)] rfl rfl ?c3 ?c4 ?c5 ?c6 ?_)
        case c1 => exact (HS3.out.1.next (by go_grown)).signs
        case c3 => exact cell_one_new _ _ _
        case c4 => intro u hu; cases List.mem_singleton.1 hu; rfl
        case c5 => unfold maxLen; omega
        case c6 => omega
        intro g2' c2' w4 hrow hg hg'
        have hs4 : SpanSt w w4 g1' c1' g2' c2' ts (j + 1) (j + 1) := (HS3.out.1.next (by go_grown)).app2 (by rw [HB.out.2.1]; exact hrow) hg (by simpa [World.size_alloc] using hg')
        have c4 : w4.cell? ⟨wr.heap.size, 0, none⟩ = some (.string nm) := ((HS3.out.2 _).same (hg.block wr.heap.size (by have := (HS3.out.2 (.cells #[] 0)).lt; rw [World.size_alloc] at this ⊢; omega) (fun e => by have := HS.out.signs.lt; have := Option.some.inj e; omega))).cell 0
        have HS4 := Lib.hid hs4
        clear hrow hg hg' hs4
        go_wp2_with fail
        go_roundw
        case rel => exact ⟨j + 1, _, _, _, _, _, by omega, by go_num, rfl, by simp only [atSlot]; rw [HB.out.2.2], rfl, rfl, HS4⟩
        case measure => simp [intOf]; omega
      · obtain ⟨k, hk⟩ : ∃ k, j = k + 1 := ⟨j - 1, by omega⟩
        have e0 : 0 < j := by omega
        have hE := tE_lo HT.out.2 (k := k) (by omega)
        have b1 : av = tE ts k := by rw [ha, hk]; rfl
        have b2 : 0 ≤ av := by omega
        have b3 : av ≤ 2000 := by omega
        have e1 : sg = av + be := by rw [← hsg, hk, b1, ← hbe, hk]; rfl
        have e2 : st = av + be + 1 + af := by rw [← hst, hk, b1, ← hbe, ← haf, hk]; rfl
        subst e1 e2
        have HB := Lib.hid (And.intro hst (And.intro hsg eE))
        clear ha hst hsg eE hnm hbe haf hk b1 hE
        go_wp2_with (at_builtin; refine wpList_append_row _ rfl (.tmp 30) (.tmp 38) 33 rfl 54 i1 _ 2 16 Tryz.underlying33 HI.out.1.1 HI.out.1.2.1 HI.out.1.2.2.1 HI.out.1.2.2.2 rfl (by decide) g1 c1 j (spanCells ts j) rfl ?c1 ⟨wr.heap.size + 1, 0, none⟩ 1 1 [.int .i64 (av + be + 1 + af), .int .i64 ((av + be + 1 + af) + nm.size)] rfl rfl ?c3 ?c4 ?c5 ?c6 ?_)
        case c1 => exact (HS.out.next (by go_grown)).spans
        case c3 =>
          have := cells_two_new (wr.alloc (.cells #[.string nm, .int .i64 be, .int .i64 af] 43)) (.int .i64 (av + be + 1 + af)) (.int .i64 ((av + be + 1 + af) + nm.size)) 54
          rwa [World.size_alloc] at this
        case c4 => intro u hu; simp only [List.mem_cons, List.not_mem_nil, or_false] at hu; rcases hu with rfl | rfl <;> rfl
        case c5 => unfold maxLen; omega
        case c6 => omega
        intro g1' c1' w3 hrow hg hg'
        have hs3 : SpanSt w w3 g1' c1' g2 c2 ts (j + 1) j := (HS.out.next (by go_grown)).app1 (by rw [HB.out.1, HB.out.2.2]; exact hrow) hg (by simpa [World.size_alloc] using hg')
        have bx3 := (((Blk.new wr 43 #[.string nm, .int .i64 be, .int .i64 af]).alloc _).same (hg.block wr.heap.size (by rw [World.size_alloc, World.size_alloc]; omega) (fun e => by have := HS.out.spans.lt; have := Option.some.inj e; omega))).alloc
        have HS3 := Lib.hid (And.intro hs3 bx3)
        clear hrow hg hg' hs3 bx3
        go_wp2_with (at_builtin; refine wpList_append_row _ rfl (.tmp 40) (.tmp 42) 34 rfl 2 i2 _ 1 8 Tryz.underlying34 HI.out.2.1 HI.out.2.2.1 HI.out.2.2.2.1 HI.out.2.2.2.2 rfl (by decide) g2 c2 j (signCells ts j) rfl ?c1 ⟨w3.heap.size, 0, none⟩ 1 1 [.int .i64 (av + be)] rfl rfl ?c3 ?c4 ?c5 ?c6 ?_)
        case c1 => exact (HS3.out.1.next (by go_grown)).signs
        case c3 => exact cell_one_new _ _ _
        case c4 => intro u hu; cases List.mem_singleton.1 hu; rfl
        case c5 => unfold maxLen; omega
        case c6 => omega
        intro g2' c2' w4 hrow hg hg'
        have hs4 : SpanSt w w4 g1' c1' g2' c2' ts (j + 1) (j + 1) := (HS3.out.1.next (by go_grown)).app2 (by rw [HB.out.2.1]; exact hrow) hg (by simpa [World.size_alloc] using hg')
        have c4 : w4.cell? ⟨wr.heap.size, 0, none⟩ = some (.string nm) := ((HS3.out.2 _).same (hg.block wr.heap.size (by have := (HS3.out.2 (.cells #[] 0)).lt; rw [World.size_alloc] at this ⊢; omega) (fun e => by have := HS.out.signs.lt; have := Option.some.inj e; omega))).cell 0
        have HS4 := Lib.hid hs4
        clear hrow hg hg' hs4
        go_wp2_with fail
        go_roundw
        case rel => exact ⟨j + 1, _, _, _, _, _, by omega, by go_num, rfl, by simp only [atSlot]; rw [HB.out.2.2], rfl, rfl, HS4⟩
        case measure => simp [intOf]; omega
    · obtain rfl : j = ts.length := by omega
      go_wp2_with fail
      go_ret2
      exact ⟨_, _, _, _, rfl, HS.out⟩
end Go.Proofs.YtakigggbecibmaaGreatFmt
