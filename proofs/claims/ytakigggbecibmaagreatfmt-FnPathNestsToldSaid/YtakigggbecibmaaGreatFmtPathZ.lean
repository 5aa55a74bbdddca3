/- The laws FnPathSpan, FnPathPoint, FnPathNests: what they answer. -/
import Derived.Test.YtakigggbecibmaaGreatFmtPathY
namespace Go.Proofs.YtakigggbecibmaaGreatFmt
open Go.RowKit
set_option maxRecDepth 100000
set_option maxHeartbeats 4000000

theorem span_places {ts : List Tm} (h : TmsOk ts) {i j : Nat} (hij : i < j) (hl : j < ts.length) : pathOf ts (ts.length - 1) (tS ts i) (tE ts j) = (sumsFrom j (ts.length - 1) ++ above, decide (i = 0)) := path_span h.1 (n := ts.length - 1) (by omega) hij (by omega)
theorem from_places {ts : List Tm} {j : Nat} (hj : 1 ≤ j) : (sumsFrom j (ts.length - 1) ++ above).map (place ts (ts.length - 1)) = [] ++ sumPl ts (ts.length - 1) j ++ abovePl ts (ts.length - 1) := by
  rw [List.map_append, List.nil_append]
  unfold sumPl abovePl
  rw [show max j 1 = j by omega]
theorem fromPls_len {ts : List Tm} (h : TmsOk ts) {k : Nat} : ([] ++ sumPl ts (ts.length - 1) k ++ abovePl ts (ts.length - 1)).length ≤ 1000 := by
  have := h.2.2
  simp only [List.length_append, sumPl_eq, List.length_map, List.length_range', abovePl_eq, List.length_cons, List.length_nil]
  omega

theorem lawSpan_any (ts : List Tm) (A : Option Addr) (cap : Nat) (i j : Int) (w : World) (hG : Given w A ts) :
    Calls Tryz.prog 6 #[.slice A ts.length cap, .int .i64 i, .int .i64 j] w (Holds1 w) := by
  have HG := Lib.hid hG
  clear hG
  go_enter Tryz.func6, Tryz.ntmps6
  go_wp2_with fail
  refine (fits_is HG.out).mono ?_
  rintro e w1 ⟨b1, rfl, hs, hb1⟩
  have H1 := Lib.hid (And.intro hs hb1)
  clear hs hb1
  cases b1
  · go_wp2_with fail
    go_ret
    exact ⟨rfl, H1.out.2⟩
  · go_wp2_with fail
    refine (isTerm_is HG.out (H1.out.1 (by trivial)) i w1 H1.out.2).mono ?_
    rintro e w2 ⟨b2, rfl, ht, hb2⟩
    have H2 := Lib.hid (And.intro ht (H1.out.2.trans (hb2.mono H1.out.2.size)))
    clear ht hb2
    cases b2
    · go_wp2_with fail
      go_ret
      exact ⟨rfl, H2.out.2⟩
    · obtain ⟨k, rfl⟩ := Int.eq_ofNat_of_zero_le (H2.out.1 (by trivial)).2.1
      have hk : k < ts.length := by have := (H2.out.1 (by trivial)).2.2; omega
      have hT : TmsOk ts := (H2.out.1 (by trivial)).1
      have HT := Lib.hid hT
      clear hT
      go_wp2_with fail
      refine (isTerm_is HG.out (H1.out.1 (by trivial)) j w2 H2.out.2).mono ?_
      rintro e w3 ⟨b3, rfl, ht, hb3⟩
      have H3 := Lib.hid (And.intro ht (H2.out.2.trans (hb3.mono H2.out.2.size)))
      clear ht hb3
      cases b3
      · go_wp2_with fail
        go_ret
        exact ⟨rfl, H3.out.2⟩
      · obtain ⟨m, rfl⟩ := Int.eq_ofNat_of_zero_le (H3.out.1 (by trivial)).2.1
        have hm : m < ts.length := by have := (H3.out.1 (by trivial)).2.2; omega
        by_cases hmk : m ≤ k
        · go_wp2_with fail
          go_ret
          exact ⟨rfl, H3.out.2⟩
        · have hs1 := tS_eq HT.out.1 hk
          have hs2 := tE_lo HT.out.1 hk
          have hs3 := tE_lo HT.out.1 hm
          have hs4 := tE_mono HT.out.1 (i := k) (k := m) (by omega) hm
          have hk20 := HT.out.2.2
          obtain ⟨ps, hps⟩ : ∃ ps, [] ++ sumPl ts (ts.length - 1) m ++ abovePl ts (ts.length - 1) = ps := ⟨_, rfl⟩
          obtain ⟨ex, hex⟩ : ∃ ex, decide (k = 0) = ex := ⟨_, rfl⟩
          have hpl : ps.length ≤ 1000 := by rw [← hps]; exact fromPls_len HT.out
          have hpt := span_places HT.out (i := k) (j := m) (by omega) hm
          have PC := Lib.hid (fun w' (hw : Below w.heap.size w w') => path_is (cap := cap) HG.out HT.out (tS ts k) (tE ts m) (by omega) (by omega) (by omega) ps ex (by rw [hpt, from_places (by omega), hps]) (by rw [hpt, ← hex]) w' hw)
          have hf1 : ∀ w, (Instr.field 29 (.agg #[.string kName, .string (tm ts k).name, .int .i64 (tS ts k), .int .i64 (tE ts k)]) 2).run Tryz.prog w = .ok (.int .i64 (tS ts k)) w := fun _ => by kernel_rfl
          have hf2 : ∀ w, (Instr.field 29 (.agg #[.string kName, .string (tm ts m).name, .int .i64 (tS ts m), .int .i64 (tE ts m)]) 3).run Tryz.prog w = .ok (.int .i64 (tE ts m)) w := fun _ => by kernel_rfl
          have HE := Lib.hid (And.intro hps hpl)
          have ee : ((k : Int) == 0) = ex := by
            rw [← hex]
            by_cases k0 : k = 0 <;> simp [k0]
          clear hs1 hs2 hs3 hs4 hps hpl hpt hex
          cases ex
          all_goals
            go_wp2_with fail
            refine (term_is HG.out HT.out k hk w3 H3.out.2).mono ?_
            rintro e w4 ⟨rfl, hb4⟩
            have HB4 := Lib.hid (H3.out.2.trans (hb4.mono H3.out.2.size))
            clear hb4
            go_wp2_with fail
            refine (term_is HG.out HT.out m hm w4 HB4.out).mono ?_
            rintro e w5 ⟨rfl, hb5⟩
            have HB5 := Lib.hid (HB4.out.trans (hb5.mono HB4.out.size))
            clear hb5
            go_wp2_with fail
            refine (PC.out _ HB5.out).mono ?_
            rintro e w6 ⟨g, c, rfl, hr6, hlo6, hb6⟩
            have H6 := Lib.hid (And.intro (HB5.out.trans (hb6.mono HB5.out.size)) hr6)
            clear hr6 hlo6 hb6
            go_wp2_with fail
            refine (from_is HG.out HT.out m hm (.slice none 0 0) [] ps HE.out.1 (by simp) w6 H6.out.1 (.inl ⟨rfl, rfl⟩)).mono ?_
            rintro e w7 ⟨g7, c7, rfl, hr7, hlo7, hb7⟩
            have H7 := Lib.hid (And.intro (H6.out.1.trans (hb7.mono H6.out.1.size)) (And.intro (H6.out.2.below hb7) hr7))
            clear hr7 hlo7 hb7
            go_wp2_with fail
            refine (same_any ps g c g7 c7 w7 H7.out.2.1 H7.out.2.2 HE.out.2).mono ?_
            rintro e w8 ⟨rfl, hb8⟩
            have H8 := Lib.hid (H7.out.1.trans (hb8.mono H7.out.1.size))
            clear hb8
            go_wp2_with fail
            go_ret
            exact ⟨rfl, H8.out⟩
section
variable {ts : List Tm} {A : Option Addr} {cap : Nat} {w : World}
theorem areTerms_is (hG : Given w A ts) (hs : Small ts) (w1 : World) (hw : Below w.heap.size w w1) : Calls Tryz.prog 10 #[.slice A ts.length cap] w1 (Says (TmsOk ts) w1) :=
  areTerms_any ts A cap w1 w.heap.size hs (hG.terms.below hw (Nat.le_refl _)) hw.size
theorem length_is (hG : Given w A ts) (h : TmsOk ts) (w1 : World) (hw : Below w.heap.size w w1) : Calls Tryz.prog 11 #[.slice A ts.length cap] w1 (Num (tE ts (ts.length - 1)) w1) :=
  length_any ts A cap w1 w.heap.size h (hG.terms.below hw (Nat.le_refl _)) hw.size
end
theorem lawPoint_any (ts : List Tm) (A : Option Addr) (cap : Nat) (x : Int) (w : World) (hG : Given w A ts) :
    Calls Tryz.prog 4 #[.slice A ts.length cap, .int .i64 x] w (Holds1 w) := by
  have HG := Lib.hid hG
  clear hG
  go_enter Tryz.func4, Tryz.ntmps4
  go_wp2_with fail
  refine (fits_is HG.out).mono ?_
  rintro e w1 ⟨b1, rfl, hs, hb1⟩
  have H1 := Lib.hid (And.intro hs hb1)
  clear hs hb1
  cases b1
  · go_wp2_with fail
    go_ret
    exact ⟨rfl, H1.out.2⟩
  · go_wp2_with fail
    refine (areTerms_is HG.out (H1.out.1 (by trivial)) w1 H1.out.2).mono ?_
    rintro e w2 ⟨b2, rfl, ht, hb2⟩
    have H2 := Lib.hid (And.intro ht (H1.out.2.trans (hb2.mono H1.out.2.size)))
    clear ht hb2
    cases b2
    · go_wp2_with fail
      go_ret
      exact ⟨rfl, H2.out.2⟩
    · have hT : TmsOk ts := H2.out.1 (by trivial)
      have HT := Lib.hid hT
      clear hT
      by_cases h1 : x < 1
      · go_wp2_with fail
        go_ret
        exact ⟨rfl, H2.out.2⟩
      · go_wp2_with fail
        refine (length_is HG.out HT.out w2 H2.out.2).mono ?_
        rintro e w3 ⟨rfl, hb3⟩
        have HB3 := Lib.hid (H2.out.2.trans (hb3.mono H2.out.2.size))
        clear hb3
        by_cases h2 : tE ts (ts.length - 1) ≤ x
        · go_wp2_with fail
          go_ret
          exact ⟨rfl, HB3.out⟩
        · have hs2 := tE_lo HT.out.1 (k := ts.length - 1) (by have := HT.out.2; omega)
          have hk20 := HT.out.2.2
          have x1 : 1 ≤ x := by omega
          have x2 : x ≤ 2000 := by omega
          have hpl := path_len (ts := ts) (n := ts.length - 1) (by omega) x (x + 1)
          obtain ⟨ps, hps⟩ : ∃ ps, (pathOf ts (ts.length - 1) x (x + 1)).1.map (place ts (ts.length - 1)) = ps := ⟨_, rfl⟩
          obtain ⟨ex, hex⟩ : ∃ ex, (pathOf ts (ts.length - 1) x (x + 1)).2 = ex := ⟨_, rfl⟩
          have hpp := path_point (ts := ts) (n := ts.length - 1) (a := x) x1 (by omega)
          have l1 : 0 < ps.length := by rw [← hps, List.length_map]; omega
          have l2 : ps.length ≤ 1000 := by rw [← hps, List.length_map]; omega
          have PC1 := Lib.hid (fun w' (hw : Below w.heap.size w w') => path_is (cap := cap) HG.out HT.out x x (by omega) (by omega) (by omega) ps ex (by rw [hpp, hps]) (by rw [hpp, hex]) w' hw)
          have PC2 := Lib.hid (fun w' (hw : Below w.heap.size w w') => path_is (cap := cap) HG.out HT.out x (x + 1) (by omega) (by omega) (by omega) ps ex hps hex w' hw)
          clear hs2 hpl hps hex hpp
          cases ex
          all_goals
            go_wp2_with fail
            refine (PC1.out _ HB3.out).mono ?_
            rintro e w6 ⟨g, c, rfl, hr6, hlo6, hb6⟩
            have H6 := Lib.hid (And.intro (HB3.out.trans (hb6.mono HB3.out.size)) hr6)
            clear hr6 hlo6 hb6
            go_wp2_with fail
            refine (PC2.out _ H6.out.1).mono ?_
            rintro e w7 ⟨g7, c7, rfl, hr7, hlo7, hb7⟩
            have H7 := Lib.hid (And.intro (H6.out.1.trans (hb7.mono H6.out.1.size)) (And.intro (H6.out.2.below hb7) hr7))
            clear hr7 hlo7 hb7
            go_wp2_with fail
            refine (same_any ps g c g7 c7 w7 H7.out.2.1 H7.out.2.2 l2).mono ?_
            rintro e w8 ⟨rfl, hb8⟩
            have H8 := Lib.hid (H7.out.1.trans (hb8.mono H7.out.1.size))
            clear hb8
            go_wp2_with fail
            go_ret
            exact ⟨rfl, H8.out⟩
/-- What FnPathNests asks of a path: each place lies within the next one; the last one is the file. -/
structure Nest (ts : List Tm) (ps : List Pl) (m : Nat) : Prop where
  len : ps.length = m + 1
  step : ∀ i x y, ps[i]? = some x → ps[i + 1]? = some y → y.lo ≤ x.lo ∧ x.hi ≤ y.hi
  last : ps[m]? = some ⟨kOther, noText, 0, tE ts (ts.length - 1)⟩
theorem nest_of {ts : List Tm} (h : TmsOk ts) (a b : Int) : ∃ m, m ≤ 100 ∧ Nest ts ((pathOf ts (ts.length - 1) a b).1.map (place ts (ts.length - 1))) m := by
  have hn : ts.length - 1 < ts.length := by have := h.2.1; omega
  obtain ⟨hst, l, hl⟩ := pathOf_nests h.1 (a := a) (b := b) hn
  have hlen := path_len (ts := ts) (n := ts.length - 1) (by have := h.2.2; omega) a b
  refine ⟨l.length, by rw [hl] at hlen; simp only [List.length_append, List.length_cons, List.length_nil] at hlen; omega, ⟨?_, ?_, ?_⟩⟩
  · rw [List.length_map, hl]; simp
  · intro i x y hx hy
    rw [List.getElem?_map, Option.map_eq_some_iff] at hx hy
    obtain ⟨u, hu, rfl⟩ := hx
    obtain ⟨v, hv, rfl⟩ := hy
    rw [place_lo, place_lo, place_hi, place_hi]
    exact hst i u v hu hv
  · rw [hl, List.map_append, List.getElem?_append_right (by simp)]
    simp [place]
theorem lawNests_any (ts : List Tm) (A : Option Addr) (cap : Nat) (x y : Int) (w : World) (hG : Given w A ts) :
    Calls Tryz.prog 3 #[.slice A ts.length cap, .int .i64 x, .int .i64 y] w (Holds1 w) := by
  have HG := Lib.hid hG
  clear hG
  go_enter Tryz.func3, Tryz.ntmps3
  go_wp2_with fail
  refine (fits_is HG.out).mono ?_
  rintro e w1 ⟨b1, rfl, hs, hb1⟩
  have H1 := Lib.hid (And.intro hs hb1)
  clear hs hb1
  cases b1
  · go_wp2_with fail
    go_ret
    exact ⟨rfl, H1.out.2⟩
  · go_wp2_with fail
    refine (areTerms_is HG.out (H1.out.1 (by trivial)) w1 H1.out.2).mono ?_
    rintro e w2 ⟨b2, rfl, ht, hb2⟩
    have H2 := Lib.hid (And.intro ht (H1.out.2.trans (hb2.mono H1.out.2.size)))
    clear ht hb2
    cases b2
    · go_wp2_with fail
      go_ret
      exact ⟨rfl, H2.out.2⟩
    · have hT : TmsOk ts := H2.out.1 (by trivial)
      have HT := Lib.hid hT
      clear hT
      by_cases h1 : x < 0
      · go_wp2_with fail
        go_ret
        exact ⟨rfl, H2.out.2⟩
      · by_cases h2 : y < x
        · go_wp2_with fail
          go_ret
          exact ⟨rfl, H2.out.2⟩
        · go_wp2_with fail
          refine (length_is HG.out HT.out w2 H2.out.2).mono ?_
          rintro e w3 ⟨rfl, hb3⟩
          have HB3 := Lib.hid (H2.out.2.trans (hb3.mono H2.out.2.size))
          clear hb3
          by_cases h3 : tE ts (ts.length - 1) < y
          · go_wp2_with fail
            go_ret
            exact ⟨rfl, HB3.out⟩
          · have hs2 := tE_lo HT.out.1 (k := ts.length - 1) (by have := HT.out.2; omega)
            have hk20 := HT.out.2.2
            have x1 : 0 ≤ x := by omega
            have x2 : x ≤ 2000 := by omega
            have y1 : 0 ≤ y := by omega
            have y2 : y ≤ 2000 := by omega
            obtain ⟨m, hm, hN⟩ := nest_of HT.out x y
            obtain ⟨ps, hps⟩ : ∃ ps, (pathOf ts (ts.length - 1) x y).1.map (place ts (ts.length - 1)) = ps := ⟨_, rfl⟩
            obtain ⟨ex, hex⟩ : ∃ ex, (pathOf ts (ts.length - 1) x y).2 = ex := ⟨_, rfl⟩
            rw [hps] at hN
            have PC := Lib.hid (fun w' (hw : Below w.heap.size w w') => path_is (cap := cap) HG.out HT.out x y (by omega) (by omega) (by omega) ps ex hps hex w' hw)
            have HN := Lib.hid hN
            have PL := fun w' (hw : Below w.heap.size w w') => length_is (cap := cap) HG.out HT.out w' hw
            obtain ⟨E, hE⟩ : ∃ E, tE ts (ts.length - 1) = E := ⟨_, rfl⟩
            rw [hE] at PL h3
            rw [hE]
            have HL := Lib.hid (And.intro PL hE)
            clear hs2 hps hex hN PL hE
            go_wp2_with fail
            refine (PC.out _ HB3.out).mono ?_
            rintro e w6 ⟨g, c, rfl, hr6, hlo6, hb6⟩
            have hg6 : g < w6.heap.size := Row.lt hr6
            have H6 := Lib.hid (And.intro (HB3.out.trans (hb6.mono HB3.out.size)) hr6)
            rw [HN.out.len]
            clear hr6 hlo6 hb6
            go_wp2_with fail
            go_loopw [9] (fun i wr => ∃ j : Nat, j ≤ m ∧ i = .int .i64 ((j : Int) + 1) ∧ Hid (Below w6.heap.size w6 wr)) (fun i _ => m + 2 - (intOf i).toNat)
            case atStart => exact ⟨0, by omega, rfl, Below.refl _ _⟩
            case round =>
              obtain ⟨j, hj, rfl, HB⟩ := hrel
              by_cases hlt : j < m
              · obtain ⟨p, hp⟩ : ∃ p, ps[j]? = some p := ⟨_, List.getElem?_eq_getElem (by rw [HN.out.len]; omega)⟩
                obtain ⟨q, hq⟩ : ∃ q, ps[j + 1]? = some q := ⟨_, List.getElem?_eq_getElem (by rw [HN.out.len]; omega)⟩
                obtain ⟨n1, n2⟩ := HN.out.step j p q hp hq
                obtain ⟨_, _, a2, a3⟩ := (PRow.below H6.out.2 HB.out).cells hp
                obtain ⟨_, _, b2, b3⟩ := (PRow.below H6.out.2 HB.out).cells hq
                have g1 : decide (p.lo < q.lo) = false := by simpa using n1
                have g2 : decide (q.hi < p.hi) = false := by simpa using n2
                have q1 : (0 : Int) ≤ (j : Int) := by omega
                have q2 : (j : Int) < (m : Int) + 1 := by omega
                have q3 : (0 : Int) ≤ (j : Int) + 1 := by omega
                have q4 : (j : Int) + 1 < (m : Int) + 1 := by omega
                have q5 : ((j : Int) + 1).toNat = j + 1 := by omega
                have q6 : (j : Int) < (m : Int) := by omega
                have hw1 : IntKind.i64.wrap ((j : Int) + 1 - 1) = (j : Int) := (IntWalk.i64_in _ (by omega)).trans (by omega)
                clear hp hq n1 n2
                go_wp2_with fail
                go_quiet (fail)
                go_wp2_with fail
                go_roundw
                case rel => exact ⟨j + 1, by omega, by go_num, below_drewN HB.out _⟩
                case measure => simp [intOf]; omega
              · obtain rfl : j = m := by omega
                obtain ⟨l0, l1, l2, l3⟩ := (PRow.below H6.out.2 HB.out).cells HN.out.last
                rw [HL.out.2] at l3
                have hgw : g < wr.heap.size := by have := HB.out.size; omega
                have HW := Lib.hid (H6.out.1.trans (HB.out.mono H6.out.1.size))
                have SOF : Hid (∀ w', Below wr.heap.size wr w' → w'.cell? ⟨g, j * 4, none⟩ = some (.string kOther) ∧ w'.cell? ⟨g, j * 4 + 1, none⟩ = some (.string noText) ∧ w'.cell? ⟨g, j * 4 + 2, none⟩ = some (.int .i64 0) ∧ w'.cell? ⟨g, j * 4 + 3, none⟩ = some (.int .i64 E)) := fun w' hw => ⟨(hw.cell (p := ⟨g, j * 4, none⟩) hgw).trans l0, (hw.cell (p := ⟨g, j * 4 + 1, none⟩) hgw).trans l1, (hw.cell (p := ⟨g, j * 4 + 2, none⟩) hgw).trans l2, (hw.cell (p := ⟨g, j * 4 + 3, none⟩) hgw).trans l3⟩
                have PLC : Hid (∀ w', Below wr.heap.size wr w' → Calls Tryz.prog 11 #[.slice A ts.length cap] w' (Num E w')) := fun w' hw => HL.out.1 w' (HW.out.trans (hw.mono HW.out.size))
                have q1 : (0 : Int) ≤ (j : Int) := by omega
                have q2 : (j : Int) < (j : Int) + 1 := by omega
                have q3 : (0 : Int) < (j : Int) + 1 := by omega
                have q6 : ¬ (j : Int) < (j : Int) := by omega
                have hw1 : IntKind.i64.wrap ((j : Int) + 1 - 1) = (j : Int) := (IntWalk.i64_in _ (by omega)).trans (by omega)
                have hw2 : IntKind.i64.wrap (j : Int) = (j : Int) := IntWalk.i64_in _ (by omega)
                go_wp2_with fail
                go_region_held3 (fun w' => w'.cell? ⟨g, j * 4, none⟩ = some (.string kOther) ∧ w'.cell? ⟨g, j * 4 + 1, none⟩ = some (.string noText) ∧ w'.cell? ⟨g, j * 4 + 2, none⟩ = some (.int .i64 0) ∧ w'.cell? ⟨g, j * 4 + 3, none⟩ = some (.int .i64 E)) (go_keep)
                  (first
                    | (go_at_call 11; refine (PLC.out _ (by go_grown)).mono ?_; rintro e w7 ⟨rfl, hb7⟩; have hbn : Below wr.heap.size wr w7 := below_then (by go_grown) hb7; have hS := SOF.out _ hbn; clear hb7))
                go_wp2_with fail
                go_ret
                exact ⟨rfl, HW.out.trans (hbn.mono HW.out.size)⟩
end Go.Proofs.YtakigggbecibmaaGreatFmt
