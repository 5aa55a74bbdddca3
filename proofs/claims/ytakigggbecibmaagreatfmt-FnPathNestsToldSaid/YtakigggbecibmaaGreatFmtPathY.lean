/- The laws FnPathSign, FnPathTerm, FnPathWithin, FnPathSpan: what they answer. -/
import Derived.Test.YtakigggbecibmaaGreatFmtPathX
namespace Go.Proofs.YtakigggbecibmaaGreatFmt
open Go.RowKit
set_option maxRecDepth 100000
set_option maxHeartbeats 4000000

/-- A path that is known. -/
def PathIs (ps : List Pl) (ex : Bool) (w : World) (e : Ending) (w' : World) : Prop :=
  ∃ g c, e = .returned (.tuple #[.slice (some ⟨g, 0, none⟩) ps.length c, .bool ex]) ∧ PRow w' g ps c ∧ w.heap.size ≤ g ∧ Below w.heap.size w w'
/-- What a law is handed: terms, and the tokens' table. -/
structure Given (w : World) (A : Option Addr) (ts : List Tm) : Prop where
  terms : TermsIn w w.heap.size A ts
  plus : Tok w 12 ⟨#[43]⟩
  var : Tok w 85 ⟨#[118, 97, 114]⟩
section
variable {ts : List Tm} {A : Option Addr} {cap : Nat} {w : World}
theorem path_is (hG : Given w A ts) (h : TmsOk ts) (a b : Int) (hab : a ≤ b) (ha : -1000 ≤ a) (hb : b ≤ 90000) (ps : List Pl) (ex : Bool) (hp : (pathOf ts (ts.length - 1) a b).1.map (place ts (ts.length - 1)) = ps) (hx : (pathOf ts (ts.length - 1) a b).2 = ex)
    (w1 : World) (hw : Below w.heap.size w w1) : Calls Tryz.prog 12 #[.slice A ts.length cap, .int .i64 a, .int .i64 b] w1 (PathIs ps ex w1) := by
  refine (path_any ts A cap a b w1 w.heap.size h (hG.terms.below hw (Nat.le_refl _)) hw.size (hG.plus.below hw) (hG.var.below hw) hab ha hb).mono ?_
  rintro e w' ⟨g, c, rfl, hr, hlo, hb⟩
  rw [hp] at hr
  refine ⟨g, c, ?_, hr, hlo, hb⟩
  rw [← hp, hx, List.length_map]
theorem from_is (hG : Given w A ts) (h : TmsOk ts) (i : Nat) (hi : i < ts.length) (F : Value) (fs ps : List Pl) (hp : fs ++ sumPl ts (ts.length - 1) i ++ abovePl ts (ts.length - 1) = ps) (hfs : fs.length ≤ 100)
    (w1 : World) (hw : Below w.heap.size w w1) (hF : PLst w1 w1.heap.size F fs) : Calls Tryz.prog 16 #[.slice A ts.length cap, F, .int .i64 i] w1 (Pls ps w1) := by
  rw [← hp]
  exact pathFrom_any ts A cap i F fs w1 w.heap.size h hi (hG.terms.below hw (Nat.le_refl _)) hw.size hF hfs
theorem fits_is (hG : Given w A ts) : Calls Tryz.prog 9 #[.slice A ts.length cap] w (Says (Small ts) w) := fits8_any ts A cap w w.heap.size hG.terms (Nat.le_refl _)
theorem isTerm_is (hG : Given w A ts) (hs : Small ts) (i : Int) (w1 : World) (hw : Below w.heap.size w w1) : Calls Tryz.prog 14 #[.slice A ts.length cap, .int .i64 i] w1 (Says (TmsOk ts ∧ 0 ≤ i ∧ i < ts.length) w1) :=
  isTerm_any ts A cap i w1 w.heap.size hs (hG.terms.below hw (Nat.le_refl _)) hw.size
theorem spans_is (hG : Given w A ts) (h : TmsOk ts) (w1 : World) (hw : Below w.heap.size w w1) : Calls Tryz.prog 15 #[.slice A ts.length cap] w1 (Spanned ts w1) :=
  spans_any ts A cap w1 w.heap.size h (hG.terms.below hw (Nat.le_refl _)) hw.size
theorem term_is (hG : Given w A ts) (h : TmsOk ts) (i : Nat) (hi : i < ts.length) (w1 : World) (hw : Below w.heap.size w w1) : Calls Tryz.prog 17 #[.slice A ts.length cap, .int .i64 i] w1 (Plc kName (tm ts i).name (tS ts i) (tE ts i) w1) :=
  term_any ts A cap i w1 w.heap.size h hi (hG.terms.below hw (Nat.le_refl _)) hw.size
end
/-- A law that answers true, and nothing that was there turns. -/
def Holds1 (w : World) (e : Ending) (w' : World) : Prop := e = .returned (.bool true) ∧ Below w.heap.size w w'

theorem sign_places {ts : List Tm} (h : TmsOk ts) {i : Nat} (hi : 1 ≤ i) (hl : i < ts.length) : (pathOf ts (ts.length - 1) (tG ts i) (tG ts i + 1)).1.map (place ts (ts.length - 1)) = [] ++ sumPl ts (ts.length - 1) i ++ abovePl ts (ts.length - 1) := by
  rw [path_sign h.1 (n := ts.length - 1) (by omega) hi (by omega), List.map_append, List.nil_append]
  unfold sumPl abovePl
  rw [show max i 1 = i by omega]

theorem lawSign_any (ts : List Tm) (A : Option Addr) (cap : Nat) (i : Int) (w : World) (hG : Given w A ts) :
    Calls Tryz.prog 5 #[.slice A ts.length cap, .int .i64 i] w (Holds1 w) := by
  have HG := Lib.hid hG
  clear hG
  go_enter Tryz.func5, Tryz.ntmps5
  go_wp2_with fail
  refine (fits_is HG.out).mono ?_
  rintro e w1 ⟨b1, rfl, hs, hb1⟩
  have H1 := Lib.hid (And.intro hs hb1)
  clear hs hb1
  cases b1
  · go_wp2_with fail
    go_ret
    exact ⟨rfl, H1.out.2⟩
  · go_wp2_with fail
    refine (isTerm_is HG.out (H1.out.1 (by trivial)) i w1 H1.out.2).mono ?_
    rintro e w2 ⟨b2, rfl, ht, hb2⟩
    have H2 := Lib.hid (And.intro ht (H1.out.2.trans (hb2.mono H1.out.2.size)))
    clear ht hb2
    cases b2
    · go_wp2_with fail
      go_ret
      exact ⟨rfl, H2.out.2⟩
    · obtain ⟨k, rfl⟩ := Int.eq_ofNat_of_zero_le (H2.out.1 (by trivial)).2.1
      have hk : k < ts.length := by have := (H2.out.1 (by trivial)).2.2; omega
      by_cases hk0 : k = 0
      · have e0 : ((k : Int) == 0) = true := by simp [hk0]
        clear hk0
        go_wp2_with fail
        go_ret
        exact ⟨rfl, H2.out.2⟩
      · have e0 : ((k : Int) == 0) = false := by simpa using hk0
        have hT : TmsOk ts := (H2.out.1 (by trivial)).1
        have HT := Lib.hid hT
        clear hT
        go_wp2_with fail
        refine (spans_is HG.out HT.out w2 H2.out.2).mono ?_
        rintro e w3 ⟨g1, c1, g2, c2, rfl, hs⟩
        have cg := hs.signs.cell (signCells_get hk)
        obtain ⟨z, hz⟩ : ∃ z, tG ts k = z := ⟨_, rfl⟩
        have hz0 : 0 ≤ z ∧ z ≤ 2000 := by
          obtain ⟨j, rfl⟩ : ∃ j, k = j + 1 := ⟨k - 1, by omega⟩
          have q1 := tE_lt HT.out.1 hk
          have q2 := tE_lo HT.out.1 (k := j) (by omega)
          have := HT.out.2.2
          omega
        rw [hz] at cg
        obtain ⟨ps, hps⟩ : ∃ ps, [] ++ sumPl ts (ts.length - 1) k ++ abovePl ts (ts.length - 1) = ps := ⟨_, rfl⟩
        have hpp : (pathOf ts (ts.length - 1) z (z + 1)).1.map (place ts (ts.length - 1)) = ps := by rw [← hz, sign_places HT.out (by omega) hk, hps]
        have hpl : ps.length ≤ 1000 := by
          rw [← hpp, List.length_map]
          have := path_len (ts := ts) (n := ts.length - 1) (by have := HT.out.2; omega) z (z + 1)
          omega
        have H3 := Lib.hid (And.intro (H2.out.2.trans (hs.below.mono H2.out.2.size)) (And.intro hps (And.intro hpp hpl)))
        have hg2 : g2 < w3.heap.size := hs.signs.lt
        have q1 : (0 : Int) ≤ (k : Int) := by omega
        have q2 : (k : Int) < (ts.length : Int) := by omega
        obtain ⟨z1, z2⟩ := hz0
        clear hs hz hps hpp hpl hk0
        go_wp2_with fail
        have hz : Below w3.heap.size w3 w3.drew := (Below.refl _ _).drew
        have PC : Hid (∀ w', Below w3.heap.size w3 w' → Calls Tryz.prog 12 #[.slice A ts.length cap, .int .i64 z, .int .i64 (z + 1)] w' (PathIs ps (pathOf ts (ts.length - 1) z (z + 1)).2 w')) := fun w' hw => path_is HG.out HT.out z (z + 1) (by omega) (by omega) (by omega) _ _ H3.out.2.2.1 rfl _ (H3.out.1.trans (hw.mono H3.out.1.size))
        have SOF : Hid (∀ w', Below w3.heap.size w3 w' → w'.cell? ⟨g2, k, none⟩ = some (.int .i64 z)) := fun w' hw => (hw.cell (p := ⟨g2, k, none⟩) hg2).trans cg
        have hw1 : IntKind.i64.wrap (z + 1) = z + 1 := IntWalk.i64_in _ (by omega)
        clear hz
        generalize (pathOf ts (ts.length - 1) z (z + 1)).2 = ex at PC
        go_region_held3 (fun w' => w'.cell? ⟨g2, k, none⟩ = some (.int .i64 z)) (go_keep)
          (first
            | (go_at_call 12; refine (PC.out _ (by go_grown)).mono ?_; rintro e w4 ⟨g, c, rfl, hr4, hlo4, hb4⟩; have hbn : Below w3.heap.size w3 w4 := below_then (by go_grown) hb4; have hS := SOF.out _ hbn; clear hb4 hlo4))
        have HW := Lib.hid (And.intro (H3.out.1.trans (hbn.mono H3.out.1.size)) hr4)
        clear hw1 hS hbn hr4
        go_wp2_with fail
        refine (from_is HG.out HT.out k hk (.slice none 0 0) [] ps H3.out.2.1 (by simp) w4 HW.out.1 (.inl ⟨rfl, rfl⟩)).mono ?_
        rintro e w5 ⟨g5, c5, rfl, hr5, hlo5, hb5⟩
        have HW5 := Lib.hid (And.intro (HW.out.1.trans (hb5.mono HW.out.1.size)) (And.intro (HW.out.2.below hb5) hr5))
        clear hr5 hlo5 hb5
        go_wp2_with fail
        refine (same_any ps g c g5 c5 w5 HW5.out.2.1 HW5.out.2.2 H3.out.2.2.2).mono ?_
        rintro e w6 ⟨rfl, hb6⟩
        have HW6 := Lib.hid (HW5.out.1.trans (hb6.mono HW5.out.1.size))
        clear hb6
        go_wp2_with fail
        go_ret
        exact ⟨rfl, HW6.out⟩
/-- The path from a name up to the file. -/
def termPls (ts : List Tm) (k : Nat) : List Pl := [⟨kName, (tm ts k).name, tS ts k, tE ts k⟩] ++ sumPl ts (ts.length - 1) k ++ abovePl ts (ts.length - 1)
theorem termPls_len {ts : List Tm} (h : TmsOk ts) {k : Nat} : (termPls ts k).length ≤ 1000 := by
  have := h.2.2
  simp only [termPls, List.length_append, sumPl_eq, List.length_map, List.length_range', abovePl_eq, List.length_cons, List.length_nil]
  omega
theorem term_places {ts : List Tm} {k : Nat} {l : List PN} (h : l = [.term k] ++ sumsFrom (max k 1) (ts.length - 1) ++ above) : l.map (place ts (ts.length - 1)) = termPls ts k := by
  subst h
  rw [List.map_append, List.map_append]
  rfl
theorem termRow (w : World) (ts : List Tm) (k : Nat) : PLst (w.alloc (.cells #[.string kName, .string (tm ts k).name, .int .i64 (tS ts k), .int .i64 (tE ts k)] 29)) (w.alloc (.cells #[.string kName, .string (tm ts k).name, .int .i64 (tS ts k), .int .i64 (tE ts k)] 29)).heap.size (.slice (some ⟨w.heap.size, 0, none⟩) 1 1) [⟨kName, (tm ts k).name, tS ts k, tE ts k⟩] :=
  .inr ⟨w.heap.size, 1, rfl, Row.new w 29 4 #[.string kName, .string (tm ts k).name, .int .i64 (tS ts k), .int .i64 (tE ts k)] 1 rfl (by unfold maxLen; omega), by rw [World.size_alloc]; omega⟩

theorem lawWithin_any (ts : List Tm) (A : Option Addr) (cap : Nat) (i fr tt : Int) (w : World) (hG : Given w A ts) :
    Calls Tryz.prog 8 #[.slice A ts.length cap, .int .i64 i, .int .i64 fr, .int .i64 tt] w (Holds1 w) := by
  have HG := Lib.hid hG
  clear hG
  go_enter Tryz.func8, Tryz.ntmps8
  go_wp2_with fail
  refine (fits_is HG.out).mono ?_
  rintro e w1 ⟨b1, rfl, hs, hb1⟩
  have H1 := Lib.hid (And.intro hs hb1)
  clear hs hb1
  cases b1
  · go_wp2_with fail
    go_ret
    exact ⟨rfl, H1.out.2⟩
  · go_wp2_with fail
    refine (isTerm_is HG.out (H1.out.1 (by trivial)) i w1 H1.out.2).mono ?_
    rintro e w2 ⟨b2, rfl, ht, hb2⟩
    have H2 := Lib.hid (And.intro ht (H1.out.2.trans (hb2.mono H1.out.2.size)))
    clear ht hb2
    cases b2
    · go_wp2_with fail
      go_ret
      exact ⟨rfl, H2.out.2⟩
    · obtain ⟨k, rfl⟩ := Int.eq_ofNat_of_zero_le (H2.out.1 (by trivial)).2.1
      have hk : k < ts.length := by have := (H2.out.1 (by trivial)).2.2; omega
      have hT : TmsOk ts := (H2.out.1 (by trivial)).1
      have HT := Lib.hid hT
      clear hT
      obtain ⟨b, off, hA, hbL, c0, _, _⟩ := HG.out.terms.at_ k hk
      have c0' := (H2.out.2.cell (p := ⟨b, off + k * 3, none⟩) hbL).trans c0
      obtain ⟨nm, hnm⟩ : ∃ x, (tm ts k).name = x := ⟨_, rfl⟩
      rw [hnm] at c0'
      subst hA
      have HN := Lib.hid hnm
      have q1 : (0 : Int) ≤ (k : Int) := by omega
      have q2 : (k : Int) < (ts.length : Int) := by omega
      clear c0 hnm
      by_cases hc : 0 ≤ fr ∧ tt ≤ (nm.size : Int) ∧ fr ≤ tt ∧ ¬ fr = (nm.size : Int)
      · obtain ⟨d1, d2, d3, d4⟩ := hc
        have e4 : (fr == (nm.size : Int)) = false := by simpa using d4
        have hsz : nm.size ≤ 20 := by have := tm_ok HT.out.1 hk; unfold TmOk at this; rw [HN.out] at this; omega
        have hs1 := tS_eq HT.out.1 hk
        have hs2 := tE_lo HT.out.1 hk
        have hk20 := HT.out.2.2
        rw [HN.out] at hs1
        have s1 : 0 ≤ tS ts k := by omega
        have s2 : tS ts k ≤ 2000 := by omega
        have PC := Lib.hid (fun w' (hw : Below w.heap.size w w') => path_is (cap := cap) HG.out HT.out (tS ts k + fr) (tS ts k + tt) (by omega) (by omega) (by omega) (termPls ts k) _ (term_places (path_within HT.out.1 (n := ts.length - 1) (i := k) (by omega) (by omega) (by omega) (by omega) (by omega) (by omega))) rfl w' hw)
        generalize (pathOf ts (ts.length - 1) (tS ts k + fr) (tS ts k + tt)).2 = ex at PC
        clear hs1 hs2
        go_wp2_with fail
        refine (term_is HG.out HT.out k hk w2 H2.out.2).mono ?_
        rintro e w3 ⟨rfl, hb3⟩
        have HB3 := Lib.hid (H2.out.2.trans (hb3.mono H2.out.2.size))
        clear hb3
        go_wp2_with fail
        refine (PC.out _ (HB3.out.alloc HB3.out.size _)).mono ?_
        rintro e w5 ⟨g, c, rfl, hr5, hlo5, hb5⟩
        have bx5 := (Blk.new w3 29 #[.string kName, .string (tm ts k).name, .int .i64 (tS ts k), .int .i64 (tE ts k)]).below hb5 (by rw [World.size_alloc]; omega)
        have hbw5 : Below w.heap.size w w5 := HB3.out.trans ((below_alloc_then hb5).mono HB3.out.size)
        clear hb5 hlo5
        have HP5 := Lib.hid (And.intro hbw5 (And.intro bx5 hr5))
        have o0 : w5.cell? ⟨w3.heap.size, 0, none⟩ = some (.string kName) := bx5.cell 0
        have o1 : w5.cell? ⟨w3.heap.size, 1, none⟩ = some (.string (tm ts k).name) := bx5.cell 1
        have o2 : w5.cell? ⟨w3.heap.size, 2, none⟩ = some (.int .i64 (tS ts k)) := bx5.cell 2
        have o3 : w5.cell? ⟨w3.heap.size, 3, none⟩ = some (.int .i64 (tE ts k)) := bx5.cell 3
        clear hbw5 bx5 hr5
        go_wp2_with fail
        refine (from_is HG.out HT.out k hk (.slice (some ⟨w5.heap.size, 0, none⟩) 1 1) [⟨kName, (tm ts k).name, tS ts k, tE ts k⟩] (termPls ts k) rfl (by simp) _ (HP5.out.1.alloc HP5.out.1.size _) (termRow w5 ts k)).mono ?_
        rintro e w6 ⟨g6, c6, rfl, hr6, hlo6, hb6⟩
        have hb56 : Below w5.heap.size w5 w6 := below_alloc_then hb6
        have HW6 := Lib.hid (And.intro (HP5.out.1.trans (hb56.mono HP5.out.1.size)) (And.intro (HP5.out.2.2.below hb56) hr6))
        clear hr6 hlo6 hb6 hb56
        go_wp2_with fail
        refine (same_any (termPls ts k) g c g6 c6 w6 HW6.out.2.1 HW6.out.2.2 (termPls_len HT.out)).mono ?_
        rintro e w7 ⟨rfl, hb7⟩
        have HW7 := Lib.hid (HW6.out.1.trans (hb7.mono HW6.out.1.size))
        clear hb7
        go_wp2_with fail
        go_ret
        exact ⟨rfl, HW7.out⟩
      · go_wp2_with fail
        all_goals first
          | (go_ret
             exact ⟨rfl, H2.out.2⟩)
          | (exfalso
             first | omega | (simp_all <;> omega))
theorem lawTerm_any (ts : List Tm) (A : Option Addr) (cap : Nat) (i bf af : Int) (w : World) (hG : Given w A ts) :
    Calls Tryz.prog 7 #[.slice A ts.length cap, .int .i64 i, .int .i64 bf, .int .i64 af] w (Holds1 w) := by
  have HG := Lib.hid hG
  clear hG
  go_enter Tryz.func7, Tryz.ntmps7
  go_wp2_with fail
  refine (fits_is HG.out).mono ?_
  rintro e w1 ⟨b1, rfl, hs, hb1⟩
  have H1 := Lib.hid (And.intro hs hb1)
  clear hs hb1
  cases b1
  · go_wp2_with fail
    go_ret
    exact ⟨rfl, H1.out.2⟩
  · go_wp2_with fail
    refine (isTerm_is HG.out (H1.out.1 (by trivial)) i w1 H1.out.2).mono ?_
    rintro e w2 ⟨b2, rfl, ht, hb2⟩
    have H2 := Lib.hid (And.intro ht (H1.out.2.trans (hb2.mono H1.out.2.size)))
    clear ht hb2
    cases b2
    · go_wp2_with fail
      go_ret
      exact ⟨rfl, H2.out.2⟩
    · obtain ⟨k, rfl⟩ := Int.eq_ofNat_of_zero_le (H2.out.1 (by trivial)).2.1
      have hk : k < ts.length := by have := (H2.out.1 (by trivial)).2.2; omega
      have hT : TmsOk ts := (H2.out.1 (by trivial)).1
      have HT := Lib.hid hT
      clear hT
      go_wp2_with fail
      refine (blanks_any ts A cap k w2 w.heap.size HT.out.2.2 hk (HG.out.terms.below H2.out.2 (Nat.le_refl _))).mono ?_
      rintro e w' ⟨rfl, rfl⟩
      obtain ⟨bl, hbl⟩ : ∃ x, blanksL ts k = x := ⟨_, rfl⟩
      obtain ⟨br, hbr⟩ : ∃ x, blanksR ts k = x := ⟨_, rfl⟩
      rw [hbl, hbr]
      have HN := Lib.hid (And.intro hbl hbr)
      clear hbl hbr
      by_cases hc : 0 ≤ bf ∧ bf ≤ bl ∧ 0 ≤ af ∧ af ≤ br
      · obtain ⟨d1, d2, d3, d4⟩ := hc
        have hs1 := tS_eq HT.out.1 hk
        have hs2 := tE_lo HT.out.1 hk
        have hk20 := HT.out.2.2
        have hL : bl ≤ 20 ∧ (if k = 0 then (17 : Int) else tG ts k + 1) ≤ tS ts k - bl := by
          have e := HN.out.1
          unfold blanksL at e
          have ho := tm_ok HT.out.1 hk
          unfold TmOk at ho
          by_cases k0 : k = 0
          · rw [if_pos k0] at e ⊢
            omega
          · rw [if_neg k0] at e ⊢
            obtain ⟨j, rfl⟩ : ∃ j, k = j + 1 := ⟨k - 1, by omega⟩
            simp only [tS, tG]
            omega
        have hR : br ≤ 20 ∧ tE ts k + br ≤ if k = ts.length - 1 then tE ts (ts.length - 1) else tG ts (k + 1) := by
          have e := HN.out.2
          unfold blanksR at e
          by_cases k0 : k + 1 = ts.length
          · rw [if_pos k0] at e
            rw [if_pos (by omega), show ts.length - 1 = k by omega]
            omega
          · rw [if_neg k0] at e
            rw [if_neg (by omega)]
            have ho := tm_ok HT.out.1 (i := k + 1) (by omega)
            unfold TmOk at ho
            simp only [tG]
            omega
        have s1 : 18 ≤ tS ts k := by omega
        have s2 : tS ts k ≤ 2000 := by omega
        have s3 : 0 ≤ tE ts k := by omega
        have s4 : tE ts k ≤ 2000 := by omega
        have s5 : bf ≤ 20 := by omega
        have s6 : af ≤ 20 := by omega
        have hpt := path_term HT.out.1 (n := ts.length - 1) (i := k) (a := tS ts k - bf) (b := tE ts k + af) (by omega) (by omega) (by have := hL.2; omega) (by omega) (by omega) (by have := hR.2; omega)
        have PC := Lib.hid (fun w' (hw : Below w.heap.size w w') => path_is (cap := cap) HG.out HT.out (tS ts k - bf) (tE ts k + af) (by omega) (by omega) (by omega) (termPls ts k) true (term_places (by rw [hpt])) (by rw [hpt]) w' hw)
        clear hs1 hs2 hL hR hpt
        go_wp2_with fail
        refine (term_is HG.out HT.out k hk w2 H2.out.2).mono ?_
        rintro e w3 ⟨rfl, hb3⟩
        have HB3 := Lib.hid (H2.out.2.trans (hb3.mono H2.out.2.size))
        clear hb3
        go_wp2_with fail
        refine (PC.out _ (HB3.out.alloc HB3.out.size _)).mono ?_
        rintro e w5 ⟨g, c, rfl, hr5, hlo5, hb5⟩
        have bx5 := (Blk.new w3 29 #[.string kName, .string (tm ts k).name, .int .i64 (tS ts k), .int .i64 (tE ts k)]).below hb5 (by rw [World.size_alloc]; omega)
        have hbw5 : Below w.heap.size w w5 := HB3.out.trans ((below_alloc_then hb5).mono HB3.out.size)
        clear hb5 hlo5
        have HP5 := Lib.hid (And.intro hbw5 (And.intro bx5 hr5))
        have o0 : w5.cell? ⟨w3.heap.size, 0, none⟩ = some (.string kName) := bx5.cell 0
        have o1 : w5.cell? ⟨w3.heap.size, 1, none⟩ = some (.string (tm ts k).name) := bx5.cell 1
        have o2 : w5.cell? ⟨w3.heap.size, 2, none⟩ = some (.int .i64 (tS ts k)) := bx5.cell 2
        have o3 : w5.cell? ⟨w3.heap.size, 3, none⟩ = some (.int .i64 (tE ts k)) := bx5.cell 3
        clear hbw5 bx5 hr5
        go_wp2_with fail
        refine (from_is HG.out HT.out k hk (.slice (some ⟨w5.heap.size, 0, none⟩) 1 1) [⟨kName, (tm ts k).name, tS ts k, tE ts k⟩] (termPls ts k) rfl (by simp) _ (HP5.out.1.alloc HP5.out.1.size _) (termRow w5 ts k)).mono ?_
        rintro e w6 ⟨g6, c6, rfl, hr6, hlo6, hb6⟩
        have hb56 : Below w5.heap.size w5 w6 := below_alloc_then hb6
        have HW6 := Lib.hid (And.intro (HP5.out.1.trans (hb56.mono HP5.out.1.size)) (And.intro (HP5.out.2.2.below hb56) hr6))
        clear hr6 hlo6 hb6 hb56
        go_wp2_with fail
        refine (same_any (termPls ts k) g c g6 c6 w6 HW6.out.2.1 HW6.out.2.2 (termPls_len HT.out)).mono ?_
        rintro e w7 ⟨rfl, hb7⟩
        have HW7 := Lib.hid (HW6.out.1.trans (hb7.mono HW6.out.1.size))
        clear hb7
        go_wp2_with fail
        go_ret
        exact ⟨rfl, HW7.out⟩
      · go_wp2_with fail
        all_goals first
          | (go_ret
             exact ⟨rfl, H2.out.2⟩)
          | (exfalso
             first | omega | (simp_all <;> omega))
end Go.Proofs.YtakigggbecibmaaGreatFmt
