/- The places that the statements compute: of a sum, of the sums, of what stands above, of a term; a path from them; whether two paths are the same. -/
import Derived.Test.YtakigggbecibmaaGreatFmtPathV
import Derived.Deep.RegionHeld3
import Derived.RegionTactic
import Derived.ChangeAlike
import Derived.Deep.QuietTactic
import Derived.BigQuiet
namespace Go.Proofs.YtakigggbecibmaaGreatFmt
open Go.RowKit
set_option maxRecDepth 100000
set_option maxHeartbeats 4000000

theorem SpanSt.cells {w0 w : World} {g1 c1 g2 c2 k1 k2 : Nat} {ts : List Tm} (h : SpanSt w0 w g1 c1 g2 c2 ts k1 k2) {i : Nat} (hi : i < k1) : w.cell? ⟨g1, i * 2, none⟩ = some (.int .i64 (tS ts i)) ∧ w.cell? ⟨g1, i * 2 + 1, none⟩ = some (.int .i64 (tE ts i)) :=
  ⟨h.spans.cell (spanCells_get hi).1, h.spans.cell (spanCells_get hi).2⟩
/-- A place that a call answers. -/
def Plc (k t : ByteArray) (lo hi : Int) (w : World) (e : Ending) (w' : World) : Prop := e = .returned (.agg #[.string k, .string t, .int .i64 lo, .int .i64 hi]) ∧ Below w.heap.size w w'
theorem load_place {w : World} {g : Nat} {a b c d : Value} (h : Blk w g 29 #[a, b, c, d]) (_ha : a.oneCell' = true) (_hb : b.oneCell' = true) (_hc : c.oneCell' = true) (_hd : d.oneCell' = true) : (loadVar 29 ⟨g, 0, none⟩).run Tryz.prog w = .ok (.agg #[a, b, c, d]) w := by
  have h0 : w.cell? ⟨g, 0, none⟩ = some a := h.cell 0
  have h1 : w.cell? ⟨g, 1, none⟩ = some b := h.cell 1
  have h2 : w.cell? ⟨g, 2, none⟩ = some c := h.cell 2
  have h3 : w.cell? ⟨g, 3, none⟩ = some d := h.cell 3
  clear h
  simp [go_sem, h0, h1, h2, h3]
abbrev noPlace : Array Value := #[.string ⟨#[]⟩, .string ⟨#[]⟩, .int .i64 0, .int .i64 0]
theorem Blk.place {w : World} {g : Nat} {cs : Array Value} (h : Blk w g 29 cs) (hc : cs.size = 4) (p : Pl) : Blk ((((w.setCell ⟨g, 0, none⟩ (.string p.kind)).setCell ⟨g, 1, none⟩ (.string p.text)).setCell ⟨g, 2, none⟩ (.int .i64 p.lo)).setCell ⟨g, 3, none⟩ (.int .i64 p.hi)) g 29 #[.string p.kind, .string p.text, .int .i64 p.lo, .int .i64 p.hi] := by
  have := (((h.set_ 0 (.string p.kind)).set_ 1 (.string p.text)).set_ 2 (.int .i64 p.lo)).set_ 3 (.int .i64 p.hi)
  obtain ⟨l⟩ := cs
  match l, hc with
  | [_, _, _, _], _ => exact this
theorem sum_any (ts : List Tm) (A : Option Addr) (cap : Nat) (i : Nat) (w : World) (L : Nat) (h : TmsOk ts) (hi : i < ts.length) (hT : TermsIn w L A ts) (hL : L ≤ w.heap.size) :
    Calls Tryz.prog 31 #[.slice A ts.length cap, .int .i64 i] w (Plc kBin noText 18 (tE ts i) w) := by
  have HT := Lib.hid (And.intro hT h)
  have q1 : (0 : Int) ≤ (i : Int) := by omega
  have q2 : (i : Int) < (ts.length : Int) := by omega
  clear hT h
  go_enter Tryz.func31, Tryz.ntmps31
  go_wp2_with fail
  refine (spans_any ts A cap _ L HT.out.2 (HT.out.1.below (B := w.heap.size) (by go_grown) hL) (by simp; omega)).mono ?_
  rintro e w1 ⟨g1, c1, g2, c2, rfl, hs⟩
  obtain ⟨_, ce⟩ := hs.cells hi
  have bx := (Blk.new w 29 noPlace).below hs.below (by simp)
  have b0 : w1.cell? ⟨w.heap.size, 0, none⟩ = some (.string ⟨#[]⟩) := bx.cell 0
  have b1 : w1.cell? ⟨w.heap.size, 1, none⟩ = some (.string ⟨#[]⟩) := bx.cell 1
  have b2 : w1.cell? ⟨w.heap.size, 2, none⟩ = some (.int .i64 0) := bx.cell 2
  have b3 : w1.cell? ⟨w.heap.size, 3, none⟩ = some (.int .i64 0) := bx.cell 3
  have f0 := bx.frozen 0
  have f1 := bx.frozen 1
  have f2 := bx.frozen 2
  have f3 := bx.frozen 3
  have HS := Lib.hid (And.intro hs bx)
  clear hs bx
  go_wp2_with fail
  refine bodyPost_ret (results_struct rfl rfl (load_place (HS.out.2.place rfl ⟨kBin, noText, 18, tE ts i⟩) rfl rfl rfl rfl)) rfl ?_
  have hb := below_alloc_then HS.out.1.below
  exact ⟨rfl, by go_grown⟩
theorem term_any (ts : List Tm) (A : Option Addr) (cap : Nat) (i : Nat) (w : World) (L : Nat) (h : TmsOk ts) (hi : i < ts.length) (hT : TermsIn w L A ts) (hL : L ≤ w.heap.size) :
    Calls Tryz.prog 17 #[.slice A ts.length cap, .int .i64 i] w (Plc kName (tm ts i).name (tS ts i) (tE ts i) w) := by
  obtain ⟨b, off, hA, hbL, c0, _, _⟩ := hT.at_ i hi
  obtain ⟨nm, hnm⟩ : ∃ x, (tm ts i).name = x := ⟨_, rfl⟩
  rw [hnm] at c0 ⊢
  have HT := Lib.hid (And.intro hT h)
  have q1 : (0 : Int) ≤ (i : Int) := by omega
  have q2 : (i : Int) < (ts.length : Int) := by omega
  subst hA
  clear hT h hnm
  go_enter Tryz.func17, Tryz.ntmps17
  go_wp2_with fail
  refine (spans_any ts _ cap _ L HT.out.2 (HT.out.1.below (B := w.heap.size) (by go_grown) hL) (by simp; omega)).mono ?_
  rintro e w1 ⟨g1, c1, g2, c2, rfl, hs⟩
  obtain ⟨cs, ce⟩ := hs.cells hi
  have hb := below_alloc_then hs.below
  have c0' := (hb.cell (p := ⟨b, off + i * 3, none⟩) (by show b < _; omega)).trans c0
  have bx := (Blk.new w 29 noPlace).below hs.below (by simp)
  have b0 : w1.cell? ⟨w.heap.size, 0, none⟩ = some (.string ⟨#[]⟩) := bx.cell 0
  have b1 : w1.cell? ⟨w.heap.size, 1, none⟩ = some (.string ⟨#[]⟩) := bx.cell 1
  have b2 : w1.cell? ⟨w.heap.size, 2, none⟩ = some (.int .i64 0) := bx.cell 2
  have b3 : w1.cell? ⟨w.heap.size, 3, none⟩ = some (.int .i64 0) := bx.cell 3
  have f0 := bx.frozen 0
  have f1 := bx.frozen 1
  have f2 := bx.frozen 2
  have f3 := bx.frozen 3
  have HS := Lib.hid (And.intro hb bx)
  clear hs bx hb c0
  go_wp2_with fail
  go_region
  go_wp2
  refine bodyPost_ret (results_struct rfl rfl (load_place ((HS.out.2.place rfl ⟨kName, nm, tS ts i, tE ts i⟩).same rfl) rfl rfl rfl rfl)) rfl ?_
  have hb := HS.out.1
  exact ⟨rfl, by go_grown⟩
theorem length_any (ts : List Tm) (A : Option Addr) (cap : Nat) (w : World) (L : Nat) (h : TmsOk ts) (hT : TermsIn w L A ts) (hL : L ≤ w.heap.size) :
    Calls Tryz.prog 11 #[.slice A ts.length cap] w (Num (tE ts (ts.length - 1)) w) := by
  have h1 := h.2.1
  have h2 := h.2.2
  have HT := Lib.hid (And.intro hT h)
  have hw : IntKind.i64.wrap ((ts.length : Int) - 1) = ((ts.length - 1 : Nat) : Int) := (IntWalk.i64_in _ (by omega)).trans (by omega)
  clear hT h
  go_enter Tryz.func11, Tryz.ntmps11
  go_wp2_with fail
  refine (term_any ts A cap (ts.length - 1) w L HT.out.2 (by omega) HT.out.1 hL).mono ?_
  rintro e w1 ⟨rfl, hb⟩
  have HB := Lib.hid hb
  clear hb
  have hf : ∀ w, (Instr.field 29 (.agg #[.string kName, .string (tm ts (ts.length - 1)).name, .int .i64 (tS ts (ts.length - 1)), .int .i64 (tE ts (ts.length - 1))]) 3).run Tryz.prog w = .ok (.int .i64 (tE ts (ts.length - 1))) w := fun _ => by kernel_rfl
  go_wp2_with fail
  go_ret
  exact ⟨rfl, HB.out⟩
/-- Places that a call answers, in a row of its own. -/
def Pls (ps : List Pl) (w : World) (e : Ending) (w' : World) : Prop := ∃ g c, e = .returned (.slice (some ⟨g, 0, none⟩) ps.length c) ∧ PRow w' g ps c ∧ w.heap.size ≤ g ∧ Below w.heap.size w w'
theorem PRow.of_app {w : World} {g cap : Nat} {ps qs : List Pl} (h : Row w g 29 4 (ps.length + qs.length) (plCells ps ++ plCells qs) cap) : PRow w g (ps ++ qs) cap := by
  unfold PRow
  rw [List.length_append, plCells_append]
  exact h
theorem above_any (ts : List Tm) (A : Option Addr) (cap : Nat) (w : World) (L : Nat) (h : TmsOk ts) (hT : TermsIn w L A ts) (hL : L ≤ w.heap.size) :
    Calls Tryz.prog 24 #[.slice A ts.length cap] w (Pls (abovePl ts (ts.length - 1)) w) := by
  have h1 := h.2.1
  have h2 := h.2.2
  have HT := Lib.hid (And.intro hT h)
  have hw : IntKind.i64.wrap ((ts.length : Int) - 1) = ((ts.length - 1 : Nat) : Int) := (IntWalk.i64_in _ (by omega)).trans (by omega)
  clear hT h
  go_enter Tryz.func24, Tryz.ntmps24
  go_wp2_with fail
  refine (spans_any ts A cap w L HT.out.2 HT.out.1 hL).mono ?_
  rintro e w1 ⟨g1, c1, g2, c2, rfl, hs⟩
  obtain ⟨_, ce⟩ := hs.cells (i := ts.length - 1) (by omega)
  have q1 : (0 : Int) ≤ ((ts.length - 1 : Nat) : Int) := by omega
  have q2 : ((ts.length - 1 : Nat) : Int) < (ts.length : Int) := by omega
  have HS := Lib.hid hs
  clear hs
  go_wp2_with fail
  go_ret
  have hb := HS.out.below
  rw [abovePl_eq]
  exact ⟨_, _, rfl, Row.new w1 29 4 _ 3 rfl (by unfold maxLen; omega), hb.size, hb.alloc hb.size _⟩
def sumF (ts : List Tm) (k : Nat) : Pl := ⟨kBin, noText, 18, tE ts k⟩
def psum (ts : List Tm) (m d : Nat) : List Pl := (List.range' m d).map (sumF ts)
theorem psum_succ (ts : List Tm) (m d : Nat) : psum ts m (d + 1) = psum ts m d ++ [sumF ts (m + d)] := by
  unfold psum
  rw [List.range'_concat, List.map_append, List.map_singleton, Nat.one_mul]
theorem psum_length (ts : List Tm) (m d : Nat) : (psum ts m d).length = d := by simp [psum]
theorem sums_any (ts : List Tm) (A : Option Addr) (cap i : Nat) (w : World) (L : Nat) (h : TmsOk ts) (hi : i < ts.length) (hT : TermsIn w L A ts) (hL : L ≤ w.heap.size) :
    Calls Tryz.prog 23 #[.slice A ts.length cap, .int .i64 i] w (Pls (sumPl ts (ts.length - 1) i) w) := by
  have h2 := h.2.2
  obtain ⟨i1, hi1, hz1, hs1, hb1⟩ := info_parts Tryz.infoPlace
  have HI := Lib.hid (And.intro hi1 (And.intro hz1 (And.intro hs1 hb1)))
  have HT := Lib.hid (And.intro hT h)
  obtain ⟨m, hm⟩ : ∃ m, max i 1 = m := ⟨_, rfl⟩
  have hmx : max (i : Int) 1 = (m : Int) := by omega
  have e0 : sumPl ts (ts.length - 1) i = psum ts m (ts.length - m) := by
    rw [sumPl_eq, hm, show ts.length - 1 + 1 = ts.length by omega]
    rfl
  have hm1 : m ≤ ts.length := by omega
  have hm2 : 1 ≤ m := by omega
  rw [e0]
  clear hT h hi1 hz1 hs1 hb1 e0 hm
  go_enter Tryz.func23, Tryz.ntmps23
  go_wp2_with fail
  all_goals
    go_loopw [5, 6] (fun o k wr => ∃ (d g c : Nat), m + d ≤ ts.length ∧ k = .int .i64 ((m + d : Nat) : Int) ∧ o = .slice (some ⟨g, 0, none⟩) d c ∧ Hid (PRow wr g (psum ts m d) c ∧ w.heap.size ≤ g ∧ Below w.heap.size w wr)) (fun _ k _ => ts.length - (intOf k).toNat)
    case atStart =>
      refine ⟨0, w.heap.size, 0, by omega, by congr 1; omega, rfl, ?_⟩
      exact ⟨Row.new w 29 4 #[] 0 rfl (by unfold maxLen; omega), Nat.le_refl _, by go_grown⟩
    case round =>
      obtain ⟨d, g, c, hd, rfl, rfl, HS⟩ := hrel
      obtain ⟨j, hj⟩ : ∃ j, m + d = j := ⟨_, rfl⟩
      have HJ := Lib.hid hj
      rw [hj] at hd ⊢
      clear hj
      by_cases hlt : j < ts.length
      · go_wp2_with fail
        refine (sum_any ts A cap j wr L HT.out.2 hlt (HT.out.1.below HS.out.2.2 hL) (by have := HS.out.2.2.size; omega)).mono ?_
        rintro e w1 ⟨rfl, hb⟩
        have HB := Lib.hid hb
        clear hb
        go_wp2_with (at_builtin; refine wpList_append_row _ rfl (.tmp 16) (.tmp 20) 25 rfl 29 i1 _ 4 48 Tryz.underlying25 HI.out.1 HI.out.2.1 HI.out.2.2.1 HI.out.2.2.2 rfl (by decide) g c d (plCells (psum ts m d)) rfl ?c1 ⟨w1.heap.size, 0, none⟩ 1 1 [.string kBin, .string noText, .int .i64 18, .int .i64 (tE ts j)] rfl rfl ?c3 ?c4 ?c5 ?c6 ?_)
        case c1 =>
          have := HS.out.1.below (w' := w1.alloc (.cells #[.string kBin, .string noText, .int .i64 18, .int .i64 (tE ts j)] 29)) (HB.out.alloc HB.out.size _)
          unfold PRow at this
          rwa [psum_length] at this
        case c3 => exact cells_four_new _ _ _ _ _ _
        case c4 => intro u hu; simp only [List.mem_cons, List.not_mem_nil, or_false] at hu; rcases hu with rfl | rfl | rfl | rfl <;> rfl
        case c5 => have := HJ.out; unfold maxLen; omega
        case c6 => have := HJ.out; omega
        intro g' c' w3 hrow hg hg'
        have hp : PRow w3 g' (psum ts m (d + 1)) c' := by
          rw [psum_succ]
          refine PRow.of_app ?_
          rw [psum_length, HJ.out]
          exact hrow
        have hsz : w.heap.size ≤ w1.heap.size := by have := HS.out.2.2.size; have := HB.out.size; omega
        have hbl : Below w.heap.size w w3 := by
          have h1 := HS.out.2.2
          have h2 := HB.out
          refine Below.grown (w := w1.alloc (.cells #[.string kBin, .string noText, .int .i64 18, .int .i64 (tE ts j)] 29)) ((h1.trans (h2.mono h1.size)).alloc hsz _) hg (by rw [World.size_alloc]; omega) (fun k hk => ?_)
          obtain rfl : g = k := Option.some.inj hk
          exact HS.out.2.1
        have HS3 := Lib.hid (And.intro hp (And.intro (show w.heap.size ≤ g' by have := HS.out.2.1; omega) hbl))
        clear hrow hg hg' hp hbl hsz
        go_wp2_with fail
        go_roundw
        case rel => exact ⟨d + 1, _, _, by have := HJ.out; omega, by have := HJ.out; congr 1; omega, rfl, HS3⟩
        case measure => simp [intOf]; omega
      · go_wp2_with fail
        go_ret
        have e1 : ts.length - m = d := by have := HJ.out; omega
        rw [e1]
        exact ⟨g, c, by rw [psum_length]; rfl, HS.out⟩
/-- A list of places that is nil, or a row. -/
def PLst (w : World) (B : Nat) (v : Value) (ps : List Pl) : Prop := (v = .slice none 0 0 ∧ ps = []) ∨ ∃ g c, v = .slice (some ⟨g, 0, none⟩) ps.length c ∧ PRow w g ps c ∧ g < B
theorem grown_row {w0 w w' : World} {g : Nat} (h : Below w0.heap.size w0 w) (hg : w.grownBy w' (some g)) (hlo : w0.heap.size ≤ g) : Below w0.heap.size w0 w' :=
  h.grown hg h.size (fun k hk => by obtain rfl : g = k := Option.some.inj hk; exact hlo)
/-- append of places, nil or a row, onto a row of the call's own. -/
theorem wpList_append_pl (w : World) {ops : Array Oper} {rest : List Oper} {o : Oper} {a : Act} {Q : Exit → Act → World → Prop} (hgd : o.guard = none) (s x : Operand)
    (ho : o.op = .call { callee := .builtin .append, args := #[s, x], argTypes := #[25, 25] }) (g cap n B : Nat) (ps qs : List Pl) (v : Value) (hn : ps.length = n) (hs : a.eval s = .slice (some ⟨g, 0, none⟩) n cap) (hrow : PRow w g ps cap)
    (hx : a.eval x = v) (hq : PLst w B v qs) (h63 : ps.length + qs.length ≤ 1000)
    (h : ∀ g' cap' w', PRow w' g' (ps ++ qs) cap' → w.grownBy w' (some g) → (g' = g ∨ g' = w.heap.size) → wpList Tryz.prog ops Q rest (a.put o.dst (.slice (some ⟨g', 0, none⟩) (n + qs.length) cap')) w') : wpList Tryz.prog ops Q (o :: rest) a w := by
  obtain ⟨i1, hi1, hz1, hs1, hb1⟩ := info_parts Tryz.infoPlace
  subst hn
  rcases hq with ⟨rfl, rfl⟩ | ⟨g2, c2, rfl, hr2, _⟩
  · refine wpList_plain hgd fun _ hK => ?_
    have hrun : (Builtin.append_ #[25, 25] o.type #[.slice (some ⟨g, 0, none⟩) ps.length cap, .slice none 0 0]).run Tryz.prog w = .ok (.slice (some ⟨g, 0, none⟩) ps.length cap) w := by
      have hnc := hrow.2.1
      simp [Builtin.append_, run_underlying Tryz.underlying25, sizeOf, typeInfo, hi1, Builtin.lenOf, Builtin.firstCells, hnc, storeCells]
    unfold Oper.wp execOp
    simp only [ho, resolve, invoke, builtin, Sem.run_bind, Sem.run_pure, Result.andThen_ok, List.map_toArray, List.map_cons, List.map_nil, hs, hx, hrun]
    exact hK _ _ (h g cap w (by simpa using hrow) (World.grownBy.refl w _) (.inl rfl))
  · exact wpList_append_row w hgd s x 25 ho 29 i1 _ 4 48 Tryz.underlying25 hi1 hz1 hs1 hb1 rfl (by decide) g cap ps.length (plCells ps) hs hrow ⟨g2, 0, none⟩ qs.length c2 (plCells qs) hx (plCells_length qs) hr2.news (plCells_cell qs)
      (by unfold maxLen; omega) (by omega) fun g' cap' w' hr hg hg' => h g' cap' w' (PRow.of_app hr) hg hg'
theorem pathFrom_any (ts : List Tm) (A : Option Addr) (cap i : Nat) (F : Value) (fs : List Pl) (w : World) (L : Nat) (h : TmsOk ts) (hi : i < ts.length) (hT : TermsIn w L A ts) (hL : L ≤ w.heap.size) (hF : PLst w w.heap.size F fs) (hfs : fs.length ≤ 100) :
    Calls Tryz.prog 16 #[.slice A ts.length cap, F, .int .i64 i] w (Pls (fs ++ sumPl ts (ts.length - 1) i ++ abovePl ts (ts.length - 1)) w) := by
  have h2 := h.2.2
  have HT := Lib.hid (And.intro hT (And.intro h hF))
  have hsl : (sumPl ts (ts.length - 1) i).length ≤ 100 := by rw [sumPl_eq]; simp; omega
  have hal : (abovePl ts (ts.length - 1)).length = 3 := rfl
  have HL := Lib.hid (And.intro hsl hal)
  clear hT h hsl hal hF
  go_enter Tryz.func16, Tryz.ntmps16
  go_wp2_with (at_builtin; refine wpList_append_pl _ rfl (.tmp 8) (.tmp 9) rfl w.heap.size 0 0 w.heap.size [] fs F rfl rfl ?c1 rfl ?c2 ?c3 ?_)
  case c1 => exact Row.new w 29 4 #[] 0 rfl (by unfold maxLen; omega)
  case c2 =>
    rcases HT.out.2.2 with h | ⟨g, c, e, hr, hlt⟩
    · exact .inl h
    · exact .inr ⟨g, c, e, hr.below ((Below.refl _ _).alloc (Nat.le_refl _) _), hlt⟩
  case c3 => simp; omega
  intro g1 c1 w1 hr1 hg1 hl1
  have hb1 : Below w.heap.size w w1 := grown_row ((Below.refl _ _).alloc (Nat.le_refl _) _) hg1 (Nat.le_refl _)
  have HS1 := Lib.hid (And.intro hr1 (And.intro (show w.heap.size ≤ g1 by omega) hb1))
  clear hr1 hg1 hl1 hb1
  go_wp2_with fail
  refine (sums_any ts A cap i w1 L HT.out.2.1 hi (HT.out.1.below HS1.out.2.2 hL) (by have := HS1.out.2.2.size; omega)).mono ?_
  rintro e w2 ⟨g2, c2, rfl, hr2, hlo2, hb2⟩
  have HS2 := Lib.hid (And.intro (PRow.below HS1.out.1 hb2) (And.intro hr2 (And.intro (Row.lt hr2) (HS1.out.2.2.trans (hb2.mono HS1.out.2.2.size)))))
  clear hr2 hlo2 hb2
  go_wp2_with (at_builtin; refine wpList_append_pl _ rfl (.tmp 11) (.tmp 14) rfl g1 c1 fs.length w2.heap.size fs (sumPl ts (ts.length - 1) i) _ rfl rfl ?c1 rfl ?c2 ?c3 ?_)
  case c1 => exact HS2.out.1
  case c2 => exact .inr ⟨g2, c2, rfl, HS2.out.2.1, HS2.out.2.2.1⟩
  case c3 => have := HL.out.1; omega
  intro g3 c3 w3 hr3 hg3 hl3
  have hb3 : Below w.heap.size w w3 := grown_row HS2.out.2.2.2 hg3 HS1.out.2.1
  have HS3 := Lib.hid (And.intro hr3 (And.intro (show w.heap.size ≤ g3 by have := HS1.out.2.1; have := HS2.out.2.2.2.size; omega) hb3))
  clear hr3 hg3 hl3 hb3
  go_wp2_with fail
  refine (above_any ts A cap w3 L HT.out.2.1 (HT.out.1.below HS3.out.2.2 hL) (by have := HS3.out.2.2.size; omega)).mono ?_
  rintro e w4 ⟨g4, c4, rfl, hr4, hlo4, hb4⟩
  have HS4 := Lib.hid (And.intro (PRow.below HS3.out.1 hb4) (And.intro hr4 (And.intro (Row.lt hr4) (HS3.out.2.2.trans (hb4.mono HS3.out.2.2.size)))))
  clear hr4 hlo4 hb4
  go_wp2_with (at_builtin; refine wpList_append_pl _ rfl (.tmp 16) (.tmp 18) rfl g3 c3 (fs.length + (sumPl ts (ts.length - 1) i).length) w4.heap.size (fs ++ sumPl ts (ts.length - 1) i) (abovePl ts (ts.length - 1)) _ (List.length_append ..) rfl ?c1 rfl ?c2 ?c3 ?_)
  case c1 => exact HS4.out.1
  case c2 => exact .inr ⟨g4, c4, rfl, HS4.out.2.1, HS4.out.2.2.1⟩
  case c3 => have := HL.out; simp only [List.length_append]; omega
  intro g5 c5 w5 hr5 hg5 hl5
  have hb5 : Below w.heap.size w w5 := grown_row HS4.out.2.2.2 hg5 HS3.out.2.1
  have HS5 := Lib.hid (And.intro hr5 (And.intro (show w.heap.size ≤ g5 by have := HS3.out.2.1; have := HS4.out.2.2.2.size; omega) hb5))
  clear hr5 hg5 hl5 hb5
  go_wp2_with fail
  go_ret
  rw [List.append_assoc]
  exact ⟨g5, c5, by simp only [List.length_append, Nat.add_assoc]; rfl, HS5.out⟩
theorem same_any (ps : List Pl) (g1 c1 g2 c2 : Nat) (w : World) (h1 : PRow w g1 ps c1) (h2 : PRow w g2 ps c2) (hl : ps.length ≤ 1000) :
    Calls Tryz.prog 13 #[.slice (some ⟨g1, 0, none⟩) ps.length c1, .slice (some ⟨g2, 0, none⟩) ps.length c2] w fun e w' => e = .returned (.bool true) ∧ Below w.heap.size w w' := by
  have H := Lib.hid (And.intro h1 h2)
  clear h1 h2
  go_enter Tryz.func13, Tryz.ntmps13
  go_wp2_with fail
  go_loopw [14] (fun k wr => ∃ j : Nat, j ≤ ps.length ∧ k = .int .i64 j ∧ Hid (Below w.heap.size w wr)) (fun k _ => ps.length - (intOf k).toNat)
  case atStart => exact ⟨0, by omega, rfl, Below.refl _ _⟩
  case round =>
    obtain ⟨j, hj, rfl, HB⟩ := hrel
    by_cases hlt : j < ps.length
    · obtain ⟨p, hp⟩ : ∃ p, ps[j]? = some p := ⟨_, List.getElem?_eq_getElem hlt⟩
      have l1 := Row.lt H.out.1
      have l2 := Row.lt H.out.2
      obtain ⟨a0, a1, a2, a3⟩ := (PRow.below (H.out.1) HB.out).cells hp
      obtain ⟨b0, b1, b2, b3⟩ := (PRow.below (H.out.2) HB.out).cells hp
      have q1 : (0 : Int) ≤ (j : Int) := by omega
      have q2 : (j : Int) < (ps.length : Int) := by omega
      have l3 : g2 < wr.heap.size := by have := HB.out.size; omega
      clear hp
      go_wp2_with fail
      go_quiet (fail)
      go_wp2_with fail
      go_roundw
      case rel => exact ⟨j + 1, by omega, by go_num, below_drewN (HB.out.alloc HB.out.size _) _⟩
      case measure => simp [intOf]; omega
    · obtain rfl : j = ps.length := by omega
      go_wp2_with fail
      go_ret
      exact ⟨rfl, HB.out⟩
end Go.Proofs.YtakigggbecibmaaGreatFmt
