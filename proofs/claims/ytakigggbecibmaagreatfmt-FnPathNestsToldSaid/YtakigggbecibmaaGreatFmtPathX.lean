/- placeOf: what is told of a node; impl.Path: the places of a path. -/
import Derived.Test.YtakigggbecibmaaGreatFmtPathT
import Derived.Test.YtakigggbecibmaaGreatFmtPathW
namespace Go.Proofs.YtakigggbecibmaaGreatFmt
open Go.RowKit
set_option maxRecDepth 100000
set_option maxHeartbeats 4000000

attribute [local go_sem] Tryz.taMissIdent Tryz.taMissBinaryExpr
section
variable {w : World} {lo hi : Int} (hlo : 0 ≤ lo) (hlo2 : lo ≤ 100000) (hhi : 0 ≤ hi) (hhi2 : hi ≤ 100000)
include hlo hlo2 hhi hhi2
theorem placeOther_any (t : TypeId) (u : Value) (h1 : t ≠ 68) (h2 : t ≠ 79) (hn : NodeOk w t u (lo + 1) (hi + 1)) :
    Calls Tryz.prog 22 #[.iface t u] w (Plc kOther noText lo hi w) := by
  obtain ⟨f, r, ⟨m1, m2⟩, hc⟩ := hn.pos
  obtain ⟨f', r', ⟨m1', m2'⟩, hc'⟩ := hn.end_
  obtain ⟨p, hp⟩ : ∃ p, lo + 1 = p := ⟨_, rfl⟩
  obtain ⟨q, hq⟩ : ∃ q, hi + 1 = q := ⟨_, rfl⟩
  obtain rfl : lo = p - 1 := by omega
  obtain rfl : hi = q - 1 := by omega
  rw [hp] at hc
  rw [hq] at hc'
  have HC := Lib.hid (And.intro hc hc')
  clear hn hc hc' hp hq
  go_enter Tryz.func22, Tryz.ntmps22
  go_wp2_with fail
  refine (HC.out.1 _ (by go_grown)).mono ?_
  rintro e w1 ⟨rfl, hb1⟩
  have HB1 := Lib.hid (And.intro (below_alloc_then hb1) ((Blk.new w 29 noPlace).below hb1 (by simp)))
  clear hb1
  go_wp2_with fail
  refine (HC.out.2 _ HB1.out.1).mono ?_
  rintro e w2 ⟨rfl, hb2⟩
  have bx := HB1.out.2.below hb2 HB1.out.2.lt
  have b0 : w2.cell? ⟨w.heap.size, 0, none⟩ = some (.string ⟨#[]⟩) := bx.cell 0
  have b1 : w2.cell? ⟨w.heap.size, 1, none⟩ = some (.string ⟨#[]⟩) := bx.cell 1
  have b2 : w2.cell? ⟨w.heap.size, 2, none⟩ = some (.int .i64 0) := bx.cell 2
  have b3 : w2.cell? ⟨w.heap.size, 3, none⟩ = some (.int .i64 0) := bx.cell 3
  have f0 := bx.frozen 0
  have f1 := bx.frozen 1
  have f2 := bx.frozen 2
  have f3 := bx.frozen 3
  have z := bx.lt
  have HB2 := Lib.hid (And.intro (HB1.out.1.trans (hb2.mono HB1.out.1.size)) bx)
  clear hb2 bx
  go_wp2_with fail
  refine bodyPost_ret (results_struct rfl rfl (load_place ((HB2.out.2.place rfl ⟨kOther, noText, p - 1, q - 1⟩).alloc _) rfl rfl rfl rfl)) rfl ?_
  have hb := HB2.out.1
  exact ⟨rfl, by go_grown⟩
theorem placeBin_any (u : Value) (hn : NodeOk w 79 u (lo + 1) (hi + 1)) :
    Calls Tryz.prog 22 #[.iface 79 u] w (Plc kBin noText lo hi w) := by
  obtain ⟨f, r, ⟨m1, m2⟩, hc⟩ := hn.pos
  obtain ⟨f', r', ⟨m1', m2'⟩, hc'⟩ := hn.end_
  obtain ⟨p, hp⟩ : ∃ p, lo + 1 = p := ⟨_, rfl⟩
  obtain ⟨q, hq⟩ : ∃ q, hi + 1 = q := ⟨_, rfl⟩
  obtain rfl : lo = p - 1 := by omega
  obtain rfl : hi = q - 1 := by omega
  rw [hp] at hc
  rw [hq] at hc'
  have HC := Lib.hid (And.intro hc hc')
  clear hn hc hc' hp hq
  have th : ∀ w, (Instr.typeAssert (.iface 79 u) 52 79 true).run Tryz.prog w = .ok (.tuple #[u, .bool true]) w := ta_hit Tryz.underlying79 _ _
  go_enter Tryz.func22, Tryz.ntmps22
  go_wp2_with fail
  refine (HC.out.1 _ (by go_grown)).mono ?_
  rintro e w1 ⟨rfl, hb1⟩
  have HB1 := Lib.hid (And.intro (below_alloc_then hb1) ((Blk.new w 29 noPlace).below hb1 (by simp)))
  clear hb1
  go_wp2_with fail
  refine (HC.out.2 _ HB1.out.1).mono ?_
  rintro e w2 ⟨rfl, hb2⟩
  have bx := HB1.out.2.below hb2 HB1.out.2.lt
  have b0 : w2.cell? ⟨w.heap.size, 0, none⟩ = some (.string ⟨#[]⟩) := bx.cell 0
  have b1 : w2.cell? ⟨w.heap.size, 1, none⟩ = some (.string ⟨#[]⟩) := bx.cell 1
  have b2 : w2.cell? ⟨w.heap.size, 2, none⟩ = some (.int .i64 0) := bx.cell 2
  have b3 : w2.cell? ⟨w.heap.size, 3, none⟩ = some (.int .i64 0) := bx.cell 3
  have f0 := bx.frozen 0
  have f1 := bx.frozen 1
  have f2 := bx.frozen 2
  have f3 := bx.frozen 3
  have z := bx.lt
  have HB2 := Lib.hid (And.intro (HB1.out.1.trans (hb2.mono HB1.out.1.size)) bx)
  clear hb2 bx
  go_wp2_with fail
  refine bodyPost_ret (results_struct rfl rfl (load_place ((HB2.out.2.place rfl ⟨kBin, noText, p - 1, q - 1⟩).alloc _) rfl rfl rfl rfl)) rfl ?_
  have hb := HB2.out.1
  exact ⟨rfl, by go_grown⟩
theorem placeIdent_any (b : Nat) (pos : Int) (nm : ByteArray) (hb : Blk w b 78 (identCells pos nm)) (hn : NodeOk w 68 (ptr b) (lo + 1) (hi + 1)) :
    Calls Tryz.prog 22 #[.iface 68 (ptr b)] w (Plc kName nm lo hi w) := by
  obtain ⟨f, r, ⟨m1, m2⟩, hc⟩ := hn.pos
  obtain ⟨f', r', ⟨m1', m2'⟩, hc'⟩ := hn.end_
  obtain ⟨p, hp⟩ : ∃ p, lo + 1 = p := ⟨_, rfl⟩
  obtain ⟨q, hq⟩ : ∃ q, hi + 1 = q := ⟨_, rfl⟩
  obtain rfl : lo = p - 1 := by omega
  obtain rfl : hi = q - 1 := by omega
  rw [hp] at hc
  rw [hq] at hc'
  have HI := Lib.hid hb
  have hbl := hb.lt
  clear hb
  have HC := Lib.hid (And.intro hc hc')
  clear hn hc hc' hp hq
  have th : ∀ w, (Instr.typeAssert (.iface 68 (ptr b)) 52 68 true).run Tryz.prog w = .ok (.tuple #[ptr b, .bool true]) w := ta_hit Tryz.underlying68 _ _
  go_enter Tryz.func22, Tryz.ntmps22
  go_wp2_with fail
  refine (HC.out.1 _ (by go_grown)).mono ?_
  rintro e w1 ⟨rfl, hb1⟩
  have HB1 := Lib.hid (And.intro (below_alloc_then hb1) ((Blk.new w 29 noPlace).below hb1 (by simp)))
  clear hb1
  go_wp2_with fail
  refine (HC.out.2 _ HB1.out.1).mono ?_
  rintro e w2 ⟨rfl, hb2⟩
  have bx := HB1.out.2.below hb2 HB1.out.2.lt
  have b0 : w2.cell? ⟨w.heap.size, 0, none⟩ = some (.string ⟨#[]⟩) := bx.cell 0
  have b1 : w2.cell? ⟨w.heap.size, 1, none⟩ = some (.string ⟨#[]⟩) := bx.cell 1
  have b2 : w2.cell? ⟨w.heap.size, 2, none⟩ = some (.int .i64 0) := bx.cell 2
  have b3 : w2.cell? ⟨w.heap.size, 3, none⟩ = some (.int .i64 0) := bx.cell 3
  have f0 := bx.frozen 0
  have f1 := bx.frozen 1
  have f2 := bx.frozen 2
  have f3 := bx.frozen 3
  have z := bx.lt
  have cn : w2.cell? ⟨b, 1, none⟩ = some (.string nm) := (HI.out.below (HB1.out.1.trans (hb2.mono HB1.out.1.size)) HI.out.lt).cell 1
  have hbl2 : b < w2.heap.size := by omega
  have HB2 := Lib.hid (And.intro (HB1.out.1.trans (hb2.mono HB1.out.1.size)) bx)
  clear hb2 bx
  go_wp2_with fail
  go_region
  go_wp2
  refine bodyPost_ret (results_struct rfl rfl (load_place (((HB2.out.2.place rfl ⟨kName, nm, p - 1, q - 1⟩).alloc _).same rfl) rfl rfl rfl rfl)) rfl ?_
  have hb := HB2.out.1
  exact ⟨rfl, by go_grown⟩
end
theorem vis_ok {ts : List Tm} {n : Nat} {x : PN} {a b : Int} {l : List PN} {r : Bool} (hv : Vis ts n x a b l r) : x.ok n → ∀ y ∈ l, y.ok n := by
  induction hv with
  | stop hsc => intro hx y hy; cases List.mem_singleton.1 hy; exact hx
  | rest hsc => intro hx y hy; cases List.mem_singleton.1 hy; exact hx
  | go hsc hy ih =>
    intro hx y hy
    rcases List.mem_cons.1 hy with rfl | hy
    · exact hx
    · obtain ⟨k, hk, e⟩ := scan_mem _ _ hsc
      exact ih (kid_node_ok hx hk e) y hy
theorem path_ok {ts : List Tm} {n : Nat} (h : ∀ t ∈ ts, TmOk t) (hn : n < ts.length) {a b : Int} : ∀ y ∈ (pathOf ts n a b).1, y.ok n := by
  intro y hy
  unfold pathOf at hy
  split at hy
  · exact vis_ok (vis_file h hn) trivial y (List.mem_reverse.1 hy)
  · cases List.mem_singleton.1 hy; trivial
section
variable {ts : List Tm} {n : Nat} {ad : Ad} {w : World}
variable (h : ∀ t ∈ ts, TmOk t) (hn : n < ts.length) (hl : ts.length ≤ 20) (hT : TreeIn w ts n ad)
include h hn hl hT
theorem placePN_any {x : PN} (hx : x.ok n) : Calls Tryz.prog 22 #[x.val ad] w (Plc (place ts n x).kind (place ts n x).text (place ts n x).lo (place ts n x).hi w) := by
  have o := pn_ok h hn hl hT hx
  have h0 := tE_lo h hn
  cases x with
  | file => exact placeOther_any (lo := plo ts .file) (hi := phi ts n .file) (by simp [plo]) (by simp [plo]) (by simp only [phi]; omega) (by simp only [phi]; omega) _ _ (by simp [PN.typ]) (by simp [PN.typ]) o
  | decl => exact placeOther_any (lo := plo ts .decl) (hi := phi ts n .decl) (by simp [plo]) (by simp [plo]) (by simp only [phi]; omega) (by simp only [phi]; omega) _ _ (by simp [PN.typ]) (by simp [PN.typ]) o
  | spec => exact placeOther_any (lo := plo ts .spec) (hi := phi ts n .spec) (by simp [plo]) (by simp [plo]) (by simp only [phi]; omega) (by simp only [phi]; omega) _ _ (by simp [PN.typ]) (by simp [PN.typ]) o
  | pkg => exact placeIdent_any (lo := plo ts .pkg) (hi := phi ts n .pkg) (by simp [plo]) (by simp [plo]) (by simp [phi]) (by simp [phi]) _ _ _ hT.pkg o
  | var => exact placeIdent_any (lo := plo ts .var) (hi := phi ts n .var) (by simp [plo]) (by simp [plo]) (by simp [phi]) (by simp [phi]) _ _ _ hT.var o
  | bin k =>
    have hk := tE_lo h (k := k) (by have := hx.2; omega)
    have hk2 := hx.2
    exact placeBin_any (lo := plo ts (.bin k)) (hi := phi ts n (.bin k)) (by simp [plo]) (by simp [plo]) (by simp only [phi]; omega) (by simp only [phi]; omega) _ o
  | term k =>
    have hk2 : k ≤ n := hx
    have hk := tE_lo h (k := k) (by omega)
    have hs := tS_eq h (k := k) (by omega)
    exact placeIdent_any (lo := plo ts (.term k)) (hi := phi ts n (.term k)) (by simp only [plo]; omega) (by simp only [plo]; omega) (by simp only [phi]; omega) (by simp only [phi]; omega) _ _ _ (hT.ident k hk2) o
end
/-- What impl.Path answers. -/
def PathTold (ts : List Tm) (n : Nat) (a b : Int) (w : World) (e : Ending) (w' : World) : Prop :=
  ∃ g c, e = .returned (.tuple #[.slice (some ⟨g, 0, none⟩) (pathOf ts n a b).1.length c, .bool (pathOf ts n a b).2]) ∧ PRow w' g ((pathOf ts n a b).1.map (place ts n)) c ∧ w.heap.size ≤ g ∧ Below w.heap.size w w'
theorem path_any (ts : List Tm) (A : Option Addr) (cap : Nat) (a b : Int) (w : World) (L : Nat) (h : TmsOk ts) (hT : TermsIn w L A ts) (hL : L ≤ w.heap.size) (h12 : Tok w 12 ⟨#[43]⟩) (h85 : Tok w 85 ⟨#[118, 97, 114]⟩) (hab : a ≤ b) (ha : -1000 ≤ a) (hb : b ≤ 90000) :
    Calls Tryz.prog 12 #[.slice A ts.length cap, .int .i64 a, .int .i64 b] w (PathTold ts (ts.length - 1) a b w) := by
  have h1 := h.2.1
  have h2 := h.2.2
  have HT := Lib.hid (And.intro h.1 (And.intro hT (And.intro h12 h85)))
  clear h hT h12 h85
  go_enter Tryz.func12, Tryz.ntmps12
  go_wp2_with fail
  refine (sumOf_any ts A cap w L HT.out.1 h2 h1 HT.out.2.1 hL).mono ?_
  rintro e w1 ⟨ad, rfl, ht1, hb1⟩
  obtain ⟨n, hn⟩ : ∃ n, ts.length - 1 = n := ⟨_, rfl⟩
  rw [hn] at ht1
  have hnl : n < ts.length := by omega
  have H1 := Lib.hid (And.intro ht1 (And.intro hb1 hn))
  clear ht1 hb1 hn
  go_wp2_with fail
  refine (enclosing_any HT.out.1 hnl h2 H1.out.1 (HT.out.2.2.1.below H1.out.2.1) (HT.out.2.2.2.below H1.out.2.1) a b hab (by omega) (by omega)).mono ?_
  rintro e w2 ⟨gl, cl, rfl, hrow, hgl, hb2⟩
  obtain ⟨xs, hxs⟩ : ∃ xs, (pathOf ts n a b).1 = xs := ⟨_, rfl⟩
  obtain ⟨ex, hex⟩ : ∃ ex, (pathOf ts n a b).2 = ex := ⟨_, rfl⟩
  have hpl := path_len (ts := ts) (n := n) (by omega) a b
  have hok := path_ok HT.out.1 hnl (a := a) (b := b)
  rw [hxs] at hrow hpl hok
  rw [hxs, hex]
  obtain ⟨M, hM⟩ : ∃ M, xs.length = M := ⟨_, rfl⟩
  rw [hM] at hrow hpl
  rw [hM]
  have H2 := Lib.hid (And.intro hrow (And.intro (H1.out.1.below hb2 (Nat.le_refl _)) (And.intro (H1.out.2.1.trans (hb2.mono H1.out.2.1.size)) (And.intro hok (And.intro hxs (And.intro hex hM))))))
  have hgl2 : gl < w2.heap.size := hrow.lt
  obtain ⟨l1, l2⟩ := hpl
  clear hrow hgl hb2 hok hxs hex hM
  go_wp2_with fail
  go_loopw [10, 26] (fun o i wr => ∃ (j g c : Nat), j ≤ M ∧ i = .int .i64 j ∧ o = .slice (some ⟨g, 0, none⟩) j c ∧ Hid (PRow wr g ((xs.take j).map (place ts n)) c ∧ w2.heap.size ≤ g ∧ Below w2.heap.size w2 wr)) (fun _ i _ => M - (intOf i).toNat)
  case atStart => exact ⟨0, w2.heap.size, 0, by omega, rfl, rfl, Row.new w2 29 4 #[] 0 rfl (by unfold maxLen; omega), Nat.le_refl _, by go_grown⟩
  case round =>
    obtain ⟨j, g, c, hj, rfl, rfl, HS⟩ := hrel
    by_cases hlt : j < M
    · obtain ⟨x, hx⟩ : ∃ x, xs[j]? = some x := ⟨_, List.getElem?_eq_getElem (by have := H2.out.2.2.2.2.2.2; omega)⟩
      have hxo : x.ok n := H2.out.2.2.2.1 x (List.mem_of_getElem? hx)
      have cx : wr.cell? ⟨gl, j, none⟩ = some (.iface x.typ (ptr (x.blk ad))) := (H2.out.1.below HS.out.2.2 hgl2).cell (by rw [List.getElem?_map, hx]; rfl)
      have q1 : (0 : Int) ≤ (j : Int) := by omega
      have q2 : (j : Int) < (M : Int) := by omega
      have hpn := placePN_any HT.out.1 hnl h2 (H2.out.2.1.below HS.out.2.2 (Nat.le_refl _)) hxo
      obtain ⟨p, hp⟩ : ∃ p, place ts n x = p := ⟨_, rfl⟩
      rw [hp] at hpn
      have HX := Lib.hid (And.intro hx (And.intro hp hpn))
      have hlen : (xs.take j).length = j := by rw [List.length_take, H2.out.2.2.2.2.2.2]; omega
      have HL := Lib.hid hlen
      clear hx hxo hp hpn hlen
      go_wp2_with fail
      refine HX.out.2.2.mono ?_
      rintro e w3 ⟨rfl, hb3⟩
      have HB := Lib.hid hb3
      clear hb3
      obtain ⟨i1, hi1, hz1, hs1, hb1⟩ := info_parts Tryz.infoPlace
      have HI := Lib.hid (And.intro hi1 (And.intro hz1 (And.intro hs1 hb1)))
      clear hi1 hz1 hs1 hb1
      go_wp2_with (at_builtin; refine wpList_append_row _ rfl (.tmp 30) (.tmp 33) 25 rfl 29 i1 _ 4 48 Tryz.underlying25 HI.out.1 HI.out.2.1 HI.out.2.2.1 HI.out.2.2.2 rfl (by decide) g c j (plCells ((xs.take j).map (place ts n))) rfl ?c1 ⟨w3.heap.size, 0, none⟩ 1 1 [.string p.kind, .string p.text, .int .i64 p.lo, .int .i64 p.hi] rfl rfl ?c3 ?c4 ?c5 ?c6 ?_)
      case c1 =>
        have := HS.out.1.below (w' := w3.alloc (.cells #[.string p.kind, .string p.text, .int .i64 p.lo, .int .i64 p.hi] 29)) (HB.out.alloc HB.out.size _)
        unfold PRow at this
        rwa [List.length_map, HL.out] at this
      case c3 => exact cells_four_new _ _ _ _ _ _
      case c4 => intro u hu; simp only [List.mem_cons, List.not_mem_nil, or_false] at hu; rcases hu with rfl | rfl | rfl | rfl <;> rfl
      case c5 => unfold maxLen; omega
      case c6 => omega
      intro g' c' w4 hrow hg hg'
      have hp : PRow w4 g' ((xs.take (j + 1)).map (place ts n)) c' := by
        rw [List.take_add_one, HX.out.1, Option.toList_some, List.map_append, List.map_singleton, HX.out.2.1]
        refine PRow.of_app ?_
        rw [List.length_map, HL.out, List.map_take]
        exact hrow
      have hsz : w2.heap.size ≤ w3.heap.size := by have := HS.out.2.2.size; have := HB.out.size; omega
      have hbl : Below w2.heap.size w2 w4 := grown_row ((HS.out.2.2.trans (HB.out.mono HS.out.2.2.size)).alloc hsz _) hg HS.out.2.1
      have HS3 := Lib.hid (And.intro hp (And.intro (show w2.heap.size ≤ g' by have := HS.out.2.1; omega) hbl))
      clear hrow hg hg' hp hbl hsz
      go_wp2_with fail
      go_roundw
      case rel => exact ⟨j + 1, _, _, by omega, by go_num, rfl, HS3⟩
      case measure => simp [intOf]; omega
    · obtain rfl : j = M := by omega
      go_wp2_with fail
      go_ret2
      obtain ⟨hrow, ht, hbw, hok, hxs, hex, hM⟩ := H2.out
      have hp := HS.out.1
      rw [List.take_of_length_le (by omega)] at hp
      rw [H1.out.2.2]
      refine ⟨g, c, ?_, ?_, Nat.le_trans hbw.size HS.out.2.1, hbw.trans (HS.out.2.2.mono hbw.size)⟩
      · rw [hxs, hex, hM]; rfl
      · rw [hxs]; exact hp
end Go.Proofs.YtakigggbecibmaaGreatFmt
