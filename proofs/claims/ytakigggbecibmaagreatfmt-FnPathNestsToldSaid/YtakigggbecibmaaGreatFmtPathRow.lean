/- What the rows of the path laws want beside their walks: an argument that is a list of terms, opened; the tokens' table out of what is laid; the row's last step. -/
import Derived.Test.YtakigggbecibmaaGreatFmtRows
import Derived.Test.YtakigggbecibmaaGreatFmtPathY
import Derived.ProofKit
import Derived.OpenShut
import Derived.Deep.Slices
import Derived.Deep.Strs
import Derived.OpenVars
import Derived.ChangeSame
import Derived.LaidLaws
import Derived.LaidHandle
import Derived.LaidMore
import Derived.MakeChecks
namespace Go.Proofs.YtakigggbecibmaaGreatFmt
open Go.RowKit Go.WideShapes Go.ChangeShapes
set_option maxRecDepth 100000

section
variable {H : Type} {enc : TypeId × Value → H} {P : Program}
/-- The row's last step, where nothing that was there has turned. -/
theorem post_below {f : Func} {s : ChangeSpec} {apart fresh handsOn again : Bool} {W W' : World} {args : Array Value} {v : Value} {ds gs : List (DataW H)} {before pa pv : List MemPlace}
    (hW : DataW.Whole enc P f.params.toList s.vars apart W args.toList ds gs before)
    (hres : ∀ (b : Nat) (sp : Nat → Bool) (hd : Bool), DataW.TrodAll enc P W' b sp hd f.resultTypes.toList (v.resultList f.resultTypes.size) (s.fn H (ds ++ gs)).results [])
    (hargs : ∀ sp : Nat → Bool, (∀ p ∈ before, sp p.block = true) → DataW.TrodAll enc P W' 0 sp true f.params.toList args.toList (s.fn H (ds ++ gs)).args pa)
    (hvars : ∀ sp : Nat → Bool, (∀ p ∈ before, sp p.block = true) → DataW.TrodVars enc P W' sp s.vars (s.fn H (ds ++ gs)).vars pv)
    (hps : before = pa ++ pv) (hb : Below W.heap.size W W')
    (hok : ∀ (j : Nat) (t : TypeId) (r : Value), f.resultTypes[j]? = some t → (v.resultList f.resultTypes.size)[j]? = some r → Value.okWide P W' .any 0 t r) :
    s.post enc P f apart fresh handsOn again W args v W' := by
  have hlt : ∀ p ∈ before, p.block < W.heap.size := fun p hp => hW.lt p hp
  have hold : ∀ p ∈ before, (fun b => decide (b < W.heap.size)) p.block = true := fun p hp => by simpa using hlt p hp
  refine ⟨ds, gs, before, [], pa, pv, hW, hres _ _ _, hargs _ hold, hvars _ hold, World.keptBut_mono (fun p hp => ⟨hp, ?_⟩) (hb.frame (· ∈ before)), fun _ => ?_⟩
  · rw [hps, List.mem_append] at hp
    exact Or.inr hp
  · obtain ⟨_, _, _, _, _, hz, hn⟩ := hW
    refine ⟨hok, _, _, ([] ++ pa) ++ pv, ⟨[] ++ pa, pv, trodAll_append (hargs _ (fun _ _ => rfl)) (hres _ _ _), hvars _ (fun _ _ => rfl), rfl, ?_, ?_⟩, ?_⟩
    · intro b off hp
      have hin : MemPlace.cell b off ∈ before := by rw [hps]; simpa using hp
      rw [hb.frozen (hlt _ hin)]
      exact hz b off hin
    · intro ha
      have := hn ha
      rw [hps] at this
      simpa using this
    · intro p hp _
      rw [hps]
      simpa using hp

/-- What a variable that is laid reads as. -/
theorem laidVars_get {w : World} : ∀ {l : List (String × DataW Unit)} {ps : List MemPlace} {n : String} {d : DataW Unit}, DataW.LaidVars P w l ps → (n, d) ∈ l →
    ∃ g t cs fuel p, P.globalNamed n = some g ∧ (P.globals[g]?).map (·.type) = some t ∧ w.var? P n = some cs ∧ DataW.trod (fun _ => ()) P w 0 (fun _ => true) false fuel t cs.toList = some (d, p)
  | [], _, _, _, _, hm => by cases hm
  | (n', d') :: r, ps, n, d, h, hm => by
    obtain ⟨g, t, cs, fuel, p, q, h1, h2, h3, h4, h5, _⟩ := h
    rcases List.mem_cons.1 hm with e | hm
    · cases e; exact ⟨g, t, cs, fuel, p, h1, h2, h3, h4⟩
    · exact laidVars_get h5 hm

/-- An array of texts that reads as a list of texts holds them. -/
theorem strs_of_array {w : World} {base : Nat} {sp : Nat → Bool} {held : Bool} {fuel n : Nat} {t e : TypeId} {cs : List Value} {l : List (List UInt8)} {p : List MemPlace}
    (ht : P.underlying t = some (.array n e)) (he : P.underlying e = some .string) (hce : P.cellsOf e = 1)
    (h : DataW.trod enc P w base sp held fuel t cs = some (.agg (l.map fun s => .lit (.string s)), p)) (i : Nat) (hi : i < n) : cs[i]? = some (.string ⟨(l.getD i []).toArray⟩) := by
  obtain ⟨xs, m, rfl, hx, hlen, hn, hel⟩ := DataW.trod_array ht h
  have h1 := hel i hi
  have hxi : xs[i]? = some xs[i] := List.getElem?_eq_getElem (by omega)
  rw [hce, Nat.mul_one, hxi] at h1
  obtain ⟨s, hc, hs, _⟩ := DataW.trod_string he h1
  have e1 : cs[i]? = some (.string s) := by
    have := congrArg (·[0]?) hc
    simpa using this
  have e2 := congrArg (fun z => (z.1 : DataW H)) hx
  simp only [DataW.agg.injEq] at e2
  have e3 := congrArg (·[i]?) e2
  simp only [List.getElem?_map, hxi, hs, Option.map_some] at e3
  rw [e1]
  cases hl : l[i]? with
  | none => rw [hl] at e3; cases e3
  | some z =>
    rw [hl] at e3
    simp only [Option.map_some, Option.some.injEq, DataW.lit.injEq, Lit.string.injEq] at e3
    rw [List.getD, hl, Option.getD_some, e3]
end

theorem cells3 {w : World} {base : Nat} {a : Addr} {cs : List Value} (h : w.cells? base a 3 = some cs) : base ≤ a.block ∧ ∃ x y z, cs = [x, y, z] ∧ w.cell? (a.add 0) = some x ∧ w.cell? (a.add 1) = some y ∧ w.cell? (a.add 2) = some z := by
  unfold World.cells? at h
  split at h
  · rename_i hb
    refine ⟨hb, ?_⟩
    simp only [show List.range 3 = [0, 1, 2] from rfl, List.mapM_cons, List.mapM_nil, Option.bind_eq_bind, Option.bind_eq_some_iff, Option.pure_def, Option.some.injEq] at h
    obtain ⟨x, hx, l, ⟨y, hy, l', ⟨z, hz, l'', rfl, rfl⟩, rfl⟩, rfl⟩ := h
    exact ⟨x, y, z, rfl, hx, hy, hz⟩
  · cases h

theorem Tryz.cellsTerm : Tryz.prog.cellsOf 43 = 3 := by kernel_rfl
theorem Tryz.cellsTerms : Tryz.prog.cellsOf 22 = 1 := by kernel_rfl
theorem Tryz.cellsString : Tryz.prog.cellsOf 9 = 1 := by kernel_rfl
theorem Tryz.cellsInt64 : Tryz.prog.cellsOf 2 = 1 := by kernel_rfl

/-- Terms that can be read lie in memory. -/
theorem terms_of {H : Type} {enc : TypeId × Value → H} {w : World} {fuel : Nat} {c : Value} {d : DataW H} {p : List MemPlace} (h : DataW.trod enc Tryz.prog w 0 (fun _ => true) true fuel 22 [c] = some (d, p)) :
    ∃ A cap ts, c = .slice A (ts : List Tm).length cap ∧ TermsIn w w.heap.size A ts := by
  rcases Deep.open_slice Tryz.underlying22 h with ⟨e2, _⟩ | ⟨a, len, cap, m', n', D, Pl, e2, hb, hlc, hcm, hm', hx2, hel⟩
  · obtain rfl : c = .slice none 0 0 := by simpa using e2
    exact ⟨none, 0, [], rfl, ⟨fun i hi => by simp at hi⟩⟩
  · obtain rfl : c = .slice (some a) len cap := by simpa using e2
    simp only [if_true] at hm'
    rw [hm'] at hel
    rw [Tryz.cellsTerm] at hel
    have key : ∀ i, i < len → ∃ t : Tm, w.cell? ((a.add (i * 3)).add 0) = some (.string t.name) ∧ w.cell? ((a.add (i * 3)).add 1) = some (.int .i64 t.before) ∧ w.cell? ((a.add (i * 3)).add 2) = some (.int .i64 t.after) := by
      intro i hi
      obtain ⟨cs', hc, ht⟩ := hel i (by omega)
      obtain ⟨_, x, y, z, hcs, hx, hy, hz⟩ := cells3 hc
      subst hcs
      obtain ⟨y0, y1, y2, m, _, _, h0, h1, h2⟩ := Deep.trod_struct3 Tryz.underlying43 ht
      simp only [Tryz.cellsString, Tryz.cellsInt64] at h0 h1 h2
      obtain ⟨s0, e0, _, _⟩ := DataW.trod_string Tryz.underlying9 h0
      obtain ⟨n1, e1, _, _⟩ := DataW.trod_int Tryz.underlying2 h1
      obtain ⟨n2, e2, _, _⟩ := DataW.trod_int Tryz.underlying2 h2
      obtain rfl : x = .string s0 := by simpa using e0
      obtain rfl : y = .int .i64 n1 := by simpa using e1
      obtain rfl : z = .int .i64 n2 := by simpa using e2
      exact ⟨⟨s0, n1, n2⟩, hx, hy, hz⟩
    rcases Nat.eq_zero_or_pos len with hz | hpos
    · subst hz
      exact ⟨some a, cap, [], rfl, ⟨fun i hi => by simp at hi⟩⟩
    · obtain ⟨b, off, spot⟩ := a
      obtain rfl : spot = none := by
        obtain ⟨t, hc, _⟩ := key 0 hpos
        simpa [Addr.add] using World.cell?_spot hc
      haveI : Inhabited Tm := ⟨⟨⟨#[]⟩, 0, 0⟩⟩
      obtain ⟨f, hf⟩ := Deep.choose_lt (α := Tm) (p := fun i t => w.cell? (((⟨b, off, none⟩ : Addr).add (i * 3)).add 0) = some (.string t.name) ∧ w.cell? (((⟨b, off, none⟩ : Addr).add (i * 3)).add 1) = some (.int .i64 t.before) ∧ w.cell? (((⟨b, off, none⟩ : Addr).add (i * 3)).add 2) = some (.int .i64 t.after)) key
      have hlb : b < w.heap.size := by
        obtain ⟨hc, _⟩ := hf 0 hpos
        rw [Deep.add_add, Go.WideShapes.add_plain] at hc
        unfold World.cell? at hc
        rcases Nat.lt_or_ge b w.heap.size with hlt | hge
        · exact hlt
        · simp only [Array.getElem?_eq_none hge] at hc
          cases hc
      have hln : ((List.range len).map f).length = len := by simp
      refine ⟨some ⟨b, off, none⟩, cap, (List.range len).map f, by rw [hln], ⟨fun i hi => ?_⟩⟩
      rw [hln] at hi
      have et : tm ((List.range len).map f) i = f i := by
        unfold tm
        rw [List.getD_eq_getElem?_getD, List.getElem?_map, List.getElem?_range hi]
        rfl
      obtain ⟨g0, g1, g2⟩ := hf i hi
      simp only [Go.WideShapes.add_plain] at g0 g1 g2
      rw [et]
      exact ⟨b, off, rfl, hlb, g0, g1, g2⟩

theorem own_none : ownKnob Tryz.prog.godebug = none := by kernel_rfl
theorem gTokens : Tryz.prog.globalNamed "loop.example/pub-g01465/pub/goparse_go_token.tokens" = some 0 := by kernel_rfl
theorem gTokensType : (Tryz.prog.globals[0]?).map (·.type) = some 231 := by kernel_rfl
theorem laidTokens_eq : ∃ l : List (List UInt8), (Rows.laid_loop_example_pub_g01465_pub_goparse_go_token_tokens : DataW Unit) = .agg (l.map fun s => .lit (.string s)) ∧ l.getD 12 [] = [43] ∧ l.getD 85 [] = [118, 97, 114] :=
  ⟨[[73, 76, 76, 69, 71, 65, 76], [69, 79, 70], [67, 79, 77, 77, 69, 78, 84], [], [73, 68, 69, 78, 84], [73, 78, 84], [70, 76, 79, 65, 84], [73, 77, 65, 71], [67, 72, 65, 82], [83, 84, 82, 73, 78, 71], [], [], [43], [45], [42], [47], [37], [38], [124], [94], [60, 60], [62, 62], [38, 94], [43, 61], [45, 61], [42, 61], [47, 61], [37, 61], [38, 61], [124, 61], [94, 61], [60, 60, 61], [62, 62, 61], [38, 94, 61], [38, 38], [124, 124], [60, 45], [43, 43], [45, 45], [61, 61], [60], [62], [61], [33], [33, 61], [60, 61], [62, 61], [58, 61], [46, 46, 46], [40], [91], [123], [44], [46], [41], [93], [125], [59], [58], [], [], [98, 114, 101, 97, 107], [99, 97, 115, 101], [99, 104, 97, 110], [99, 111, 110, 115, 116], [99, 111, 110, 116, 105, 110, 117, 101], [100, 101, 102, 97, 117, 108, 116], [100, 101, 102, 101, 114], [101, 108, 115, 101], [102, 97, 108, 108, 116, 104, 114, 111, 117, 103, 104], [102, 111, 114], [102, 117, 110, 99], [103, 111], [103, 111, 116, 111], [105, 102], [105, 109, 112, 111, 114, 116], [105, 110, 116, 101, 114, 102, 97, 99, 101], [109, 97, 112], [112, 97, 99, 107, 97, 103, 101], [114, 97, 110, 103, 101], [114, 101, 116, 117, 114, 110], [115, 101, 108, 101, 99, 116], [115, 116, 114, 117, 99, 116], [115, 119, 105, 116, 99, 104], [116, 121, 112, 101], [118, 97, 114], [], [], [126]], rfl, rfl, rfl⟩
theorem toks_of_laid {W : World} {l : List (String × DataW Unit)} (hm : ("loop.example/pub-g01465/pub/goparse_go_token.tokens", Rows.laid_loop_example_pub_g01465_pub_goparse_go_token_tokens) ∈ l)
    (hp : (l.all fun x => x.2.handleName?.isNone) = true) (h : laidMetH Tryz.prog l W) : Tok W 12 ⟨#[43]⟩ ∧ Tok W 85 ⟨#[118, 97, 114]⟩ := by
  rw [MakeChecks.laidMetH_plain _ _ _ hp] at h
  obtain ⟨ps, hl, _⟩ := h
  obtain ⟨g, t, cs, fuel, p, h1, h2, h3, h4⟩ := laidVars_get hl hm
  obtain rfl := Option.some.inj (gTokens.symm.trans h1)
  obtain rfl := Option.some.inj (gTokensType.symm.trans h2)
  obtain ⟨tl, e1, e2, e3⟩ := laidTokens_eq
  rw [e1] at h4
  have hc := strs_of_array Tryz.underlying231 Tryz.underlying9 Tryz.cellsString h4
  have hcell : ∀ i, i < 89 → W.cell? ⟨0, i, none⟩ = some (.string ⟨(tl.getD i []).toArray⟩) := by
    intro i hi
    have h5 := World.var?_cell h1 h3 i
    rw [h5, ← Array.getElem?_toList, hc i hi]
  have hlt : 0 < W.heap.size := by
    have := hcell 0 (by omega)
    unfold World.cell? at this
    rcases Nat.lt_or_ge 0 W.heap.size with hlt | hge
    · exact hlt
    · simp only [Array.getElem?_eq_none hge] at this
      cases this
  have c12 := hcell 12 (by omega)
  have c85 := hcell 85 (by omega)
  rw [e2] at c12
  rw [e3] at c85
  exact ⟨⟨c12, hlt⟩, ⟨c85, hlt⟩⟩
end Go.Proofs.YtakigggbecibmaaGreatFmt
