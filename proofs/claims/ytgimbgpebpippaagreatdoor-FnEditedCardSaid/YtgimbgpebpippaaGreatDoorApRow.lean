/- What the rows of the statements on Apply share. -/
import Derived.Test.YtgimbgpebpippaaGreatDoorCards
import Derived.Test.YtgimbgpebpippaaGreatDoorTie
import Derived.Deep.DeepHandedRow
import Derived.Deep.DeepWitnessRowRef
import Derived.ChangeMaps5
import Derived.Carry
import Derived.Test.YtgimbgpebpippaaGreatDoorRows
import Derived.Test.YtgimbgpebpippaaGreatDoorAst
import Derived.WalkKit
import Derived.ProofKit
import Derived.OpenShut
import Derived.Deep.Slices
import Derived.Deep.Strs
import Derived.OpenVars
import Derived.Below
import Derived.ChangeSame
import Derived.LaidLaws
import Derived.LaidHandle
import Derived.LaidMore
import Derived.MakeChecks
namespace Go.Proofs.YtgimbgpebpippaaGreatDoor
open Go.RowKit Go.WideShapes Go.ChangeShapes
set_option maxRecDepth 100000

section
variable {H : Type} {enc : TypeId × Value → H} {P : Program}
/-- The row's last step, where nothing that was there has turned. -/
theorem post_below {f : Func} {s : ChangeSpec} {apart fresh handsOn again : Bool} {W W' : World} {args : Array Value} {v : Value} {ds gs : List (DataW H)} {before pa pv : List MemPlace}
    (hW : DataW.Whole enc P f.params.toList s.vars apart W args.toList ds gs before)
    (hres : ∀ (b : Nat) (sp : Nat → Bool) (hd : Bool), DataW.TrodAll enc P W' b sp hd f.resultTypes.toList (v.resultList f.resultTypes.size) (s.fn H (ds ++ gs)).results [])
    (hargs : ∀ sp : Nat → Bool, (∀ p ∈ before, sp p.block = true) → DataW.TrodAll enc P W' 0 sp true f.params.toList args.toList (s.fn H (ds ++ gs)).args pa)
    (hvars : ∀ sp : Nat → Bool, (∀ p ∈ before, sp p.block = true) → DataW.TrodVars enc P W' sp s.vars (s.fn H (ds ++ gs)).vars pv)
    (hps : before = pa ++ pv) (hb : Below W.heap.size W W')
    (hok : ∀ (j : Nat) (t : TypeId) (r : Value), f.resultTypes[j]? = some t → (v.resultList f.resultTypes.size)[j]? = some r → Value.okWide P W' .any 0 t r) :
    s.post enc P f apart fresh handsOn again W args v W' := by
  have hlt : ∀ p ∈ before, p.block < W.heap.size := fun p hp => hW.lt p hp
  have hold : ∀ p ∈ before, (fun b => decide (b < W.heap.size)) p.block = true := fun p hp => by simpa using hlt p hp
  refine ⟨ds, gs, before, [], pa, pv, hW, hres _ _ _, hargs _ hold, hvars _ hold, World.keptBut_mono (fun p hp => ⟨hp, ?_⟩) (hb.frame (· ∈ before)), fun _ => ?_⟩
  · rw [hps, List.mem_append] at hp
    exact Or.inr hp
  · obtain ⟨_, _, _, _, _, hz, hn⟩ := hW
    refine ⟨hok, _, _, ([] ++ pa) ++ pv, ⟨[] ++ pa, pv, trodAll_append (hargs _ (fun _ _ => rfl)) (hres _ _ _), hvars _ (fun _ _ => rfl), rfl, ?_, ?_⟩, ?_⟩
    · intro b off hp
      have hin : MemPlace.cell b off ∈ before := by rw [hps]; simpa using hp
      rw [hb.frozen (hlt _ hin)]
      exact hz b off hin
    · intro ha
      have := hn ha
      rw [hps] at this
      simpa using this
    · intro p hp _
      rw [hps]
      simpa using hp

/-- What a variable that is laid reads as. -/
theorem laidVars_get {w : World} : ∀ {l : List (String × DataW Unit)} {ps : List MemPlace} {n : String} {d : DataW Unit}, DataW.LaidVars P w l ps → (n, d) ∈ l →
    ∃ g t cs fuel p, P.globalNamed n = some g ∧ (P.globals[g]?).map (·.type) = some t ∧ w.var? P n = some cs ∧ DataW.trod (fun _ => ()) P w 0 (fun _ => true) false fuel t cs.toList = some (d, p)
  | [], _, _, _, _, hm => by cases hm
  | (n', d') :: r, ps, n, d, h, hm => by
    obtain ⟨g, t, cs, fuel, p, q, h1, h2, h3, h4, h5, _⟩ := h
    rcases List.mem_cons.1 hm with e | hm
    · cases e; exact ⟨g, t, cs, fuel, p, h1, h2, h3, h4⟩
    · exact laidVars_get h5 hm

/-- An array of texts that reads as a list of texts holds them. -/
theorem strs_of_array {w : World} {base : Nat} {sp : Nat → Bool} {held : Bool} {fuel n : Nat} {t e : TypeId} {cs : List Value} {l : List (List UInt8)} {p : List MemPlace}
    (ht : P.underlying t = some (.array n e)) (he : P.underlying e = some .string) (hce : P.cellsOf e = 1)
    (h : DataW.trod enc P w base sp held fuel t cs = some (.agg (l.map fun s => .lit (.string s)), p)) (i : Nat) (hi : i < n) : cs[i]? = some (.string ⟨(l.getD i []).toArray⟩) := by
  obtain ⟨xs, m, rfl, hx, hlen, hn, hel⟩ := DataW.trod_array ht h
  have h1 := hel i hi
  have hxi : xs[i]? = some xs[i] := List.getElem?_eq_getElem (by omega)
  rw [hce, Nat.mul_one, hxi] at h1
  obtain ⟨s, hc, hs, _⟩ := DataW.trod_string he h1
  have e1 : cs[i]? = some (.string s) := by
    have := congrArg (·[0]?) hc
    simpa using this
  have e2 := congrArg (fun z => (z.1 : DataW H)) hx
  simp only [DataW.agg.injEq] at e2
  have e3 := congrArg (·[i]?) e2
  simp only [List.getElem?_map, hxi, hs, Option.map_some] at e3
  rw [e1]
  cases hl : l[i]? with
  | none => rw [hl] at e3; cases e3
  | some z =>
    rw [hl] at e3
    simp only [Option.map_some, Option.some.injEq, DataW.lit.injEq, Lit.string.injEq] at e3
    rw [List.getD, hl, Option.getD_some, e3]
end

theorem cells3 {w : World} {base : Nat} {a : Addr} {cs : List Value} (h : w.cells? base a 3 = some cs) : base ≤ a.block ∧ ∃ x y z, cs = [x, y, z] ∧ w.cell? (a.add 0) = some x ∧ w.cell? (a.add 1) = some y ∧ w.cell? (a.add 2) = some z := by
  unfold World.cells? at h
  split at h
  · rename_i hb
    refine ⟨hb, ?_⟩
    simp only [show List.range 3 = [0, 1, 2] from rfl, List.mapM_cons, List.mapM_nil, Option.bind_eq_bind, Option.bind_eq_some_iff, Option.pure_def, Option.some.injEq] at h
    obtain ⟨x, hx, l, ⟨y, hy, l', ⟨z, hz, l'', rfl, rfl⟩, rfl⟩, rfl⟩ := h
    exact ⟨x, y, z, rfl, hx, hy, hz⟩
  · cases h

theorem Tryz.cellsNode : Tryz.prog.cellsOf 24 = 3 := by kernel_rfl
theorem Tryz.cellsNodes : Tryz.prog.cellsOf 22 = 1 := by kernel_rfl
theorem Tryz.cellsString : Tryz.prog.cellsOf 9 = 1 := by kernel_rfl

theorem kids_of {w : World} {L b off : Nat} (hb : b < L) : ∀ (ns : List ANode) (i : Nat), (∀ j n, ns[j]? = some n → n.In w L ∧ w.cell? ⟨b, off + (i + j) * 3, none⟩ = some (.string n.kind) ∧ w.cell? ⟨b, off + (i + j) * 3 + 1, none⟩ = some (.string n.text) ∧
    w.cell? ⟨b, off + (i + j) * 3 + 2, none⟩ = some (.slice n.addr n.kids.length n.cap)) → KidsIn w L (some ⟨b, off, none⟩) i ns
  | [], _, _ => trivial
  | n :: ns, i, h => by
    obtain ⟨h0, h1, h2, h3⟩ := h 0 n rfl
    refine ⟨⟨b, off, rfl, hb, h1, h2, h3⟩, h0, kids_of hb ns (i + 1) fun j m hm => ?_⟩
    have := h (j + 1) m (by simpa using hm)
    rwa [show i + (j + 1) = i + 1 + j by omega] at this

/-- A node that can be read lies in memory as a tree. -/
theorem node_of {H : Type} {enc : TypeId × Value → H} {w : World} (k : Nat) : ∀ (fuel : Nat) (cs : List Value) (d : DataW H) (p : List MemPlace), SizeOf.sizeOf d < k →
    DataW.trod enc Tryz.prog w 0 (fun _ => true) true fuel 24 cs = some (d, p) → ∃ n : ANode, cs = [.string n.kind, .string n.text, .slice n.addr n.kids.length n.cap] ∧ n.In w w.heap.size := by
  induction k with
  | zero => intro fuel cs d p hs; omega
  | succ k ih =>
  intro fuel cs d p hs h
  obtain ⟨y0, y1, y2, m, hx, hl, h0, h1, h2⟩ := Deep.trod_struct3 Tryz.underlying24 h
  rw [Tryz.cellsNode] at hl
  obtain ⟨c0, c1, c2, rfl⟩ : ∃ c0 c1 c2, cs = [c0, c1, c2] := by
    match cs, hl with
    | [c0, c1, c2], _ => exact ⟨c0, c1, c2, rfl⟩
  simp only [Tryz.cellsString, Tryz.cellsNodes] at h0 h1 h2
  obtain ⟨s0, e0, _, hs0⟩ := DataW.trod_string Tryz.underlying9 h0
  obtain ⟨s1, e1, _, hs1⟩ := DataW.trod_string Tryz.underlying9 h1
  obtain rfl : c0 = .string s0 := by simpa using e0
  obtain rfl : c1 = .string s1 := by simpa using e1
  have hd : d = .agg [y0.1, y1.1, y2.1] := congrArg Prod.fst hx
  obtain ⟨x2, p2⟩ := y2
  have hsz : SizeOf.sizeOf x2 < k := by
    rw [hd] at hs
    simp only [DataW.agg.sizeOf_spec, List.cons.sizeOf_spec] at hs
    omega
  clear hx
  rcases Deep.open_slice Tryz.underlying22 h2 with ⟨e2, _⟩ | ⟨a, len, cap, m', n', D, Pl, e2, hb, hlc, hcm, hm', hx2, hel⟩
  · obtain rfl : c2 = .slice none 0 0 := by simpa using e2
    exact ⟨.mk s0 s1 none 0 [], rfl, hs0, hs1, Nat.le_refl _, Nat.zero_le _, trivial⟩
  · obtain rfl : c2 = .slice (some a) len cap := by simpa using e2
    simp only [if_true] at hm'
    rw [hm'] at hel
    rw [Tryz.cellsNode] at hel
    have hD : ∀ i, i < len → SizeOf.sizeOf (D i) < k := by
      intro i hi
      have e := congrArg Prod.fst hx2
      simp only at e
      have hmem : D i ∈ (List.range len).map D := List.mem_map_of_mem (List.mem_range.2 hi)
      have := List.sizeOf_lt_of_mem hmem
      rw [e] at hsz
      simp only [DataW.slice.sizeOf_spec] at hsz
      omega
    have key : ∀ i, i < len → ∃ n : ANode, n.In w w.heap.size ∧ w.cell? ((a.add (i * 3)).add 0) = some (.string n.kind) ∧ w.cell? ((a.add (i * 3)).add 1) = some (.string n.text) ∧ w.cell? ((a.add (i * 3)).add 2) = some (.slice n.addr n.kids.length n.cap) := by
      intro i hi
      obtain ⟨cs', hc, ht⟩ := hel i (by omega)
      obtain ⟨n, hn, hin⟩ := ih _ _ _ _ (hD i hi) ht
      obtain ⟨_, x, y, z, hcs, hx, hy, hz⟩ := cells3 hc
      rw [hn] at hcs
      injection hcs with q1 q2
      injection q2 with q2 q3
      injection q3 with q3 _
      exact ⟨n, hin, by rw [hx, q1], by rw [hy, q2], by rw [hz, q3]⟩
    rcases Nat.eq_zero_or_pos len with hz | hpos
    · subst hz
      exact ⟨.mk s0 s1 (some a) cap [], rfl, hs0, hs1, Nat.zero_le _, hcm, trivial⟩
    · obtain ⟨b, off, spot⟩ := a
      obtain rfl : spot = none := by
        obtain ⟨n, _, hc, _⟩ := key 0 hpos
        simpa [Addr.add] using World.cell?_spot hc
      haveI : Inhabited ANode := ⟨.mk s0 s1 none 0 []⟩
      obtain ⟨f, hf⟩ := Deep.choose_lt (α := ANode) (p := fun i n => n.In w w.heap.size ∧ w.cell? (((⟨b, off, none⟩ : Addr).add (i * 3)).add 0) = some (.string n.kind) ∧ w.cell? (((⟨b, off, none⟩ : Addr).add (i * 3)).add 1) = some (.string n.text) ∧ w.cell? (((⟨b, off, none⟩ : Addr).add (i * 3)).add 2) = some (.slice n.addr n.kids.length n.cap)) key
      have hlb : b < w.heap.size := by
        obtain ⟨_, hc, _⟩ := hf 0 hpos
        rw [Deep.add_add, Go.WideShapes.add_plain] at hc
        unfold World.cell? at hc
        rcases Nat.lt_or_ge b w.heap.size with hlt | hge
        · exact hlt
        · simp only [Array.getElem?_eq_none hge] at hc
          cases hc
      have hln : ((List.range len).map f).length = len := by simp
      refine ⟨.mk s0 s1 (some ⟨b, off, none⟩) cap ((List.range len).map f), ?_, hs0, hs1, by rw [hln]; exact hlc, hcm, kids_of hlb _ 0 ?_⟩
      · show _ = [_, _, Value.slice _ ((List.range len).map f).length _]
        rw [hln]; rfl
      · intro j n hj
        have hjl : j < len := by
          rcases Nat.lt_or_ge j len with h | h
          · exact h
          · rw [List.getElem?_eq_none (by rw [hln]; exact h)] at hj; cases hj
        obtain rfl : f j = n := by
          simpa [hjl] using hj
        obtain ⟨g0, g1, g2, g3⟩ := hf j hjl
        simp only [Go.WideShapes.add_plain] at g1 g2 g3
        rw [Nat.zero_add]
        exact ⟨g0, g1, by rwa [Nat.add_assoc], by rwa [Nat.add_assoc]⟩
end Go.Proofs.YtgimbgpebpippaaGreatDoor
namespace Go.Proofs.YtgimbgpebpippaaGreatDoor
open Go.ChangeShapes Go.WideShapes Go.ChangeAt Go.RowKit
set_option maxRecDepth 100000

theorem own_none : ownKnob Tryz.prog.godebug = none := by kernel_rfl
theorem gTokens : Tryz.prog.globalNamed "loop.example/pub-g01465/pub/goparse_go_token.tokens" = some 0 := by kernel_rfl
theorem gTokensType : (Tryz.prog.globals[0]?).map (·.type) = some 316 := by kernel_rfl
theorem laidTokens_eq : (Rows.laid_loop_example_pub_g01465_pub_goparse_go_token_tokens : DataW Unit) = .agg (toksL.map fun s => .lit (.string s)) := rfl

theorem glob_of_laid {W : World} {l : List (String × DataW Unit)} (hm : ("loop.example/pub-g01465/pub/goparse_go_token.tokens", Rows.laid_loop_example_pub_g01465_pub_goparse_go_token_tokens) ∈ l)
    (hp : (l.all fun x => x.2.handleName?.isNone) = true) (h : laidMetH Tryz.prog l W) : Glob W := by
  rw [MakeChecks.laidMetH_plain _ _ _ hp] at h
  obtain ⟨ps, hl, _⟩ := h
  obtain ⟨g, t, cs, fuel, p, h1, h2, h3, h4⟩ := laidVars_get hl hm
  obtain rfl := Option.some.inj (gTokens.symm.trans h1)
  obtain rfl := Option.some.inj (gTokensType.symm.trans h2)
  rw [laidTokens_eq] at h4
  have hc := strs_of_array Tryz.underlying316 Tryz.underlying9 Tryz.cellsString h4
  have hcell : TokTab W := by
    intro i hi
    have h5 := World.var?_cell h1 h3 i
    rw [h5, ← Array.getElem?_toList, hc i hi]
    rfl
  refine ⟨hcell, ?_⟩
  have := hcell 0 (by omega)
  unfold World.cell? at this
  rcases Nat.lt_or_ge 0 W.heap.size with hlt | hge
  · exact hlt
  · simp only [Array.getElem?_eq_none hge] at this
    cases this
end Go.Proofs.YtgimbgpebpippaaGreatDoor
