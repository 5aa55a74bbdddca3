/- For every tree of an expression that can be read, the law FnUnparened answers true and leaves its argument as it was: Unparen takes the parentheses around an expression away, and no others.
   Conditions: those of the given row and card (the token table is laid and tied to the program's text). -/
import Derived.Test.YtiidjpfjiedeiaaDoorCards
import Derived.Test.YtiidjpfjiedeiaaDoorTie
import Derived.Test.YtiidjpfjiedeiaaDoorRow
import Derived.Test.YtiidjpfjiedeiaaDoorWalkK
import Derived.Deep.DeepHandedRow
import Derived.Deep.DeepWitnessRowRef
namespace Go.Proofs.YtiidjpfjiedeiaaDoor
open Go.ChangeShapes Go.WideShapes Go.ChangeAt Go.RowKit
set_option maxRecDepth 100000

theorem own_none : ownKnob Tryd.prog.godebug = none := by kernel_rfl
theorem gTokens : Tryd.prog.globalNamed "loop.example/pub-g01465/pub/goparse_go_token.tokens" = some 0 := by kernel_rfl
theorem gTokensType : (Tryd.prog.globals[0]?).map (·.type) = some 79 := by kernel_rfl
theorem laidTokens_eq : (Rows.laid_loop_example_pub_g01465_pub_goparse_go_token_tokens : DataW Unit) = .agg (toksL.map fun s => .lit (.string s)) := rfl

theorem glob_of_laid {W : World} {l : List (String × DataW Unit)} (hm : ("loop.example/pub-g01465/pub/goparse_go_token.tokens", Rows.laid_loop_example_pub_g01465_pub_goparse_go_token_tokens) ∈ l)
    (hp : (l.all fun x => x.2.handleName?.isNone) = true) (h : laidMetH Tryd.prog l W) : Glob W := by
  rw [MakeChecks.laidMetH_plain _ _ _ hp] at h
  obtain ⟨ps, hl, _⟩ := h
  obtain ⟨g, t, cs, fuel, p, h1, h2, h3, h4⟩ := laidVars_get hl hm
  obtain rfl := Option.some.inj (gTokens.symm.trans h1)
  obtain rfl := Option.some.inj (gTokensType.symm.trans h2)
  rw [laidTokens_eq] at h4
  have hc := strs_of_array Tryd.underlying79 Tryd.underlying9 Tryd.cellsString h4
  have hcell : TokTab W := by
    intro i hi
    have h5 := World.var?_cell h1 h3 i
    rw [h5, ← Array.getElem?_toList, hc i hi]
    rfl
  refine ⟨hcell, ?_⟩
  have := hcell 0 (by omega)
  unfold World.cell? at this
  rcases Nat.lt_or_ge 0 W.heap.size with hlt | hge
  · exact hlt
  · simp only [Array.getElem?_eq_none hge] at this
    cases this

theorem contractUnparened (H : Type) (enc : TypeId × Value → H) (W : World) (base : Nat) (args : Array Value) (ds gs : List (DataW H)) (before : List MemPlace)
    (hval : ∀ (j : Nat) t v, Tryd.f3.params[j]? = some t → args[j]? = some v → Value.okWide Tryd.prog W .any base t v)
    (hW : DataW.Whole enc Tryd.prog Tryd.f3.params.toList Rows.fnUnparenedSpec.vars false W args.toList ds gs before) (hL : laidMetH Tryd.prog Rows.fnUnparenedRow.laid W) :
    Calls Tryd.prog 3 args W fun e W' => ∃ v, e = .returned v ∧ Rows.fnUnparenedSpec.post enc Tryd.prog Tryd.f3 false true false false W args v W' := by
  have hW' := hW
  have hG : Glob W := glob_of_laid (by simp [Rows.fnUnparenedRow]) (by kernel_rfl) hL
  obtain ⟨p, q, hA0, hV, rfl, hfz, hnd⟩ := hW
  have hlt := hW'.lt
  have hA : DataW.TrodAll enc Tryd.prog W 0 (fun _ => true) true Tryd.f3.params.toList args.toList ds p := hA0
  rw [Tryd.params3] at hA hval
  obtain ⟨v0, d0, hargs, rfl, h0⟩ := trodAll_one hA
  obtain rfl : args = #[v0] := by cases args; simp_all
  have hok := hval 0 24 v0 rfl rfl
  obtain ⟨cs, rfl, hcs⟩ := okWide_struct Tryd.underlying24 hok
  have h0' := h0
  obtain ⟨fuel, hf⟩ := h0
  obtain ⟨n, hn, hin⟩ := node_of _ fuel cs.toList d0 p (Nat.lt_succ_self _) hf
  obtain ⟨l⟩ := cs
  simp only at hn
  subst hn
  obtain ⟨g, t, cg, fuelg, dg, pg, rfl, hg1, hg2, hg3, hg4, rfl⟩ := trodVars_one hV
  obtain rfl := Option.some.inj (gTokens.symm.trans hg1)
  obtain rfl := Option.some.inj (gTokensType.symm.trans hg2)
  clear hA0
  refine (lawUnparened_any n W hin hG).mono fun e W' ⟨he, hb⟩ => ?_
  subst he
  have hp : ∀ x ∈ p, x.block < W.heap.size := fun x hx => hlt x (List.mem_append_left _ hx)
  have hpg : ∀ x ∈ pg, x.block < W.heap.size := fun x hx => hlt x (List.mem_append_right _ (List.mem_append_right _ hx))
  have hvar : W'.var? Tryd.prog "loop.example/pub-g01465/pub/goparse_go_token.tokens" = some cg := by
    unfold World.var? at hg3 ⊢
    rw [gTokens] at hg3 ⊢
    simp only [Option.bind_some] at hg3 ⊢
    rw [hb.block _ hG.2]
    exact hg3
  exact ⟨_, rfl, post_below (pa := p) (pv := MemPlace.row ⟨0, 0, none⟩ cg.size ++ pg) hW' (fun _ _ _ => trodAll_mk1 (shut_bool Tryd.underlying4 _))
    (fun sp hsp => trodAll_mk1 (WideElems.Trod_stays (by kernel_rfl) (by kernel_rfl) (by decide +kernel) h0' (fun x hx => hb.same (hp x hx)) (fun x hx => hsp x (List.mem_append_left _ hx))))
    (fun sp hsp => trodVars_mk1 gTokens gTokensType hvar (DataW.trod_stays (kids_book (by kernel_rfl) (t0 := 79) (by kernel_rfl)) (book_sized (by kernel_rfl)) (fun h => by cases h) ⟨by decide +kernel, book_self _⟩ hg4 (fun x hx => hb.same (hpg x hx))
      (fun x hx => hsp x (List.mem_append_right _ (List.mem_append_right _ hx)))))
    rfl hb (ok_one (by kernel_rfl) rfl (okWide_bool_mk Tryd.underlying4 _))⟩

/-- The door's own heap meets the condition. -/
theorem door_met (os : Os) (args : Array Value) : laidMetH Tryd.prog Rows.fnUnparenedRow.laid ((World.doorLaid Tryd.prog 29 os).forCall (fun _ _ => 0) ⟨#[], args, []⟩).memory :=
  laidMetH_of_parts3 (fuel := 8) (laidMet_of_run' 8 (by kernel_rfl) (by kernel_rfl)) (by kernel_rfl) (by kernel_rfl)
noncomputable abbrev arg0 : Array Value := #[.agg #[.string ⟨#[]⟩, .string ⟨#[]⟩, .slice none 0 0]]
theorem reads0 (os : Os) {H : Type} (enc : TypeId × Value → H) : ∃ x, DataW.whole enc Tryd.prog ((World.doorLaid Tryd.prog 29 os).forCall (fun _ _ => 0) ⟨#[], arg0, []⟩).memory Tryd.f3.params.toList Rows.fnUnparenedSpec.vars false arg0.toList 8 = some x :=
  ⟨([.agg [.lit (.string []), .lit (.string []), .nil]], [Rows.laid_loop_example_pub_g01465_pub_goparse_go_token_tokens], MemPlace.row ⟨0, 0, none⟩ 89), by kernel_rfl⟩

theorem liftedUnparened (os : Os) (started : os.Started) (H : Type) (enc : TypeId × Value → H) (F : Stop.Interp) :
    ReturnsInHanded {} Tryd.checked os 3 .any ((OpenSpec.ofChange Rows.fnUnparenedSpec).preRow enc Tryd.prog Tryd.f3 Rows.fnUnparenedRow.domain false Rows.fnUnparenedRow.laid) (((OpenSpec.ofChange Rows.fnUnparenedSpec).at F).post enc Tryd.prog Tryd.f3 false true false false) := by
  obtain ⟨x, hx⟩ := reads0 os enc
  refine returnsInHanded_of_row (C := Tryd.checked) (s := OpenSpec.ofChange Rows.fnUnparenedSpec) own_none started (by kernel_rfl) Tryd.func3
    (witness_row_at (enc := enc) (C := Tryd.checked) false (World.doorLaid Tryd.prog 29 os) arg0 rfl (by kernel_rfl) (by kernel_rfl) (by kernel_rfl)
      (OpenSpec.preRow_of_cond 8 hx rfl (fun k hk => by cases hk) (by kernel_rfl) (door_met os _))) ?_
  intro W base args ds gs before hval hW _ _ _ hL _ _
  exact contractUnparened H enc W base args ds gs before hval hW hL

theorem said : Rows.FnUnparenedSaid :=
  OpenClaim.holds_of_cond 3 Tryd.f3 rfl rfl rfl rfl rfl rfl rfl ⟨rfl, rfl, rfl, rfl, rfl⟩ rfl rfl rfl rfl rfl (by kernel_rfl) Tryd.func3 (by kernel_rfl)
    (of_decide_eq_true (by kernel_rfl)) (by unfold Func.isWrapper; first | (rw [if_pos (by decide +kernel)]; kernel_rfl) | (rw [if_neg (by decide +kernel)]; exact ⟨rfl, rfl⟩))
    (fun os started H enc _ F => by rw [OpenClaim.pre_eq_preRow]; exact liftedUnparened os started H enc F)

theorem plain (f : FuncId) (fn : Func) (hf : Tryd.pinned.checked.prog.funcNamed "loop.example/pub-g01465/laws.FnUnparened" = some f) (hfn : Tryd.pinned.checked.prog.funcs[f]? = some fn) :
    true = Tryd.pinned.checked.prog.looks [] ∧ ∀ (j : Nat) t, fn.params[j]? = some t → Tryd.pinned.checked.prog.wantsStandIn t = false := by
  obtain rfl : f = 3 := Option.some.inj ((show Tryd.prog.funcNamed "loop.example/pub-g01465/laws.FnUnparened" = some 3 by kernel_rfl).symm.trans hf) |>.symm
  obtain rfl : fn = Tryd.f3 := (Option.some.inj (Tryd.func3.symm.trans hfn)).symm
  refine ⟨by kernel_rfl, fun j t ht => ?_⟩
  rw [Tryd.params3] at ht
  obtain rfl : t = 24 := by simpa using Array.mem_of_getElem? ht
  exact (show Tryd.prog.wantsStandIn 24 = false by kernel_rfl)

theorem card : Rows.FnUnparenedCardSaid :=
  Claim7.holds_tied_plain_at .later [] _ _ _ _ said (fun _ h => by cases h) (by kernel_rfl) (fun _ h => by cases h) fnUnparened_row_tie rfl ⟨rfl, rfl⟩ (by kernel_rfl) rfl plain (by kernel_rfl)
#print axioms card
end Go.Proofs.YtiidjpfjiedeiaaDoor
