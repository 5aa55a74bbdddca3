/- For every tree that can be read, all names and both ways the law FnRenamed answers true and leaves its arguments as they were: names that are replaced, ahead of what is below them or behind it, are other ones, wherever they stand.
   Conditions: those of the given row and card (the token table is laid and tied to the program's text). -/
import Derived.Test.YtgimbgpebpippaaGreatDoorApRow
import Derived.Test.YtgimbgpebpippaaGreatDoorApFnRenamedFc
import Derived.Test.YtgimbgpebpippaaGreatDoorRqLr
namespace Go.Proofs.YtgimbgpebpippaaGreatDoor
open Go.ChangeShapes Go.WideShapes Go.ChangeAt Go.RowKit Go.ChangeMaps
set_option maxRecDepth 100000

theorem contractFnRenamed (H : Type) (enc : TypeId × Value → H) (W : World) (base : Nat) (args : Array Value) (ds gs : List (DataW H)) (before : List MemPlace)
    (hval : ∀ (j : Nat) t v, Tryz.f7.params[j]? = some t → args[j]? = some v → Value.okWide Tryz.prog W .any base t v)
    (hW : DataW.Whole enc Tryz.prog Tryz.f7.params.toList Rows.fnRenamedSpec.vars false W args.toList ds gs before) (hL : laidMetH Tryz.prog Rows.fnRenamedRow.laid W) :
    Calls Tryz.prog 7 args W fun e W' => ∃ v, e = .returned v ∧ Rows.fnRenamedSpec.post enc Tryz.prog Tryz.f7 false true false false W args v W' := by
  have hW' := hW
  have hG : Glob W := glob_of_laid (by simp [Rows.fnRenamedRow]) (by kernel_rfl) hL
  obtain ⟨p, q, hA0, hV, rfl, hfz, hnd⟩ := hW
  have hlt := hW'.lt
  have hA : DataW.TrodAll enc Tryz.prog W 0 (fun _ => true) true Tryz.f7.params.toList args.toList ds p := hA0
  rw [Tryz.params7] at hA hval
  obtain ⟨v0, v1, v2, v3, d0, d1, d2, d3, p0, p1, p2, p3, rfl, rfl, rfl, h0, h1, h2, h3⟩ := trodAll_four hA
  have hok := hval 0 24 v0 rfl rfl
  obtain ⟨cs, rfl, hcs⟩ := okWide_struct Tryz.underlying24 hok
  obtain ⟨s1, rfl, rfl, rfl, hs1⟩ := open_string Tryz.underlying9 (hval 1 9 v1 rfl rfl) h1
  obtain ⟨s2, rfl, rfl, rfl, hs2⟩ := open_string Tryz.underlying9 (hval 2 9 v2 rfl rfl) h2
  obtain ⟨b3, rfl, rfl, rfl⟩ := open_bool Tryz.underlying4 (hval 3 4 v3 rfl rfl) h3
  have h0' := h0
  obtain ⟨fuel, hf⟩ := h0
  obtain ⟨n, hn, hin⟩ := node_of _ fuel cs.toList d0 p0 (Nat.lt_succ_self _) hf
  obtain ⟨l⟩ := cs
  simp only at hn
  subst hn
  obtain ⟨g, t, cg, fuelg, dg, pg, rfl, hg1, hg2, hg3, hg4, rfl⟩ := trodVars_one hV
  obtain rfl := Option.some.inj (gTokens.symm.trans hg1)
  obtain rfl := Option.some.inj (gTokensType.symm.trans hg2)
  clear hA0
  refine (lawFnRenamed_any n s1 s2 b3 W hin hG hs2).mono fun e W' ⟨he, hb⟩ => ?_
  subst he
  have hp : ∀ x ∈ p0, x.block < W.heap.size := fun x hx => hlt x (by simp [hx])
  have hpg : ∀ x ∈ pg, x.block < W.heap.size := fun x hx => hlt x (by simp [hx])
  have hvar : W'.var? Tryz.prog "loop.example/pub-g01465/pub/goparse_go_token.tokens" = some cg := by
    unfold World.var? at hg3 ⊢
    rw [gTokens] at hg3 ⊢
    simp only [Option.bind_some] at hg3 ⊢
    rw [hb.block _ hG.2]
    exact hg3
  exact ⟨_, rfl, post_below (pa := p0 ++ ([] ++ ([] ++ ([])))) (pv := MemPlace.row ⟨0, 0, none⟩ cg.size ++ pg) hW' (fun _ _ _ => trodAll_mk1 (shut_bool Tryz.underlying4 _))
    (fun sp hsp => trodAll_mk4 (WideElems.Trod_stays (by kernel_rfl) (by kernel_rfl) (by decide +kernel) h0' (fun x hx => hb.same (hp x hx)) (fun x hx => hsp x (by simp [hx]))) (shut_string Tryz.underlying9 hs1) (shut_string Tryz.underlying9 hs2) (shut_bool Tryz.underlying4 b3))
    (fun sp hsp => trodVars_mk1 gTokens gTokensType hvar (DataW.trod_stays (kids_book (by kernel_rfl) (t0 := 316) (by kernel_rfl)) (book_sized (by kernel_rfl)) (fun h => by cases h) ⟨by decide +kernel, book_self _⟩ hg4 (fun x hx => hb.same (hpg x hx))
      (fun x hx => hsp x (by simp [hx]))))
    (by simp) hb (ok_one (by kernel_rfl) rfl (okWide_bool_mk Tryz.underlying4 _))⟩

/-- The door's own heap meets the condition. -/
theorem doorFnRenamed_met (os : Os) (args : Array Value) : laidMetH Tryz.prog Rows.fnRenamedRow.laid ((World.doorLaid Tryz.prog 29 os).forCall (fun _ _ => 0) ⟨#[], args, []⟩).memory :=
  laidMetH_of_parts3 (fuel := 8) (laidMet_of_run' 8 (by kernel_rfl) (by kernel_rfl)) (by kernel_rfl) (by kernel_rfl)
noncomputable abbrev argFnRenamed : Array Value := #[.agg #[.string ⟨#[]⟩, .string ⟨#[]⟩, .slice none 0 0], .string ⟨#[]⟩, .string ⟨#[]⟩, .bool false]
theorem readsFnRenamed (os : Os) {H : Type} (enc : TypeId × Value → H) : ∃ x, DataW.whole enc Tryz.prog ((World.doorLaid Tryz.prog 29 os).forCall (fun _ _ => 0) ⟨#[], argFnRenamed, []⟩).memory Tryz.f7.params.toList Rows.fnRenamedSpec.vars false argFnRenamed.toList 8 = some x :=
  ⟨([.agg [.lit (.string []), .lit (.string []), .nil], .lit (.string []), .lit (.string []), .lit (.bool false)], [Rows.laid_loop_example_pub_g01465_pub_goparse_go_token_tokens], MemPlace.row ⟨0, 0, none⟩ 89), by kernel_rfl⟩

theorem liftedFnRenamed (os : Os) (started : os.Started) (H : Type) (enc : TypeId × Value → H) (F : Stop.Interp) :
    ReturnsInHanded {} Tryz.checked os 7 .any ((OpenSpec.ofChange Rows.fnRenamedSpec).preRow enc Tryz.prog Tryz.f7 Rows.fnRenamedRow.domain false Rows.fnRenamedRow.laid) (((OpenSpec.ofChange Rows.fnRenamedSpec).at F).post enc Tryz.prog Tryz.f7 false true false false) := by
  obtain ⟨x, hx⟩ := readsFnRenamed os enc
  refine returnsInHanded_of_row (C := Tryz.checked) (s := OpenSpec.ofChange Rows.fnRenamedSpec) own_none started (by kernel_rfl) Tryz.func7
    (witness_row_at (enc := enc) (C := Tryz.checked) false (World.doorLaid Tryz.prog 29 os) argFnRenamed rfl (by kernel_rfl) (by kernel_rfl) (by kernel_rfl)
      (OpenSpec.preRow_of_cond 8 hx rfl (fun k hk => by cases hk) (by kernel_rfl) (doorFnRenamed_met os _))) ?_
  intro W base args ds gs before hval hW _ _ _ hL _ _
  exact contractFnRenamed H enc W base args ds gs before hval hW hL

theorem saidFnRenamed : Rows.FnRenamedSaid :=
  OpenClaim.holds_of_cond 7 Tryz.f7 rfl rfl rfl rfl rfl rfl rfl ⟨rfl, rfl, rfl, rfl, rfl⟩ rfl rfl rfl rfl rfl (by kernel_rfl) Tryz.func7 closedFnRenamed
    (of_decide_eq_true (by kernel_rfl)) (by unfold Func.isWrapper; first | (rw [if_pos (by decide +kernel)]; kernel_rfl) | (rw [if_neg (by decide +kernel)]; exact ⟨rfl, rfl⟩))
    (fun os started H enc _ F => by rw [OpenClaim.pre_eq_preRow]; exact liftedFnRenamed os started H enc F)

theorem plainFnRenamed (f : FuncId) (fn : Func) (hf : Tryz.pinned.checked.prog.funcNamed "loop.example/pub-g01465/laws.FnRenamed" = some f) (hfn : Tryz.pinned.checked.prog.funcs[f]? = some fn) :
    true = Tryz.pinned.checked.prog.looks [] ∧ ∀ (j : Nat) t, fn.params[j]? = some t → Tryz.pinned.checked.prog.wantsStandIn t = false := by
  obtain rfl : f = 7 := Option.some.inj ((show Tryz.prog.funcNamed "loop.example/pub-g01465/laws.FnRenamed" = some 7 by kernel_rfl).symm.trans hf) |>.symm
  obtain rfl : fn = Tryz.f7 := (Option.some.inj (Tryz.func7.symm.trans hfn)).symm
  refine ⟨by kernel_rfl, fun j t ht => ?_⟩
  rw [Tryz.params7] at ht
  have hm := Array.mem_of_getElem? ht
  simp only [Array.mem_def, List.mem_cons, List.not_mem_nil, or_false] at hm
  rcases hm with rfl | rfl | rfl | rfl
  · exact (show Tryz.prog.wantsStandIn 24 = false by kernel_rfl)
  · exact (show Tryz.prog.wantsStandIn 9 = false by kernel_rfl)
  · exact (show Tryz.prog.wantsStandIn 9 = false by kernel_rfl)
  · exact (show Tryz.prog.wantsStandIn 4 = false by kernel_rfl)

theorem cardFnRenamed : Rows.FnRenamedCardSaid :=
  Claim7.holds_tied_plain_at .later [] _ _ _ _ saidFnRenamed (fun _ h => by cases h) (by kernel_rfl) (fun _ h => by cases h) fnRenamed_row_tie rfl ⟨rfl, rfl⟩ (by kernel_rfl) rfl plainFnRenamed (by kernel_rfl)
#print axioms cardFnRenamed
end Go.Proofs.YtgimbgpebpippaaGreatDoor
