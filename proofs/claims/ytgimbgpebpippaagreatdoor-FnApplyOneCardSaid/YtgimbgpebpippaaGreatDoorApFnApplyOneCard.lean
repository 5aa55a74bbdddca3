/- For every tree that can be read, every text, number and Boolean, the law FnApplyOne answers true and leaves its arguments as they were: with one of the functions alone the calls of this one are the same.
   Conditions: those of the given row and card (the token table is laid and tied to the program's text). -/
import Derived.Test.YtgimbgpebpippaaGreatDoorApRow
import Derived.Test.YtgimbgpebpippaaGreatDoorApFnApplyOneFc
import Derived.Test.YtgimbgpebpippaaGreatDoorApLwOne
namespace Go.Proofs.YtgimbgpebpippaaGreatDoor
open Go.ChangeShapes Go.WideShapes Go.ChangeAt Go.RowKit Go.ChangeMaps
set_option maxRecDepth 100000

theorem contractFnApplyOne (H : Type) (enc : TypeId × Value → H) (W : World) (base : Nat) (args : Array Value) (ds gs : List (DataW H)) (before : List MemPlace)
    (hval : ∀ (j : Nat) t v, Tryz.f4.params[j]? = some t → args[j]? = some v → Value.okWide Tryz.prog W .any base t v)
    (hW : DataW.Whole enc Tryz.prog Tryz.f4.params.toList Rows.fnApplyOneSpec.vars false W args.toList ds gs before) (hL : laidMetH Tryz.prog Rows.fnApplyOneRow.laid W) :
    Calls Tryz.prog 4 args W fun e W' => ∃ v, e = .returned v ∧ Rows.fnApplyOneSpec.post enc Tryz.prog Tryz.f4 false true false false W args v W' := by
  have hW' := hW
  have hG : Glob W := glob_of_laid (by simp [Rows.fnApplyOneRow]) (by kernel_rfl) hL
  obtain ⟨p, q, hA0, hV, rfl, hfz, hnd⟩ := hW
  have hlt := hW'.lt
  have hA : DataW.TrodAll enc Tryz.prog W 0 (fun _ => true) true Tryz.f4.params.toList args.toList ds p := hA0
  rw [Tryz.params4] at hA hval
  obtain ⟨v0, v1, v2, v3, d0, d1, d2, d3, p0, p1, p2, p3, rfl, rfl, rfl, h0, h1, h2, h3⟩ := trodAll_four hA
  have hok := hval 0 24 v0 rfl rfl
  obtain ⟨cs, rfl, hcs⟩ := okWide_struct Tryz.underlying24 hok
  obtain ⟨s1, rfl, rfl, rfl, hs1⟩ := open_string Tryz.underlying9 (hval 1 9 v1 rfl rfl) h1
  obtain ⟨i2, rfl, rfl, rfl, wf2⟩ := open_int Tryz.underlying3 (hval 2 3 v2 rfl rfl) h2
  obtain ⟨b3, rfl, rfl, rfl⟩ := open_bool Tryz.underlying4 (hval 3 4 v3 rfl rfl) h3
  have h0' := h0
  obtain ⟨fuel, hf⟩ := h0
  obtain ⟨n, hn, hin⟩ := node_of _ fuel cs.toList d0 p0 (Nat.lt_succ_self _) hf
  obtain ⟨l⟩ := cs
  simp only at hn
  subst hn
  obtain ⟨g, t, cg, fuelg, dg, pg, rfl, hg1, hg2, hg3, hg4, rfl⟩ := trodVars_one hV
  obtain rfl := Option.some.inj (gTokens.symm.trans hg1)
  obtain rfl := Option.some.inj (gTokensType.symm.trans hg2)
  clear hA0
  refine (lawOne_any n s1 i2 b3 W hin hG).mono fun e W' ⟨he, hb⟩ => ?_
  subst he
  have hp : ∀ x ∈ p0, x.block < W.heap.size := fun x hx => hlt x (by simp [hx])
  have hpg : ∀ x ∈ pg, x.block < W.heap.size := fun x hx => hlt x (by simp [hx])
  have hvar : W'.var? Tryz.prog "loop.example/pub-g01465/pub/goparse_go_token.tokens" = some cg := by
    unfold World.var? at hg3 ⊢
    rw [gTokens] at hg3 ⊢
    simp only [Option.bind_some] at hg3 ⊢
    rw [hb.block _ hG.2]
    exact hg3
  exact ⟨_, rfl, post_below (pa := p0 ++ ([] ++ ([] ++ ([])))) (pv := MemPlace.row ⟨0, 0, none⟩ cg.size ++ pg) hW' (fun _ _ _ => trodAll_mk1 (shut_bool Tryz.underlying4 _))
    (fun sp hsp => trodAll_mk4 (WideElems.Trod_stays (by kernel_rfl) (by kernel_rfl) (by decide +kernel) h0' (fun x hx => hb.same (hp x hx)) (fun x hx => hsp x (by simp [hx]))) (shut_string Tryz.underlying9 hs1) (shut_int Tryz.underlying3 wf2) (shut_bool Tryz.underlying4 b3))
    (fun sp hsp => trodVars_mk1 gTokens gTokensType hvar (DataW.trod_stays (kids_book (by kernel_rfl) (t0 := 316) (by kernel_rfl)) (book_sized (by kernel_rfl)) (fun h => by cases h) ⟨by decide +kernel, book_self _⟩ hg4 (fun x hx => hb.same (hpg x hx))
      (fun x hx => hsp x (by simp [hx]))))
    (by simp) hb (ok_one (by kernel_rfl) rfl (okWide_bool_mk Tryz.underlying4 _))⟩

/-- The door's own heap meets the condition. -/
theorem doorFnApplyOne_met (os : Os) (args : Array Value) : laidMetH Tryz.prog Rows.fnApplyOneRow.laid ((World.doorLaid Tryz.prog 29 os).forCall (fun _ _ => 0) ⟨#[], args, []⟩).memory :=
  laidMetH_of_parts3 (fuel := 8) (laidMet_of_run' 8 (by kernel_rfl) (by kernel_rfl)) (by kernel_rfl) (by kernel_rfl)
noncomputable abbrev argFnApplyOne : Array Value := #[.agg #[.string ⟨#[]⟩, .string ⟨#[]⟩, .slice none 0 0], .string ⟨#[]⟩, .int .i64 0, .bool false]
theorem readsFnApplyOne (os : Os) {H : Type} (enc : TypeId × Value → H) : ∃ x, DataW.whole enc Tryz.prog ((World.doorLaid Tryz.prog 29 os).forCall (fun _ _ => 0) ⟨#[], argFnApplyOne, []⟩).memory Tryz.f4.params.toList Rows.fnApplyOneSpec.vars false argFnApplyOne.toList 8 = some x :=
  ⟨([.agg [.lit (.string []), .lit (.string []), .nil], .lit (.string []), .lit (.int .i64 0), .lit (.bool false)], [Rows.laid_loop_example_pub_g01465_pub_goparse_go_token_tokens], MemPlace.row ⟨0, 0, none⟩ 89), by kernel_rfl⟩

theorem liftedFnApplyOne (os : Os) (started : os.Started) (H : Type) (enc : TypeId × Value → H) (F : Stop.Interp) :
    ReturnsInHanded {} Tryz.checked os 4 .any ((OpenSpec.ofChange Rows.fnApplyOneSpec).preRow enc Tryz.prog Tryz.f4 Rows.fnApplyOneRow.domain false Rows.fnApplyOneRow.laid) (((OpenSpec.ofChange Rows.fnApplyOneSpec).at F).post enc Tryz.prog Tryz.f4 false true false false) := by
  obtain ⟨x, hx⟩ := readsFnApplyOne os enc
  refine returnsInHanded_of_row (C := Tryz.checked) (s := OpenSpec.ofChange Rows.fnApplyOneSpec) own_none started (by kernel_rfl) Tryz.func4
    (witness_row_at (enc := enc) (C := Tryz.checked) false (World.doorLaid Tryz.prog 29 os) argFnApplyOne rfl (by kernel_rfl) (by kernel_rfl) (by kernel_rfl)
      (OpenSpec.preRow_of_cond 8 hx rfl (fun k hk => by cases hk) (by kernel_rfl) (doorFnApplyOne_met os _))) ?_
  intro W base args ds gs before hval hW _ _ _ hL _ _
  exact contractFnApplyOne H enc W base args ds gs before hval hW hL

theorem saidFnApplyOne : Rows.FnApplyOneSaid :=
  OpenClaim.holds_of_cond 4 Tryz.f4 rfl rfl rfl rfl rfl rfl rfl ⟨rfl, rfl, rfl, rfl, rfl⟩ rfl rfl rfl rfl rfl (by kernel_rfl) Tryz.func4 closedFnApplyOne
    (of_decide_eq_true (by kernel_rfl)) (by unfold Func.isWrapper; first | (rw [if_pos (by decide +kernel)]; kernel_rfl) | (rw [if_neg (by decide +kernel)]; exact ⟨rfl, rfl⟩))
    (fun os started H enc _ F => by rw [OpenClaim.pre_eq_preRow]; exact liftedFnApplyOne os started H enc F)

theorem plainFnApplyOne (f : FuncId) (fn : Func) (hf : Tryz.pinned.checked.prog.funcNamed "loop.example/pub-g01465/laws.FnApplyOne" = some f) (hfn : Tryz.pinned.checked.prog.funcs[f]? = some fn) :
    true = Tryz.pinned.checked.prog.looks [] ∧ ∀ (j : Nat) t, fn.params[j]? = some t → Tryz.pinned.checked.prog.wantsStandIn t = false := by
  obtain rfl : f = 4 := Option.some.inj ((show Tryz.prog.funcNamed "loop.example/pub-g01465/laws.FnApplyOne" = some 4 by kernel_rfl).symm.trans hf) |>.symm
  obtain rfl : fn = Tryz.f4 := (Option.some.inj (Tryz.func4.symm.trans hfn)).symm
  refine ⟨by kernel_rfl, fun j t ht => ?_⟩
  rw [Tryz.params4] at ht
  have hm := Array.mem_of_getElem? ht
  simp only [Array.mem_def, List.mem_cons, List.not_mem_nil, or_false] at hm
  rcases hm with rfl | rfl | rfl | rfl
  · exact (show Tryz.prog.wantsStandIn 24 = false by kernel_rfl)
  · exact (show Tryz.prog.wantsStandIn 9 = false by kernel_rfl)
  · exact (show Tryz.prog.wantsStandIn 3 = false by kernel_rfl)
  · exact (show Tryz.prog.wantsStandIn 4 = false by kernel_rfl)

theorem cardFnApplyOne : Rows.FnApplyOneCardSaid :=
  Claim7.holds_tied_plain_at .later [] _ _ _ _ saidFnApplyOne (fun _ h => by cases h) (by kernel_rfl) (fun _ h => by cases h) fnApplyOne_row_tie rfl ⟨rfl, rfl⟩ (by kernel_rfl) rfl plainFnApplyOne (by kernel_rfl)
#print axioms cardFnApplyOne
end Go.Proofs.YtgimbgpebpippaaGreatDoor
