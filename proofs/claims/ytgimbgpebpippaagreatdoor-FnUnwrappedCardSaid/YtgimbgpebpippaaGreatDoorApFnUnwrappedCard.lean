/- For every tree that can be read the law FnUnwrapped answers true and leaves its arguments as they were: parentheses that are replaced by what stands in them, behind what is below them, are gone, also around the whole expression.
   Conditions: those of the given row and card (the token table is laid and tied to the program's text). -/
import Derived.Test.YtgimbgpebpippaaGreatDoorApRow
import Derived.Test.YtgimbgpebpippaaGreatDoorApFnUnwrappedFc
import Derived.Test.YtgimbgpebpippaaGreatDoorRqLu
namespace Go.Proofs.YtgimbgpebpippaaGreatDoor
open Go.ChangeShapes Go.WideShapes Go.ChangeAt Go.RowKit Go.ChangeMaps
set_option maxRecDepth 100000

theorem contractFnUnwrapped (H : Type) (enc : TypeId × Value → H) (W : World) (base : Nat) (args : Array Value) (ds gs : List (DataW H)) (before : List MemPlace)
    (hval : ∀ (j : Nat) t v, Tryz.f5.params[j]? = some t → args[j]? = some v → Value.okWide Tryz.prog W .any base t v)
    (hW : DataW.Whole enc Tryz.prog Tryz.f5.params.toList Rows.fnUnwrappedSpec.vars false W args.toList ds gs before) (hL : laidMetH Tryz.prog Rows.fnUnwrappedRow.laid W) :
    Calls Tryz.prog 5 args W fun e W' => ∃ v, e = .returned v ∧ Rows.fnUnwrappedSpec.post enc Tryz.prog Tryz.f5 false true false false W args v W' := by
  have hW' := hW
  have hG : Glob W := glob_of_laid (by simp [Rows.fnUnwrappedRow]) (by kernel_rfl) hL
  obtain ⟨p, q, hA0, hV, rfl, hfz, hnd⟩ := hW
  have hlt := hW'.lt
  have hA : DataW.TrodAll enc Tryz.prog W 0 (fun _ => true) true Tryz.f5.params.toList args.toList ds p := hA0
  rw [Tryz.params5] at hA hval
  obtain ⟨v0, d0, hargs, rfl, h0⟩ := trodAll_one hA
  obtain rfl : args = #[v0] := by cases args; simp_all
  have hok := hval 0 24 v0 rfl rfl
  obtain ⟨cs, rfl, hcs⟩ := okWide_struct Tryz.underlying24 hok
  have h0' := h0
  obtain ⟨fuel, hf⟩ := h0
  obtain ⟨n, hn, hin⟩ := node_of _ fuel cs.toList d0 p (Nat.lt_succ_self _) hf
  obtain ⟨l⟩ := cs
  simp only at hn
  subst hn
  obtain ⟨g, t, cg, fuelg, dg, pg, rfl, hg1, hg2, hg3, hg4, rfl⟩ := trodVars_one hV
  obtain rfl := Option.some.inj (gTokens.symm.trans hg1)
  obtain rfl := Option.some.inj (gTokensType.symm.trans hg2)
  clear hA0
  refine (lawFnUnwrapped_any n W hin hG).mono fun e W' ⟨he, hb⟩ => ?_
  subst he
  have hp : ∀ x ∈ p, x.block < W.heap.size := fun x hx => hlt x (by simp [hx])
  have hpg : ∀ x ∈ pg, x.block < W.heap.size := fun x hx => hlt x (by simp [hx])
  have hvar : W'.var? Tryz.prog "loop.example/pub-g01465/pub/goparse_go_token.tokens" = some cg := by
    unfold World.var? at hg3 ⊢
    rw [gTokens] at hg3 ⊢
    simp only [Option.bind_some] at hg3 ⊢
    rw [hb.block _ hG.2]
    exact hg3
  exact ⟨_, rfl, post_below (pa := p) (pv := MemPlace.row ⟨0, 0, none⟩ cg.size ++ pg) hW' (fun _ _ _ => trodAll_mk1 (shut_bool Tryz.underlying4 _))
    (fun sp hsp => trodAll_mk1 (WideElems.Trod_stays (by kernel_rfl) (by kernel_rfl) (by decide +kernel) h0' (fun x hx => hb.same (hp x hx)) (fun x hx => hsp x (by simp [hx]))))
    (fun sp hsp => trodVars_mk1 gTokens gTokensType hvar (DataW.trod_stays (kids_book (by kernel_rfl) (t0 := 316) (by kernel_rfl)) (book_sized (by kernel_rfl)) (fun h => by cases h) ⟨by decide +kernel, book_self _⟩ hg4 (fun x hx => hb.same (hpg x hx))
      (fun x hx => hsp x (by simp [hx]))))
    (by simp) hb (ok_one (by kernel_rfl) rfl (okWide_bool_mk Tryz.underlying4 _))⟩

/-- The door's own heap meets the condition. -/
theorem doorFnUnwrapped_met (os : Os) (args : Array Value) : laidMetH Tryz.prog Rows.fnUnwrappedRow.laid ((World.doorLaid Tryz.prog 29 os).forCall (fun _ _ => 0) ⟨#[], args, []⟩).memory :=
  laidMetH_of_parts3 (fuel := 8) (laidMet_of_run' 8 (by kernel_rfl) (by kernel_rfl)) (by kernel_rfl) (by kernel_rfl)
noncomputable abbrev argFnUnwrapped : Array Value := #[.agg #[.string ⟨#[]⟩, .string ⟨#[]⟩, .slice none 0 0]]
theorem readsFnUnwrapped (os : Os) {H : Type} (enc : TypeId × Value → H) : ∃ x, DataW.whole enc Tryz.prog ((World.doorLaid Tryz.prog 29 os).forCall (fun _ _ => 0) ⟨#[], argFnUnwrapped, []⟩).memory Tryz.f5.params.toList Rows.fnUnwrappedSpec.vars false argFnUnwrapped.toList 8 = some x :=
  ⟨([.agg [.lit (.string []), .lit (.string []), .nil]], [Rows.laid_loop_example_pub_g01465_pub_goparse_go_token_tokens], MemPlace.row ⟨0, 0, none⟩ 89), by kernel_rfl⟩

theorem liftedFnUnwrapped (os : Os) (started : os.Started) (H : Type) (enc : TypeId × Value → H) (F : Stop.Interp) :
    ReturnsInHanded {} Tryz.checked os 5 .any ((OpenSpec.ofChange Rows.fnUnwrappedSpec).preRow enc Tryz.prog Tryz.f5 Rows.fnUnwrappedRow.domain false Rows.fnUnwrappedRow.laid) (((OpenSpec.ofChange Rows.fnUnwrappedSpec).at F).post enc Tryz.prog Tryz.f5 false true false false) := by
  obtain ⟨x, hx⟩ := readsFnUnwrapped os enc
  refine returnsInHanded_of_row (C := Tryz.checked) (s := OpenSpec.ofChange Rows.fnUnwrappedSpec) own_none started (by kernel_rfl) Tryz.func5
    (witness_row_at (enc := enc) (C := Tryz.checked) false (World.doorLaid Tryz.prog 29 os) argFnUnwrapped rfl (by kernel_rfl) (by kernel_rfl) (by kernel_rfl)
      (OpenSpec.preRow_of_cond 8 hx rfl (fun k hk => by cases hk) (by kernel_rfl) (doorFnUnwrapped_met os _))) ?_
  intro W base args ds gs before hval hW _ _ _ hL _ _
  exact contractFnUnwrapped H enc W base args ds gs before hval hW hL

theorem saidFnUnwrapped : Rows.FnUnwrappedSaid :=
  OpenClaim.holds_of_cond 5 Tryz.f5 rfl rfl rfl rfl rfl rfl rfl ⟨rfl, rfl, rfl, rfl, rfl⟩ rfl rfl rfl rfl rfl (by kernel_rfl) Tryz.func5 closedFnUnwrapped
    (of_decide_eq_true (by kernel_rfl)) (by unfold Func.isWrapper; first | (rw [if_pos (by decide +kernel)]; kernel_rfl) | (rw [if_neg (by decide +kernel)]; exact ⟨rfl, rfl⟩))
    (fun os started H enc _ F => by rw [OpenClaim.pre_eq_preRow]; exact liftedFnUnwrapped os started H enc F)

theorem plainFnUnwrapped (f : FuncId) (fn : Func) (hf : Tryz.pinned.checked.prog.funcNamed "loop.example/pub-g01465/laws.FnUnwrapped" = some f) (hfn : Tryz.pinned.checked.prog.funcs[f]? = some fn) :
    true = Tryz.pinned.checked.prog.looks [] ∧ ∀ (j : Nat) t, fn.params[j]? = some t → Tryz.pinned.checked.prog.wantsStandIn t = false := by
  obtain rfl : f = 5 := Option.some.inj ((show Tryz.prog.funcNamed "loop.example/pub-g01465/laws.FnUnwrapped" = some 5 by kernel_rfl).symm.trans hf) |>.symm
  obtain rfl : fn = Tryz.f5 := (Option.some.inj (Tryz.func5.symm.trans hfn)).symm
  refine ⟨by kernel_rfl, fun j t ht => ?_⟩
  rw [Tryz.params5] at ht
  have hm := Array.mem_of_getElem? ht
  simp only [Array.mem_def, List.mem_cons, List.not_mem_nil, or_false] at hm
  rcases hm with rfl
  · exact (show Tryz.prog.wantsStandIn 24 = false by kernel_rfl)

theorem cardFnUnwrapped : Rows.FnUnwrappedCardSaid :=
  Claim7.holds_tied_plain_at .later [] _ _ _ _ saidFnUnwrapped (fun _ h => by cases h) (by kernel_rfl) (fun _ h => by cases h) fnUnwrapped_row_tie rfl ⟨rfl, rfl⟩ (by kernel_rfl) rfl plainFnUnwrapped (by kernel_rfl)
#print axioms cardFnUnwrapped
end Go.Proofs.YtgimbgpebpippaaGreatDoor
