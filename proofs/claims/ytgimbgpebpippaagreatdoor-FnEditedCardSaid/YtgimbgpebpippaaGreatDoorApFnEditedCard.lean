/- For every list of trees that can be read and every list of changes the law FnEdited answers true and leaves its arguments as they were: arguments that are deleted, replaced, or get others ahead of them or behind them while they are gone through, are those that are due; each one that was there is visited once, with the index that it has then, and those that come are not visited.
   Conditions: those of the given row and card (the token table is laid and tied to the program's text). -/
import Derived.Test.YtgimbgpebpippaaGreatDoorApRow
import Derived.Test.YtgimbgpebpippaaGreatDoorApFnEditedFc
import Derived.Test.YtgimbgpebpippaaGreatDoorEdM
import Derived.Test.YtgimbgpebpippaaGreatDoorApFnEditedRd
namespace Go.Proofs.YtgimbgpebpippaaGreatDoor
open Go.ChangeShapes Go.WideShapes Go.ChangeAt Go.RowKit Go.ChangeMaps
set_option maxRecDepth 100000

theorem contractFnEdited (H : Type) (enc : TypeId × Value → H) (W : World) (base : Nat) (args : Array Value) (ds gs : List (DataW H)) (before : List MemPlace)
    (hval : ∀ (j : Nat) t v, Tryz.f8.params[j]? = some t → args[j]? = some v → Value.okWide Tryz.prog W .any base t v)
    (hW : DataW.Whole enc Tryz.prog Tryz.f8.params.toList Rows.fnEditedSpec.vars false W args.toList ds gs before) (hL : laidMetH Tryz.prog Rows.fnEditedRow.laid W) :
    Calls Tryz.prog 8 args W fun e W' => ∃ v, e = .returned v ∧ Rows.fnEditedSpec.post enc Tryz.prog Tryz.f8 false true false false W args v W' := by
  have hW' := hW
  have hG : Glob W := glob_of_laid (by simp [Rows.fnEditedRow]) (by kernel_rfl) hL
  obtain ⟨p, q, hA0, hV, rfl, hfz, hnd⟩ := hW
  have hlt := hW'.lt
  have hA : DataW.TrodAll enc Tryz.prog W 0 (fun _ => true) true Tryz.f8.params.toList args.toList ds p := hA0
  rw [Tryz.params8] at hA hval
  obtain ⟨v0, v1, d0, d1, p0, p1, rfl, rfl, rfl, h0, h1⟩ := trodAll_two hA
  obtain ⟨a0, l0, cc0, rfl⟩ := okWide_slice Tryz.underlying22 (hval 0 22 v0 rfl rfl)
  obtain ⟨a1, l1, cc1, rfl⟩ := okWide_slice Tryz.underlying40 (hval 1 40 v1 rfl rfl)
  have h0' := h0
  have h1' := h1
  obtain ⟨fuel, hf⟩ := h0
  obtain ⟨fuel1, hf1⟩ := h1
  obtain ⟨A0, c0, ns, e0, hin⟩ := nodes_of fuel _ d0 p0 hf
  obtain ⟨A1, c1, hs, e1, hints⟩ := ints_of fuel1 _ d1 p1 hf1
  injection e0 with q1 q2 q3
  subst q1 q2 q3
  injection e1 with q1 q2 q3
  subst q1 q2 q3
  obtain ⟨g, t, cg, fuelg, dg, pg, rfl, hg1, hg2, hg3, hg4, rfl⟩ := trodVars_one hV
  obtain rfl := Option.some.inj (gTokens.symm.trans hg1)
  obtain rfl := Option.some.inj (gTokensType.symm.trans hg2)
  clear hA0
  refine (lawFnEdited_any _ ns _ _ hs _ W hin hints hG).mono fun e W' ⟨he, hb⟩ => ?_
  subst he
  have hp : ∀ x ∈ p0, x.block < W.heap.size := fun x hx => hlt x (by simp [hx])
  have hp1 : ∀ x ∈ p1, x.block < W.heap.size := fun x hx => hlt x (by simp [hx])
  have hpg : ∀ x ∈ pg, x.block < W.heap.size := fun x hx => hlt x (by simp [hx])
  have hvar : W'.var? Tryz.prog "loop.example/pub-g01465/pub/goparse_go_token.tokens" = some cg := by
    unfold World.var? at hg3 ⊢
    rw [gTokens] at hg3 ⊢
    simp only [Option.bind_some] at hg3 ⊢
    rw [hb.block _ hG.2]
    exact hg3
  exact ⟨_, rfl, post_below (pa := p0 ++ p1) (pv := MemPlace.row ⟨0, 0, none⟩ cg.size ++ pg) hW' (fun _ _ _ => trodAll_mk1 (shut_bool Tryz.underlying4 _))
    (fun sp hsp => trodAll_mk2 (WideElems.Trod_stays (by kernel_rfl) (by kernel_rfl) (by decide +kernel) h0' (fun x hx => hb.same (hp x hx)) (fun x hx => hsp x (by simp [hx]))) (WideElems.Trod_stays (by kernel_rfl) (by kernel_rfl) (by decide +kernel) h1' (fun x hx => hb.same (hp1 x hx)) (fun x hx => hsp x (by simp [hx]))))
    (fun sp hsp => trodVars_mk1 gTokens gTokensType hvar (DataW.trod_stays (kids_book (by kernel_rfl) (t0 := 316) (by kernel_rfl)) (book_sized (by kernel_rfl)) (fun h => by cases h) ⟨by decide +kernel, book_self _⟩ hg4 (fun x hx => hb.same (hpg x hx))
      (fun x hx => hsp x (by simp [hx]))))
    (by simp) hb (ok_one (by kernel_rfl) rfl (okWide_bool_mk Tryz.underlying4 _))⟩

/-- The door's own heap meets the condition. -/
theorem doorFnEdited_met (os : Os) (args : Array Value) : laidMetH Tryz.prog Rows.fnEditedRow.laid ((World.doorLaid Tryz.prog 29 os).forCall (fun _ _ => 0) ⟨#[], args, []⟩).memory :=
  laidMetH_of_parts3 (fuel := 8) (laidMet_of_run' 8 (by kernel_rfl) (by kernel_rfl)) (by kernel_rfl) (by kernel_rfl)
noncomputable abbrev argFnEdited : Array Value := #[.slice none 0 0, .slice none 0 0]
theorem readsFnEdited (os : Os) {H : Type} (enc : TypeId × Value → H) : ∃ x, DataW.whole enc Tryz.prog ((World.doorLaid Tryz.prog 29 os).forCall (fun _ _ => 0) ⟨#[], argFnEdited, []⟩).memory Tryz.f8.params.toList Rows.fnEditedSpec.vars false argFnEdited.toList 8 = some x :=
  ⟨([.nil, .nil], [Rows.laid_loop_example_pub_g01465_pub_goparse_go_token_tokens], MemPlace.row ⟨0, 0, none⟩ 89), by kernel_rfl⟩

theorem liftedFnEdited (os : Os) (started : os.Started) (H : Type) (enc : TypeId × Value → H) (F : Stop.Interp) :
    ReturnsInHanded {} Tryz.checked os 8 .any ((OpenSpec.ofChange Rows.fnEditedSpec).preRow enc Tryz.prog Tryz.f8 Rows.fnEditedRow.domain false Rows.fnEditedRow.laid) (((OpenSpec.ofChange Rows.fnEditedSpec).at F).post enc Tryz.prog Tryz.f8 false true false false) := by
  obtain ⟨x, hx⟩ := readsFnEdited os enc
  refine returnsInHanded_of_row (C := Tryz.checked) (s := OpenSpec.ofChange Rows.fnEditedSpec) own_none started (by kernel_rfl) Tryz.func8
    (witness_row_at (enc := enc) (C := Tryz.checked) false (World.doorLaid Tryz.prog 29 os) argFnEdited rfl (by kernel_rfl) (by kernel_rfl) (by kernel_rfl)
      (OpenSpec.preRow_of_cond 8 hx rfl (fun k hk => by cases hk) (by kernel_rfl) (doorFnEdited_met os _))) ?_
  intro W base args ds gs before hval hW _ _ _ hL _ _
  exact contractFnEdited H enc W base args ds gs before hval hW hL

theorem saidFnEdited : Rows.FnEditedSaid :=
  OpenClaim.holds_of_cond 8 Tryz.f8 rfl rfl rfl rfl rfl rfl rfl ⟨rfl, rfl, rfl, rfl, rfl⟩ rfl rfl rfl rfl rfl (by kernel_rfl) Tryz.func8 closedFnEdited
    (of_decide_eq_true (by kernel_rfl)) (by unfold Func.isWrapper; first | (rw [if_pos (by decide +kernel)]; kernel_rfl) | (rw [if_neg (by decide +kernel)]; exact ⟨rfl, rfl⟩))
    (fun os started H enc _ F => by rw [OpenClaim.pre_eq_preRow]; exact liftedFnEdited os started H enc F)

theorem plainFnEdited (f : FuncId) (fn : Func) (hf : Tryz.pinned.checked.prog.funcNamed "loop.example/pub-g01465/laws.FnEdited" = some f) (hfn : Tryz.pinned.checked.prog.funcs[f]? = some fn) :
    true = Tryz.pinned.checked.prog.looks [] ∧ ∀ (j : Nat) t, fn.params[j]? = some t → Tryz.pinned.checked.prog.wantsStandIn t = false := by
  obtain rfl : f = 8 := Option.some.inj ((show Tryz.prog.funcNamed "loop.example/pub-g01465/laws.FnEdited" = some 8 by kernel_rfl).symm.trans hf) |>.symm
  obtain rfl : fn = Tryz.f8 := (Option.some.inj (Tryz.func8.symm.trans hfn)).symm
  refine ⟨by kernel_rfl, fun j t ht => ?_⟩
  rw [Tryz.params8] at ht
  have hm := Array.mem_of_getElem? ht
  simp only [Array.mem_def, List.mem_cons, List.not_mem_nil, or_false] at hm
  rcases hm with rfl | rfl
  · exact (show Tryz.prog.wantsStandIn 22 = false by kernel_rfl)
  · exact (show Tryz.prog.wantsStandIn 40 = false by kernel_rfl)

theorem cardFnEdited : Rows.FnEditedCardSaid :=
  Claim7.holds_tied_plain_at .later [] _ _ _ _ saidFnEdited (fun _ h => by cases h) (by kernel_rfl) (fun _ h => by cases h) fnEdited_row_tie rfl ⟨rfl, rfl⟩ (by kernel_rfl) rfl plainFnEdited (by kernel_rfl)
#print axioms cardFnEdited
end Go.Proofs.YtgimbgpebpippaaGreatDoor
