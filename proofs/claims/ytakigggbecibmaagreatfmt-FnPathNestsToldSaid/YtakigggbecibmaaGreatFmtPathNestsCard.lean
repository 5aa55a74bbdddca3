/- For all terms and numbers that can be read, the law FnPathNests answers true and leaves its arguments as they were: a path ends with the file, and each node on it lies within the next one.
   Conditions: those of the given row and card (fmt's texts are told by the authors' own Lean function; the tables are laid and tied to the program's text). -/
import Derived.Test.YtakigggbecibmaaGreatFmtCards
import Derived.Test.YtakigggbecibmaaGreatFmtTie
import Derived.Test.YtakigggbecibmaaGreatFmtPathRow
import Derived.Test.YtakigggbecibmaaGreatFmtPathZ
import Derived.Stop.JoinedTold
import Derived.SevenTiedAt
import Derived.Deep.DeepHandedRow
import Derived.Deep.DeepWitnessRowRef
namespace Go.Proofs.YtakigggbecibmaaGreatFmt
open Go.ChangeShapes Go.WideShapes Go.ChangeAt Go.RowKit
open Go.Extern.Stop Go.Stop Go.Extern
set_option maxRecDepth 100000

theorem contractNests (H : Type) (enc : TypeId × Value → H) (W : World) (base : Nat) (args : Array Value) (ds gs : List (DataW H)) (before : List MemPlace)
    (hval : ∀ (j : Nat) t v, Tryz.f3.params[j]? = some t → args[j]? = some v → Value.okWide Tryz.prog W .any base t v)
    (hW : DataW.Whole enc Tryz.prog Tryz.f3.params.toList Rows.fnPathNestsSpec.vars false W args.toList ds gs before) (hL : laidMetH Tryz.prog Rows.fnPathNestsRow.laid W) :
    Calls Tryz.prog 3 args W fun e W' => ∃ v, e = .returned v ∧ Rows.fnPathNestsSpec.post enc Tryz.prog Tryz.f3 false true false false W args v W' := by
  have hW' := hW
  obtain ⟨t12, t85⟩ := toks_of_laid (by simp [Rows.fnPathNestsRow]) (by kernel_rfl) hL
  obtain ⟨p, q, hA0, hV, rfl, hfz, hnd⟩ := hW
  have hlt := hW'.lt
  have hA : DataW.TrodAll enc Tryz.prog W 0 (fun _ => true) true Tryz.f3.params.toList args.toList ds p := hA0
  rw [Tryz.params3] at hA hval
  obtain ⟨v0, v1, v2, d0, d1, d2, p0, p1, p2, rfl, rfl, rfl, h0, h1, h2⟩ := trodAll_three hA
  obtain ⟨a0, len, cap, rfl⟩ := okWide_slice Tryz.underlying22 (hval 0 22 v0 rfl rfl)
  obtain ⟨i1, rfl, rfl, rfl, wf1⟩ := open_int Tryz.underlying3 (hval 1 3 v1 rfl rfl) h1
  obtain ⟨i2, rfl, rfl, rfl, wf2⟩ := open_int Tryz.underlying3 (hval 2 3 v2 rfl rfl) h2
  have h0' := h0
  obtain ⟨fuel, hf⟩ := h0
  obtain ⟨A, cap', ts, hts, hin⟩ := terms_of hf
  injection hts with e1 e2 e3
  subst e1 e2 e3
  obtain ⟨g, t, cg, fuelg, dg, pg, rfl, hg1, hg2, hg3, hg4, rfl⟩ := trodVars_one hV
  obtain rfl := Option.some.inj (gTokens.symm.trans hg1)
  obtain rfl := Option.some.inj (gTokensType.symm.trans hg2)
  clear hA0
  refine (lawNests_any ts _ _ i1 i2 W ⟨hin, t12, t85⟩).mono fun e W' ⟨he, hb⟩ => ?_
  subst he
  have hp : ∀ x ∈ p0, x.block < W.heap.size := fun x hx => hlt x (by simp [hx])
  have hpg : ∀ x ∈ pg, x.block < W.heap.size := fun x hx => hlt x (by simp [hx])
  have hvar : W'.var? Tryz.prog "loop.example/pub-g01465/pub/goparse_go_token.tokens" = some cg := by
    unfold World.var? at hg3 ⊢
    rw [gTokens] at hg3 ⊢
    simp only [Option.bind_some] at hg3 ⊢
    rw [hb.block _ t12.2]
    exact hg3
  exact ⟨_, rfl, post_below (pa := p0 ++ ([] ++ [])) (pv := MemPlace.row ⟨0, 0, none⟩ cg.size ++ pg) hW' (fun _ _ _ => trodAll_mk1 (shut_bool Tryz.underlying4 _))
    (fun sp hsp => trodAll_mk3 (WideElems.Trod_stays (by kernel_rfl) (by kernel_rfl) (by decide +kernel) h0' (fun x hx => hb.same (hp x hx)) (fun x hx => hsp x (by simp [hx]))) (shut_int Tryz.underlying3 wf1) (shut_int Tryz.underlying3 wf2))
    (fun sp hsp => trodVars_mk1 gTokens gTokensType hvar (DataW.trod_stays (kids_book (by kernel_rfl) (t0 := 231) (by kernel_rfl)) (book_sized (by kernel_rfl)) (fun h => by cases h) ⟨by decide +kernel, book_self _⟩ hg4 (fun x hx => hb.same (hpg x hx))
      (fun x hx => hsp x (by simp [hx]))))
    (by simp) hb (ok_one (by kernel_rfl) rfl (okWide_bool_mk Tryz.underlying4 _))⟩

/-- The door's own heap meets the condition. -/
theorem doorNests_met (os : Os) (args : Array Value) : laidMetH Tryz.prog Rows.fnPathNestsRow.laid ((World.doorLaid Tryz.prog 34 os).forCall (fun _ _ => 0) ⟨#[], args, []⟩).memory :=
  laidMetH_of_parts3 (fuel := 8) (laidMet_of_run' 8 (by kernel_rfl) (by kernel_rfl)) (by kernel_rfl) (by kernel_rfl)
noncomputable abbrev argNests : Array Value := #[.slice none 0 0, .int .i64 0, .int .i64 0]
theorem readsNests (os : Os) {H : Type} (enc : TypeId × Value → H) : ∃ x, DataW.whole enc Tryz.prog ((World.doorLaid Tryz.prog 34 os).forCall (fun _ _ => 0) ⟨#[], argNests, []⟩).memory Tryz.f3.params.toList Rows.fnPathNestsSpec.vars false argNests.toList 8 = some x :=
  ⟨([.nil, .lit (.int .i64 0), .lit (.int .i64 0)], [Rows.laid_loop_example_pub_g01465_pub_goparse_go_token_tokens], MemPlace.row ⟨0, 0, none⟩ 89), by kernel_rfl⟩

theorem liftedNests (os : Os) (started : os.Started) (H : Type) (enc : TypeId × Value → H) :
    ReturnsInTold none {} Tryz.checked os 3 .any Input.okWide ((OpenSpec.ofChange Rows.fnPathNestsSpec).preRow enc Tryz.prog Tryz.f3 Rows.fnPathNestsRow.domain false Rows.fnPathNestsRow.laid)
      (fun F => ((OpenSpec.ofChange Rows.fnPathNestsSpec).at F).post enc Tryz.prog Tryz.f3 false true false false) (aloneAtReturn Tryz.prog) nothingAlways := by
  obtain ⟨x, hx⟩ := readsNests os enc
  refine returnsInTold_of_row (C := Tryz.checked) (s := OpenSpec.ofChange Rows.fnPathNestsSpec) (by kernel_rfl) own_none started (by kernel_rfl) Tryz.func3
    (OpenSpec.witness_stopped_at (enc := enc) (C := Tryz.checked) false (World.doorLaid Tryz.prog 34 os) argNests rfl (by kernel_rfl) (by kernel_rfl) (by kernel_rfl)
      (OpenSpec.preRow_of_cond 8 hx rfl (fun k hk => by cases hk) (by kernel_rfl) (doorNests_met os _))) ?_
  intro F W base args ds gs before _ _ hval hW _ _ _ hL _
  exact contractNests H enc W base args ds gs before hval hW hL

theorem stopsNests : Tryz.pinned.checked.prog.stops = ["fmt.Sprintf, its operands' methods called"] := by kernel_rfl
theorem knobsNests : Tryz.pinned.checked.prog.stopKnobs = [] := by kernel_rfl
theorem quietNests (os : Os) : Stop.quiet Tryz.pinned.checked.prog os := by
  intro k hk
  rw [knobsNests] at hk
  cases hk

theorem cardNests : Rows.FnPathNestsToldSaid :=
  Claim7.holds_of_told_tied_any_at .later 3 Tryz.f3 "fmt.Sprintf, its operands' methods called" [] [] _ _ _ _ _ (by kernel_rfl) rfl rfl rfl (by kernel_rfl) (by kernel_rfl) rfl ⟨rfl, rfl, rfl, rfl, rfl, rfl, rfl⟩ rfl rfl (by kernel_rfl) (by kernel_rfl) Tryz.func3 (by kernel_rfl)
    (of_decide_eq_true (by kernel_rfl)) (by unfold Func.isWrapper; first | (rw [if_pos (by decide +kernel)]; kernel_rfl) | (rw [if_neg (by decide +kernel)]; exact ⟨rfl, rfl⟩)) stopsNests.symm rfl knobsNests.symm (by kernel_rfl)
    (by kernel_rfl) (by kernel_rfl) (by kernel_rfl) (by kernel_rfl) (by kernel_rfl) (by kernel_rfl) (by kernel_rfl) (by kernel_rfl) (by kernel_rfl) rfl (by kernel_rfl) rfl rfl
    rfl rfl
    rfl (by kernel_rfl) (by kernel_rfl) (by kernel_rfl) (by decide) (by kernel_rfl) fnPathNests_row_tie
    (OpenClaim.moreEntering_of (by kernel_rfl) (by kernel_rfl) (by kernel_rfl) (by kernel_rfl) (by kernel_rfl) (by kernel_rfl) (by kernel_rfl) (by kernel_rfl) (by kernel_rfl) (by kernel_rfl))
    ⟨_, WideRow.started_initial, quietNests _⟩
    (fun os started _ H enc _ => liftedNests os started H enc)
#print axioms cardNests
end Go.Proofs.YtakigggbecibmaaGreatFmt
