/- Edited's function, at an argument. -/
import Derived.Test.YtgimbgpebpippaaGreatDoorEdC
import Derived.Test.YtgimbgpebpippaaGreatDoorApQ
import Derived.LaidEql
import Derived.Deep.RegionLaw
namespace Go.Proofs.YtgimbgpebpippaaGreatDoor
open Go.RowKit
set_option maxRecDepth 100000
set_option maxHeartbeats 8000000
theorem Tryz.infoCallP : (Tryz.prog.info? 87).map (fun i => i.comparable) = some true := by kernel_rfl
theorem Tryz.infoCallE : (Tryz.prog.info? 91).map (fun i => i.size) = some 5 := by kernel_rfl
theorem Tryz.underNode0 : (match Tryz.prog.underlying 59 with | some (.interface _) => true | _ => false) = true := by kernel_rfl
theorem Tryz.underNode : ∃ ms, Tryz.prog.underlying 59 = some (.interface ms) := by
  have h := Tryz.underNode0
  split at h
  · rename_i ms e
    exact ⟨ms, e⟩
  · cases h
theorem eqlSame (a : Addr) (w : World) : (binOp .eql 59 (.iface 87 (.pointer (some a))) (.iface 87 (.pointer (some a)))).run Tryz.prog w = .ok (.bool true) w := by
  obtain ⟨ms, h1⟩ := Tryz.underNode
  obtain ⟨i, hi, hc⟩ := Option.map_eq_some_iff.1 Tryz.infoCallP
  obtain ⟨j, hj, _⟩ := Option.map_eq_some_iff.1 Tryz.infoCallE
  exact run_eql_iface_ptr_same w a h1 Tryz.underlying87 hi hc hj
theorem eqlOther {a b : Addr} {ca cb : Array Value} {ta tb : TypeId} {w : World} (hne : a ≠ b) (ha : Blk w a.block ta ca) (hb : Blk w b.block tb cb) : (binOp .eql 59 (.iface 87 (.pointer (some a))) (.iface 87 (.pointer (some b)))).run Tryz.prog w = .ok (.bool false) w := by
  obtain ⟨ms, h1⟩ := Tryz.underNode
  obtain ⟨i, hi, hc⟩ := Option.map_eq_some_iff.1 Tryz.infoCallP
  obtain ⟨j, hj, hs⟩ := Option.map_eq_some_iff.1 Tryz.infoCallE
  exact run_eql_iface_ptr_other w h1 Tryz.underlying87 hi hc hj (by rw [hs]; decide) hne ha hb
theorem eqlType {t : TypeId} {u v : Value} (h : t ≠ 87) (w : World) : (binOp .eql 59 (.iface t u) (.iface 87 v)).run Tryz.prog w = .ok (.bool false) w := by
  obtain ⟨ms, h1⟩ := Tryz.underNode
  have h2 : ∀ d : Nat, (Op.equalIn (d + 1) 59 (.iface t u) (.iface 87 v)).run Tryz.prog w = .ok false w := fun d => by simp [Op.equalIn, run_underlying h1, h]
  simp only [binOp]
  simp [Op.equal, Op.maxDepth, h2 9999]
/-- What Edited's function holds: the call's variable, the visits, the changes; all apart from the tree. -/
structure EdOwn (w : World) (B0 b bc bo bh : Nat) (A : Option Addr) (ch : Nat) (hs : List Int) (vs : List Vst) (v : Value) : Prop where
  cbox : Blk w bc 87 #[.pointer (some ⟨b, 0, none⟩)]
  outs : Outs w bo v vs
  hbox : Blk w bh 40 #[.slice A hs.length ch]
  ints : ∀ j u, hs[j]? = some u → ∃ gb off, A = some ⟨gb, off, none⟩ ∧ gb < B0 ∧ w.cell? ⟨gb, off + j, none⟩ = some (.int .i64 u)
  ge : B0 ≤ bc ∧ B0 ≤ bo ∧ B0 ≤ bh ∧ (∀ k ∈ rowOf v, B0 ≤ k)
  ne : bc ≠ bo ∧ bc ≠ bh ∧ bo ≠ bh ∧ bc ∉ rowOf v ∧ bh ∉ rowOf v
/-- The tree's blocks are apart from what the function holds. -/
def Aparts (B0 bc bo bh : Nat) (v : Value) (T : List Nat) : Prop := ∀ k ∈ T, B0 ≤ k ∧ k ≠ bc ∧ k ≠ bo ∧ k ≠ bh ∧ k ∉ rowOf v
theorem EdOwn.keep {w w' : World} {B0 b bc bo bh : Nat} {A : Option Addr} {ch : Nat} {hs : List Int} {vs : List Vst} {v : Value} {T : List Nat} (h : EdOwn w B0 b bc bo bh A ch hs vs v) (hT : Aparts B0 bc bo bh v T) (hk : Kept T w w') : EdOwn w' B0 b bc bo bh A ch hs vs v where
  cbox := hk.blk h.cbox (fun hm => (hT _ hm).2.1 rfl)
  outs := h.outs.same (hk.2 _ h.outs.box.lt (fun hm => (hT _ hm).2.2.1 rfl)) (fun g hg => hk.2 g (h.outs.lst.lt g (mem_rowOf.1 hg)).1 (fun hm => (hT _ hm).2.2.2.2 hg))
  hbox := hk.blk h.hbox (fun hm => (hT _ hm).2.2.2.1 rfl)
  ints := fun j u hj => by
    obtain ⟨gb, off, h1, h2, h3⟩ := h.ints j u hj
    have hlt := lt_of_cell h3
    exact ⟨gb, off, h1, h2, (World.cell?_of_block (hk.2 gb hlt (fun hm => by have := (hT _ hm).1; omega))).trans h3⟩
  ge := h.ge
  ne := h.ne
section
variable {w w' : World} {ba : Nat} {fv : Value} {b : Nat} {f : AE} {g cp : Nat} {L : List AE} {x : AE} {ix st : Int}
abbrev edT (ba b g : Nat) (f : AE) (L : List AE) (x : AE) : List Nat := ba :: b :: g :: (f.blocks ++ (blocksL L ++ x.blocks))
theorem EdS.keep {own : List Nat} (h : EdS w ba fv b f g cp L x ix st) (hk : Kept own w w') (hn : ∀ k ∈ edT ba b g f L x, k ∉ own) : EdS w' ba fv b f g cp L x ix st := by
  refine ⟨hk.blk h.app (hn _ (by simp)), AE.In.same _ (fun k hm => hk.2 k (AE.In.lt _ h.inn k hm) (hn k ?_)) h.inn, h.nd, h.gn, h.an, AE.In.same _ (fun k hm => hk.2 k (AE.In.lt _ h.xin k hm) (hn k (by simp [hm]))) h.xin, h.xn⟩
  simp only [AE.blocks, List.mem_cons, List.mem_append] at hm ⊢
  rcases hm with h | h | h | h
  · exact .inr (.inl h)
  · exact .inr (.inr (.inl h))
  · exact .inr (.inr (.inr (.inl h)))
  · exact .inr (.inr (.inr (.inr (.inl h))))
end
theorem EdS.lt {w : World} {ba : Nat} {fv : Value} {b : Nat} {f : AE} {g cp : Nat} {L : List AE} {x : AE} {ix st : Int} (h : EdS w ba fv b f g cp L x ix st) : ∀ k ∈ edT ba b g f L x, k < w.heap.size := by
  intro k hk
  have h1 := AE.In.lt _ h.inn
  simp only [List.mem_cons, List.mem_append] at hk
  rcases hk with rfl | rfl | rfl | hk | hk | hk
  · exact Blk.lt h.app
  · exact h1 _ (by simp [AE.blocks])
  · exact h1 _ (by simp [AE.blocks])
  · exact h1 _ (by simp [AE.blocks, hk])
  · exact h1 _ (by simp [AE.blocks, hk])
  · exact AE.In.lt _ h.xin _ hk
theorem edT_grow {B ba b g g' : Nat} {f x : AE} {L L' : List AE} (h : Grows B (blocksL L) (blocksL L')) (hg : g' = g ∨ B ≤ g') : Grows B (edT ba b g f L x) (edT ba b g' f L' x) := by
  intro k hk
  simp only [List.mem_cons, List.mem_append] at hk ⊢
  rcases hk with rfl | rfl | rfl | hk | hk | hk
  · exact .inl (.inl rfl)
  · exact .inl (.inr (.inl rfl))
  · rcases hg with e | e
    · exact .inl (.inr (.inr (.inl e)))
    · exact .inr e
  · exact .inl (.inr (.inr (.inr (.inl hk))))
  · rcases h k hk with h | h
    · exact .inl (.inr (.inr (.inr (.inr (.inl h)))))
    · exact .inr h
  · exact .inl (.inr (.inr (.inr (.inr (.inr hk)))))
theorem EdOwn.aparts {w : World} {B0 b bc bo bh : Nat} {A : Option Addr} {ch : Nat} {hs : List Int} {vs : List Vst} {v : Value} {T T' : List Nat} (h : EdOwn w B0 b bc bo bh A ch hs vs v) (hT : Aparts B0 bc bo bh v T) (hg : Grows w.heap.size T T') : Aparts B0 bc bo bh v T' := by
  intro k hk
  rcases hg k hk with hk | hk
  · exact hT k hk
  · have l1 := h.cbox.lt
    have l2 := h.outs.box.lt
    have l3 := h.hbox.lt
    have g1 := h.ge.1
    exact ⟨by omega, by omega, by omega, by omega, fun hm => by have := (h.outs.lst.lt k (mem_rowOf.1 hm)).1; omega⟩
/-- The change that is due at a place. -/
def howAt (hs : List Int) (j : Nat) : Int := hs[j]?.getD 0
theorem howAt_lt {hs : List Int} {j : Nat} {u : Int} (h : hs[j]? = some u) : howAt hs j = u := by unfold howAt; rw [h]; rfl
theorem howAt_ge {hs : List Int} {j : Nat} (h : hs.length ≤ j) : howAt hs j = 0 := by unfold howAt; rw [List.getElem?_eq_none h]; rfl
theorem edN_zero (n : Node) : edN 0 n = [n] := rfl
/-- Behind the note: what the function holds, the tree, and the two apart. -/
theorem EdOwn.noted {w w' : World} {B0 b bc bo bh : Nat} {A : Option Addr} {ch : Nat} {hs : List Int} {vs vs' : List Vst} {v v' : Value} {T : List Nat} (h : EdOwn w B0 b bc bo bh A ch hs vs v) (hB : B0 ≤ w.heap.size) (hT : Aparts B0 bc bo bh v T) (hlt : ∀ k ∈ T, k < w.heap.size) (ho : Outs w' bo v' vs') (hk : Kept (bo :: rowOf v) w w') (hg : Grows w.heap.size (rowOf v) (rowOf v')) :
    EdOwn w' B0 b bc bo bh A ch hs vs' v' ∧ Aparts B0 bc bo bh v' T := by
  obtain ⟨n1, n2, n3, n4, n5⟩ := h.ne
  obtain ⟨g1, g2, g3, g4⟩ := h.ge
  refine ⟨⟨hk.blk h.cbox (by simp only [List.mem_cons, not_or]; exact ⟨n1, n4⟩), ho, hk.blk h.hbox (by simp only [List.mem_cons, not_or]; exact ⟨Ne.symm n3, n5⟩), fun j u hj => ?_, ⟨g1, g2, g3, fun k hk' => ?_⟩, n1, n2, n3, hg.not n4 h.cbox.lt, hg.not n5 h.hbox.lt⟩, fun k hk' => ?_⟩
  · obtain ⟨gb, off, h1, h2, h3⟩ := h.ints j u hj
    refine ⟨gb, off, h1, h2, (World.cell?_of_block (hk.2 gb (lt_of_cell h3) ?_)).trans h3⟩
    simp only [List.mem_cons, not_or]
    exact ⟨by omega, fun hm => by have := g4 _ hm; omega⟩
  · rcases hg k hk' with h | h
    · exact g4 k h
    · omega
  · obtain ⟨a1, a2, a3, a4, a5⟩ := hT k hk'
    exact ⟨a1, a2, a3, a4, hg.not a5 (hlt k hk')⟩
theorem edited_arg {w : World} {B0 ba : Nat} {fv : Value} {b bc bo bh : Nat} {f : AE} {g cp : Nat} {A : Option Addr} {ch : Nat} {hs : List Int} {vs : List Vst} {v : Value} {x : AE} (dn rest : List AE) (hG : Glob w) (hhs : ∀ u ∈ hs, 0 ≤ u ∧ u ≤ 5) (_hhl : hs.length ≤ 9000000000000000000)
    (hO : EdOwn w B0 b bc bo bh A ch hs vs v) (h : EdS w ba fv b f g cp (dn ++ x :: rest) x dn.length 1) (hT : Aparts B0 bc bo bh v (edT ba b g f (dn ++ x :: rest) x)) (hln : (dn ++ x :: rest).length + 2 ≤ 1000) (hvl : vs.length ≤ 1000) :
    Calls Tryz.prog 51 #[cur ba, .pointer (some ⟨bc, 0, none⟩), .pointer (some ⟨bo, 0, none⟩), .pointer (some ⟨bh, 0, none⟩)] w fun e w' => e = .returned (.bool true) ∧
      ∃ (mid : List AE) (g' cp' : Nat) (ix' st' : Int) (v' : Value), nodeL mid = edN (howAt hs vs.length) x.node ∧ ix' + st' = (dn.length : Int) + (mid.length : Int) ∧ EdS w' ba fv b f g' cp' (dn ++ (mid ++ rest)) x ix' st' ∧
        EdOwn w' B0 b bc bo bh A ch hs (vs ++ [⟨false, x.node.kind, x.node.text, ⟨fArgs, dn.length, sCall⟩⟩]) v' ∧ Aparts B0 bc bo bh v' (edT ba b g' f (dn ++ (mid ++ rest)) x) ∧ Kept (ba :: b :: g :: bo :: rowOf v) w w' ∧ (g' = g ∨ w.heap.size ≤ g') ∧ Grows w.heap.size (rowOf v) (rowOf v') := by
  obtain ⟨i0, hi0, hz0, hz1, hz2⟩ := info_parts Tryz.infoVisit
  have HI := Lib.hid (And.intro hi0 (And.intro hz0 (And.intro hz1 hz2)))
  have hat : AtCur w ba fv .nilFunc [] x (some (.call b f g cp (dn ++ x :: rest))) (callV b) fArgs (iterV ba) dn.length 1 dn.length := {
    app := h.app
    xin := h.xin
    pin := ⟨rfl, h.inn⟩
    idx := .inr ⟨rfl, rfl, by omega⟩
    glob := hG
    aw := ⟨by simp, by simp⟩
    ax := fun k hk => ⟨by simp, fun e => h.xn.1 (e ▸ hk)⟩
    ap := fun k hk => ⟨by simp, fun e => h.an (by subst e; exact hk)⟩ }
  have HV : Hid (∀ w', Sm w w' → Calls Tryz.prog 32 #[cur ba, .bool false] w' fun e w'' => e = .returned (Vst.agg ⟨false, x.node.kind, x.node.text, ⟨fArgs, dn.length, sCall⟩⟩) ∧ Kept [] w w'') := fun w' hw =>
    (visit_any false (hat.heapy hw)).mono (by rintro e w'' ⟨rfl, hb⟩; exact ⟨rfl, .nil_of hb hw⟩)
  have HP : Hid (∀ w', Sm w w' → Calls Tryz.prog 52 #[cur ba] w' fun e w'' => e = .returned (.iface 87 (.pointer (some ⟨b, 0, none⟩))) ∧ w' = w'') := fun w' hw => curParent_any _ _ (hat.heapy hw).app
  have HN : Hid (∀ w', Sm w w' → Calls Tryz.prog 44 #[cur ba] w' fun e w'' => e = .returned (.string ⟨#[65, 114, 103, 115]⟩) ∧ w' = w'') := fun w' hw => curName_any (hat.heapy hw).app
  have heq := eqlSame ⟨b, 0, none⟩
  have c0 : w.cell? ⟨bc, 0, none⟩ = some (.pointer (some ⟨b, 0, none⟩)) := hO.cbox.cell 0
  have o0 : w.cell? ⟨bo, 0, none⟩ = some v := hO.outs.box.cell 0
  have zc := hO.cbox.lt
  have zo := hO.outs.box.lt
  obtain ⟨kd, hkd⟩ : ∃ k, x.node.kind = k := ⟨_, rfl⟩
  obtain ⟨tx, htx⟩ : ∃ k, x.node.text = k := ⟨_, rfl⟩
  rw [hkd, htx] at HV ⊢
  have H := Lib.hid (And.intro hO (And.intro h (And.intro hT (And.intro hhs (And.intro hG hln)))))
  clear hi0 hz0 hz1 hz2 hat hO h hT hhs hG hln hkd htx
  go_enter Tryz.func51, Tryz.ntmps51
  go_wp2_with fail
  go_region_law
    (first
      | (go_simp; go_at_call 52; refine (HP.out _ (by exact ⟨rfl, rfl, rfl, rfl⟩)).mono ?_; rintro e w1 ⟨rfl, rfl⟩)
      | (go_simp; go_at_call 44; refine (HN.out _ (by exact ⟨rfl, rfl, rfl, rfl⟩)).mono ?_; rintro e w1 ⟨rfl, rfl⟩))
  all_goals
    clear c0 zc heq
    go_wp2_with fail
    go_region_law
      (first
        | (go_simp; go_at_call 32; refine (HV.out _ (by exact ⟨rfl, rfl, rfl, rfl⟩)).mono ?_; rintro e w1 ⟨rfl, hb1⟩; unfold Vst.agg; have d0 := (hb1.nil_cell (p := ⟨bo, 0, none⟩) zo).trans o0; have zd := Nat.lt_of_lt_of_le zo hb1.1; have HB := Lib.hid hb1; clear hb1)
        | (refine step_append_lsts _ (by rfl) _ _ _ (by rfl) 54 i0 _ 6 80 Tryz.underlying27 HI.out.1 HI.out.2.1 HI.out.2.2.1 HI.out.2.2.2 rfl (by decide) 0 _ v _ rfl (H.out.1.outs.lst.kept (HB.out.alloc _)) ⟨w1.heap.size, 0, none⟩ 1 1 (Vst.cells ⟨false, kd, tx, ⟨fArgs, dn.length, sCall⟩⟩) rfl rfl (by decide) (cells_new rfl _ rfl) (Vst.cells_one _) (by unfold maxLen; omega) (by omega) ?_; intro g1 cap1 w3 hrow hg hg'; obtain ⟨n1, n2, n3, n4, n5, n6⟩ := H.out.1.outs.next (x := ⟨false, kd, tx, ⟨fArgs, dn.length, sCall⟩⟩) (HB.out.alloc _) hrow hg hg'; have zm := Nat.lt_of_lt_of_le zo n5.1; have HN := Lib.hid (And.intro n3 (And.intro n4 (And.intro n5 n6))); clear n3 n4 n5 n6 hrow hg hg'))
    all_goals
      have hgr : Grows w.heap.size (rowOf v) (rowOf (.slice (some ⟨g1, 0, none⟩) (vs.length + 1) cap1)) := fun k hk => by
        have e : k = g1 := List.mem_singleton.1 hk
        rw [e]
        exact HN.out.2.2.2
      have hE := H.out.1.noted (by have := H.out.1.ge.1; have := H.out.1.cbox.lt; omega) H.out.2.2.1 H.out.2.1.lt HN.out.1 HN.out.2.1 hgr
      have hS := H.out.2.1.keep HN.out.2.1 (fun k hk => by
        obtain ⟨_, _, a3, _, a5⟩ := H.out.2.2.1 k hk
        simp only [List.mem_cons, not_or]
        exact ⟨a3, a5⟩)
      have hb3 := HN.out.2.2.1.blk H.out.1.hbox H.out.1.ne.2.2.2.2
      have k0 : w3.cell? ⟨bh, 0, none⟩ = some (.slice A hs.length ch) := hb3.cell 0
      have zh := hb3.lt
      have hne : bh ≠ bo := Ne.symm H.out.1.ne.2.2.1
      have hne2 : bo ≠ bh := H.out.1.ne.2.2.1
      have hw1 : IntKind.i64.wrap ((vs.length : Int) + 1 - 1) = (vs.length : Int) := by rw [IntWalk.i64_in _ (by omega)]; omega
      have hw2 : IntKind.i64.wrap (vs.length : Int) = (vs.length : Int) := IntWalk.i64_in _ (by omega)
      have HE := Lib.hid (And.intro hE (And.intro hS (And.intro HN.out.2.1 hgr)))
      clear hE hS hb3 hgr
      by_cases hj : vs.length < hs.length
      · obtain ⟨u, hu⟩ : ∃ u, hs[vs.length]? = some u := ⟨_, List.getElem?_eq_getElem hj⟩
        obtain ⟨gb, off, hA, hgb, hcell⟩ := H.out.1.ints _ _ hu
        subst hA
        have hgo : gb ≠ bo := by have := H.out.1.ge.2.1; omega
        have hgv : gb ∉ rowOf v := fun hm => by have := H.out.1.ge.2.2.2 _ hm; omega
        have k1 : w3.cell? ⟨gb, off + vs.length, none⟩ = some (.int .i64 u) := (World.cell?_of_block (HN.out.2.2.1.2 gb (lt_of_cell hcell) hgv)).trans hcell
        have zg := lt_of_cell k1
        have q1 : (0 : Int) ≤ (vs.length : Int) := by omega
        have q2 : (vs.length : Int) < (hs.length : Int) := by omega
        have HC := Lib.hid (change_any dn rest u (H.out.2.2.2.1 u (List.mem_of_getElem? hu)) HE.out.2.1 H.out.2.2.2.2.2)
        have HU := Lib.hid (howAt_lt hu)
        clear hu hgb hcell hgv hj
        go_wp2_with fail
        refine HC.out.mono ?_
        rintro e w6 ⟨rfl, mid, g', cp', ix', st', h1, h2, h3, h4, h5, h6⟩
        have HF := Lib.hid (And.intro h1 (And.intro h2 (And.intro h3 (And.intro h4 (And.intro h5 h6)))))
        clear h1 h2 h3 h4 h5 h6
        go_wp2_with fail
        go_ret
        have hk6 : Kept (edT ba b g f (dn ++ x :: rest) x) (w3.setCell ⟨bo, 0, none⟩ (.slice (some ⟨g1, 0, none⟩) (vs.length + 1) cap1)) w6 := HF.out.2.2.2.2.1.more (fun k hk => by
          simp only [List.mem_cons, List.not_mem_nil, or_false] at hk ⊢
          rcases hk with h | h | h
          · exact .inl h
          · exact .inr (.inl h)
          · exact .inr (.inr (.inl h)))
        refine ⟨rfl, mid, g', cp', ix', st', _, by rw [HU.out]; exact HF.out.1, HF.out.2.1, HF.out.2.2.1, HE.out.1.1.keep HE.out.1.2 hk6, HE.out.1.1.aparts HE.out.1.2 (edT_grow HF.out.2.2.2.1 HF.out.2.2.2.2.2), ?_, HF.out.2.2.2.2.2.imp id (fun h => Nat.le_trans HE.out.2.2.1.1 h), HE.out.2.2.2⟩
        refine (HE.out.2.2.1.more (fun k hk => ?_)).trans HF.out.2.2.2.2.1 (fun k hk => ?_)
        · simp only [List.mem_cons] at hk ⊢
          exact .inr (.inr (.inr hk))
        · simp only [List.mem_cons, List.not_mem_nil, or_false] at hk ⊢
          rcases hk with h | h | h
          · exact .inl (.inl h)
          · exact .inl (.inr (.inl h))
          · exact .inl (.inr (.inr (.inl h)))
      · have q2 : (hs.length : Int) ≤ (vs.length : Int) := by omega
        have HU := Lib.hid (howAt_ge (hs := hs) (Nat.le_of_not_lt hj))
        clear hj
        go_wp2_with fail
        go_ret
        refine ⟨rfl, [x], g, cp, dn.length, 1, _, by rw [HU.out]; rfl, by simp, HE.out.2.1, HE.out.1.1, HE.out.1.2, HE.out.2.2.1.more (fun k hk => ?_), .inl rfl, HE.out.2.2.2⟩
        simp only [List.mem_cons] at hk ⊢
        exact .inr (.inr (.inr hk))
end Go.Proofs.YtgimbgpebpippaaGreatDoor
