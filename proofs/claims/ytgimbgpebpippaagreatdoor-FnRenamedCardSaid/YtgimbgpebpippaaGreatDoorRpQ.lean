/- apply at whatever node, for a client that replaces. -/
import Derived.Test.YtgimbgpebpippaaGreatDoorRpM
import Derived.Test.YtgimbgpebpippaaGreatDoorApR
namespace Go.Proofs.YtgimbgpebpippaaGreatDoor
open Go.RowKit
set_option maxRecDepth 100000
section
variable {rp : Bool → Node → Node} {fv : Value} {ba : Nat} {cb : List Nat} {Q : World → Prop} {fp fq : Value} {w : World} {L : Loc} {x : AE} {ix st : Int} {pv0 : Value} {nm0 : ByteArray} {o0 : Option Addr} {nv0 : Value}
/-- The client's function at a node, as it now stands. -/
theorem rp_fn (hC : RCl rp fv ba cb Q) (hP : RPre cb Q w ba fp fq L x ix st pv0 nm0 o0 nv0) {sv : Array Value} {x1 : AE} {w1 : World} (hM : RMid ba fp fq L.pv L.nm (L.it ba) ix st [(w.heap.size, 119, sv)] w x x1 w1) :
    FnSo fv ba w1 (fun r w2 => r = true ∧ RFin ba fp fq L x ix st sv w (rp L.isSel x1.node) w2) := by
  obtain ⟨F, cps, h1, h2, h3⟩ := hC.fn
  refine .inr ⟨F, cps, h1, h2, fun w' hw => ?_⟩
  have hM' := RMid.heapy _ _ hw hM
  refine (h3 fp fq L x1 ix st w' (hM'.at hP) (RMid.q hC hP hM')).mono ?_
  rintro e w2 ⟨rfl, y, hn, hT, _⟩
  exact ⟨true, rfl, rfl, hn ▸ hM'.fin hP hT⟩
/-- The frame at a node that stays until the end: no name, or a client that comes behind. -/
theorem rp_frame (hC : RCl rp fv ba cb Q) (hm : RMode rp fv fp fq) (hP : RPre cb Q w ba fp fq L x ix st pv0 nm0 o0 nv0) {K : KidsRule} (hF : FrameRule ba x.val K) (hx : fp = .nilFunc ∨ ∀ b nm, x ≠ .ident b nm) (kn : Node) (hk : kn.kind = x.node.kind)
    (hK : ∀ w1 (sv : Saved), RMid ba fp fq L.pv L.nm (L.it ba) ix st sv w x x w1 → K w1 (fun w2 => ∃ x1, x1.node = kn ∧ RMid ba fp fq L.pv L.nm (L.it ba) ix st sv w x x1 w2) (fun _ => False)) :
    Calls Tryz.prog applyF #[.pointer (some ⟨ba, 0, none⟩), L.pv, .string L.nm, L.it ba, x.val] w (fun e w' => e = .returned (.tuple #[]) ∧ ∃ y, y.node = rp L.isSel kn ∧ RTurn ba L x y w w' ∧ App w' ba fp fq pv0 nm0 (.pointer o0) nv0 ix st) := by
  obtain ⟨t, u, hpv⟩ := L.pv_one
  obtain ⟨o, hit⟩ := L.it_ptr ba
  have hst := RMid.start hP #[pv0, .string nm0, .pointer o0, nv0]
  have hfr := hF w fp fq t u L.nm o ix st pv0 nm0 o0 nv0
    (fun r w1 => r = true ∧ RMid ba fp fq L.pv L.nm (L.it ba) ix st [(w.heap.size, 119, #[pv0, .string nm0, .pointer o0, nv0])] w x x w1)
    (fun w2 => ∃ x1, x1.node = kn ∧ RMid ba fp fq L.pv L.nm (L.it ba) ix st [(w.heap.size, 119, #[pv0, .string nm0, .pointer o0, nv0])] w x x1 w2)
    (fun r w2 => r = true ∧ RFin ba fp fq L x ix st #[pv0, .string nm0, .pointer o0, nv0] w (rp L.isSel kn) w2)
    (fun _ => False) hP.app hP.old
  rw [← hpv, ← hit] at hfr
  refine (hfr ?_ (fun r w1 w2 e h => ⟨h.1, RMid.heapy _ _ e h.2⟩) (fun r w1 h => h.2.fr) (fun w1 h => hK w1 _ h.2) (fun w1 w2 e ⟨x1, h1, h2⟩ => ⟨x1, h1, RMid.heapy _ _ e h2⟩) (fun w1 ⟨x1, h1, h2⟩ => h2.fr) ?_ (fun r w1 w2 e h => ⟨h.1, RFin.heapy _ _ e h.2⟩) (fun r w1 h => h.2.fr)).mono ?_
  · rcases hm with ⟨e1, _⟩ | ⟨e1, _, hid⟩
    · exact .inl ⟨e1, rfl, hst⟩
    · have hni : ∀ b nm, x ≠ .ident b nm := by
        rcases hx with h | h
        · obtain ⟨F, cps, h1, _⟩ := hC.fn
          rw [e1, h1] at h
          cases h
        · exact h
      obtain ⟨F, cps, h1, h2, h3⟩ := hC.fn
      refine .inr ⟨F, cps, e1.trans h1, h2, fun w' hw => ?_⟩
      have hM' := RMid.heapy _ _ hw hst
      refine (h3 fp fq L x ix st w' (hM'.at hP) (RMid.q hC hP hM')).mono ?_
      rintro e w2 ⟨rfl, y, hn, hT, hl⟩
      have hy := hl hni (hid _ _ (kind_name hni))
      subst hy
      exact ⟨true, rfl, rfl, hM'.next (hT.none (hM'.at hP))⟩
  · rintro w1 ⟨x1, h1, h2⟩
    rcases hm with ⟨_, e2⟩ | ⟨e1, e2, hid⟩
    · have := rp_fn hC hP h2
      rw [← e2] at this
      rw [← h1]
      exact this
    · have hni : ∀ b nm, x ≠ .ident b nm := by
        rcases hx with h | h
        · obtain ⟨F, cps, h1, _⟩ := hC.fn
          rw [e1, h1] at h
          cases h
        · exact h
      refine .inl ⟨e2, rfl, ?_⟩
      rw [hid _ _ (by rw [hk]; exact kind_name hni), ← h1]
      exact h2.fin_stay hP
  · rintro e w' (⟨rfl, w1, hr, rfl⟩ | ⟨rfl, hp⟩)
    · rcases hr with ⟨h, _⟩ | ⟨_, h⟩
      · cases h
      · exact ⟨rfl, h.out hP⟩
    · rcases hp with h | ⟨h, _⟩
      · exact h.elim
      · cases h
/-- The frame at a name, for a client that comes ahead. -/
theorem rp_frame_name (hC : RCl rp fv ba cb Q) (b : Nat) (nm : ByteArray) (e1 : fp = fv) (e2 : fq = .nilFunc) (hP : RPre cb Q w ba fp fq L (.ident b nm) ix st pv0 nm0 o0 nv0) :
    Calls Tryz.prog applyF #[.pointer (some ⟨ba, 0, none⟩), L.pv, .string L.nm, L.it ba, (AE.ident b nm).val] w (fun e w' => e = .returned (.tuple #[]) ∧ ∃ y, y.node = rp L.isSel (AE.ident b nm).node ∧ RTurn ba L (.ident b nm) y w w' ∧ App w' ba fp fq pv0 nm0 (.pointer o0) nv0 ix st) := by
  obtain ⟨t, u, hpv⟩ := L.pv_one
  obtain ⟨o, hit⟩ := L.it_ptr ba
  have hst := RMid.start hP #[pv0, .string nm0, .pointer o0, nv0]
  have hfr := frIdent ba b w fp fq t u L.nm o ix st pv0 nm0 o0 nv0
    (fun r w2 => r = true ∧ RFin ba fp fq L (.ident b nm) ix st #[pv0, .string nm0, .pointer o0, nv0] w (rp L.isSel (AE.ident b nm).node) w2)
    (fun w2 => RFin ba fp fq L (.ident b nm) ix st #[pv0, .string nm0, .pointer o0, nv0] w (rp L.isSel (AE.ident b nm).node) w2)
    (fun r w2 => r = true ∧ RFin ba fp fq L (.ident b nm) ix st #[pv0, .string nm0, .pointer o0, nv0] w (rp L.isSel (AE.ident b nm).node) w2)
    (fun _ => False) hP.app hP.old
  rw [← hpv, ← hit] at hfr
  refine (hfr ?_ (fun r w1 w2 e h => ⟨h.1, RFin.heapy _ _ e h.2⟩) (fun r w1 h => h.2.fr) (fun w1 h => h.2) RFin.heapy (fun w1 h => h.fr) (fun w1 h => .inl ⟨e2, rfl, h⟩) (fun r w1 w2 e h => ⟨h.1, RFin.heapy _ _ e h.2⟩) (fun r w1 h => h.2.fr)).mono ?_
  · have := rp_fn hC hP hst
    rw [e1] at this ⊢
    exact this
  · rintro e w' (⟨rfl, w1, hr, rfl⟩ | ⟨rfl, hp⟩)
    · rcases hr with ⟨h, _⟩ | ⟨_, h⟩
      · cases h
      · exact ⟨rfl, h.out hP⟩
    · rcases hp with h | ⟨h, _⟩
      · exact h.elim
      · cases h
end
end Go.Proofs.YtgimbgpebpippaaGreatDoor
namespace Go.Proofs.YtgimbgpebpippaaGreatDoor
open Go.RowKit
set_option maxRecDepth 100000
section
variable {rp : Bool → Node → Node} {fv : Value} {ba : Nat} {cb : List Nat} {Q : World → Prop} {fp fq : Value} {w : World} {L : Loc} {x : AE} {ix st : Int} {pv0 : Value} {nm0 : ByteArray} {o0 : Option Addr} {nv0 : Value}
/-- An expression below, in a cell of the node's block. -/
theorem rp_one (hC : RCl rp fv ba cb Q) (hP : RPre cb Q w ba fp fq L x ix st pv0 nm0 o0 nv0) {k : Nat} (ih : RUpTo rp cb Q ba fp fq k) {sv : Saved} {x1 : AE} {w1 : World}
    (hM : RMid ba fp fq L.pv L.nm (L.it ba) ix st sv w x x1 w1) {L' : Loc} {y : AE} {fill : AE → AE} {A C : List Nat} (hH : Hole x1 L' y fill A C) (hsz : SizeOf.sizeOf y < k) (hix : L'.At ix) (hns : L'.isSel = false) (b c : Nat) (nk : ByteArray) (hnk : L'.nm = nk) (hit : L'.it ba = .pointer none) (hbc : w1.cell? ⟨b, c, none⟩ = some y.val) {TV : Value} (hTV : TV = x.val) {R : World → Prop}
    (hR : ∀ y' w2, y'.node = y.tr rp false → RMid ba fp fq L.pv L.nm (L.it ba) ix st sv w x (fill y') w2 → R w2) :
    kOne ba b c TV nk w1 R (fun _ => False) := by
  subst hTV hnk
  obtain ⟨t, u, hv⟩ := y.val_one
  obtain ⟨pt, pu, hpv⟩ := L.pv_one
  obtain ⟨o, hip⟩ := L.it_ptr ba
  rw [hpv, hip] at hM hR
  refine ⟨t, u, by rw [hbc, hv], fun w' hw => ?_⟩
  have hk := rp_kid hC hP ih hM hH hsz hix (fun h => by have := Loc.isSel_of h; rw [hns] at this; cases this) w' hw
  rw [hv, hit] at hk
  refine hk.mono (fun e w2 ho => ho.mono ?_ (fun h => h))
  rintro ⟨y', h1, _, h3⟩
  rw [hns] at h1
  exact hR y' w2 h1 h3
/-- A selector's name. -/
theorem rp_ptr (hC : RCl rp fv ba cb Q) (hP : RPre cb Q w ba fp fq L x ix st pv0 nm0 o0 nv0) {k : Nat} (ih : RUpTo rp cb Q ba fp fq k) {sv : Saved} {w1 : World} {b sb : Nat} {y : AE} {nm : ByteArray}
    (hM : RMid ba fp fq L.pv L.nm (L.it ba) ix st sv w x (.sel b y sb nm) w1) (hsz : SizeOf.sizeOf (AE.ident sb nm) < k) {TV : Value} (hTV : TV = x.val) {R : World → Prop}
    (hR : ∀ sb' nm' w2, .mk sName nm' [] = rp true (.mk sName nm []) → RMid ba fp fq L.pv L.nm (L.it ba) ix st sv w x (.sel b y sb' nm') w2 → R w2) :
    kPtr ba b 1 TV fSel 79 w1 R (fun _ => False) := by
  subst hTV
  obtain ⟨pt, pu, hpv⟩ := L.pv_one
  obtain ⟨o, hip⟩ := L.it_ptr ba
  rw [hpv, hip] at hM hR
  refine ⟨some ⟨sb, 0, none⟩, hM.inn.1.cell 1, fun w' hw => ?_⟩
  have hk := rp_kid hC hP ih hM (Hole.selS b y sb nm) hsz trivial (fun _ => ⟨_, _, rfl⟩) w' hw
  refine hk.mono (fun e w2 ho => ho.mono ?_ (fun h => h))
  rintro ⟨y', h1, h2, h3⟩
  obtain ⟨sb', nm', rfl⟩ := h2 trivial
  exact hR sb' nm' w2 h1 h3
theorem rp_leaf_ident (hC : RCl rp fv ba cb Q) (hm : RMode rp fv fp fq) (b : Nat) (nm : ByteArray) (hP : RPre cb Q w ba fp fq L (.ident b nm) ix st pv0 nm0 o0 nv0) :
    Calls Tryz.prog applyF #[.pointer (some ⟨ba, 0, none⟩), L.pv, .string L.nm, L.it ba, (AE.ident b nm).val] w (fun e w' => e = .returned (.tuple #[]) ∧ ∃ y, y.node = (AE.ident b nm).tr rp L.isSel ∧ RTurn ba L (.ident b nm) y w w' ∧ App w' ba fp fq pv0 nm0 (.pointer o0) nv0 ix st) := by
  rcases id hm with ⟨e1, _⟩ | ⟨e1, e2, _⟩
  · refine (rp_frame hC hm hP (frIdent ba b) (.inl e1) (AE.ident b nm).node rfl (fun w1 sv hM => ⟨_, rfl, hM⟩)).mono ?_
    rintro e w' ⟨rfl, y, h1, h2⟩
    exact ⟨rfl, y, by rw [h1, AE.tr]; rfl, h2⟩
  · refine (rp_frame_name hC b nm e1 e2 hP).mono ?_
    rintro e w' ⟨rfl, y, h1, h2⟩
    exact ⟨rfl, y, by rw [h1, AE.tr]; rfl, h2⟩
end
end Go.Proofs.YtgimbgpebpippaaGreatDoor
namespace Go.Proofs.YtgimbgpebpippaaGreatDoor
open Go.RowKit
set_option maxRecDepth 100000
section
variable {rp : Bool → Node → Node} {fv : Value} {ba : Nat} {cb : List Nat} {Q : World → Prop} {fp fq : Value} {w : World} {L : Loc} {x x1 : AE} {ix st : Int} {pv0 : Value} {nm0 : ByteArray} {o0 : Option Addr} {nv0 : Value} {pv : Value} {nm : ByteArray} {it : Value} {sv : Saved} {w1 : World}
theorem RMid.setIx (hb : ba ∉ x1.blocks) (h : RMid ba fp fq pv nm it ix st sv w x x1 w1) (v : Int) : RMid ba fp fq pv nm it v st sv w x x1 (w1.setCell ⟨ba, 6, none⟩ (.int .i64 v)) := by
  have hf : ∀ k, k ≠ ba → (w1.setCell ⟨ba, 6, none⟩ (.int .i64 v)).heap[k]? = w1.heap[k]? := fun k hk => Below.heap_setCell _ _ _ _ (by exact hk)
  exact ⟨Blk.set_ h.app 6 _, AE.In.same x1 (fun b hb1 => hf b (fun e => hb (e ▸ hb1))) h.inn, h.val, h.kept.set (.inl List.mem_cons_self) _, h.sav.same (fun k _ _ hn => hf k hn), h.grow, h.nodup⟩
theorem RMid.setSt (hb : ba ∉ x1.blocks) (h : RMid ba fp fq pv nm it ix st sv w x x1 w1) (v : Int) : RMid ba fp fq pv nm it ix v sv w x x1 (w1.setCell ⟨ba, 7, none⟩ (.int .i64 v)) := by
  have hf : ∀ k, k ≠ ba → (w1.setCell ⟨ba, 7, none⟩ (.int .i64 v)).heap[k]? = w1.heap[k]? := fun k hk => Below.heap_setCell _ _ _ _ (by exact hk)
  exact ⟨Blk.set_ h.app 7 _, AE.In.same x1 (fun b hb1 => hf b (fun e => hb (e ▸ hb1))) h.inn, h.val, h.kept.set (.inl List.mem_cons_self) _, h.sav.same (fun k _ _ hn => hf k hn), h.grow, h.nodup⟩
theorem RMid.alloc (h : RMid ba fp fq pv nm it ix st sv w x x1 w1) (o : Obj) : RMid ba fp fq pv nm it ix st sv w x x1 (w1.alloc o) :=
  ⟨Blk.alloc h.app _, AE.In.same x1 (fun b hb1 => Below.heap_alloc w1 o b (AE.In.lt x1 h.inn b hb1)) h.inn, h.val, h.kept.alloc _, h.sav.same (fun k hlt _ _ => Below.heap_alloc w1 o k hlt), h.grow, h.nodup⟩
theorem RMid.save (h : RMid ba fp fq pv nm it ix st sv w x x1 w1) (T : TypeId) (cs : Array Value) : RMid ba fp fq pv nm it ix st ((w1.heap.size, T, cs) :: sv) w x x1 (w1.alloc (.cells cs T)) := by
  have ha := h.alloc (.cells cs T)
  refine ⟨ha.app, ha.inn, ha.val, ha.kept, fun e he => ?_, ha.grow, ha.nodup⟩
  rcases List.mem_cons.1 he with rfl | he
  · exact ⟨Blk.new w1 T cs, fun hm => Nat.lt_irrefl _ (AE.In.lt x1 h.inn _ hm), by have := Blk.lt h.app; simp only; omega⟩
  · exact ha.sav e he
theorem RMid.drop {e : Nat × TypeId × Array Value} (h : RMid ba fp fq pv nm it ix st (e :: sv) w x x1 w1) : RMid ba fp fq pv nm it ix st sv w x x1 w1 :=
  ⟨h.app, h.inn, h.val, h.kept, fun e he => h.sav e (List.mem_cons_of_mem _ he), h.grow, h.nodup⟩
/-- The arguments of a call. -/
theorem rp_list (hC : RCl rp fv ba cb Q) (hP : RPre cb Q w ba fp fq L x ix st pv0 nm0 o0 nv0) {k : Nat} (ih : RUpTo rp cb Q ba fp fq k) (b : Nat) (f : AE) (g cap : Nat) (args : List AE) (hsz : ∀ y ∈ args, SizeOf.sizeOf y < k)
    (hM : RMid ba fp fq L.pv L.nm (L.it ba) ix st sv w x (.call b f g cap args) w1) {TV : Value} (hTV : TV = x.val) {R : World → Prop}
    (hR : ∀ args' w2, nodeL args' = trL rp args → RMid ba fp fq L.pv L.nm (L.it ba) ix st sv w x (.call b f g cap args') w2 → R w2) :
    kList ba TV fArgs w1 R (fun _ => False) := by
  subst hTV
  intro w' hw
  have hM' := RMid.heapy _ _ hw hM
  obtain ⟨pt, pu, hpv⟩ := L.pv_one
  obtain ⟨o, hip⟩ := L.it_ptr ba
  rw [hpv, hip] at hM' hR
  have hlen : args.length ≤ 1000 := hM'.inn.2.2.1.2
  have hbn : ∀ y : AE, Grows w.heap.size x.blocks y.blocks → ba ∉ y.blocks := fun y h => h.not hP.abx (Blk.lt hP.app)
  have hv : x.val = .iface 87 (.pointer (some ⟨b, 0, none⟩)) := hM'.val.symm
  let J : LD → World → Prop := fun d w1 => d.g = g ∧ d.n = args.length ∧ d.cp = cap ∧ d.i ≤ args.length ∧ d.m = args.length - d.i ∧ ∃ (st' : Int) (dn : List AE), dn.length = d.i ∧ nodeL dn = trL rp (args.take d.i) ∧
    RMid ba fp fq (.iface pt pu) L.nm (.pointer o) d.i st' ((w'.heap.size, 121, #[.int .i64 ix, .int .i64 st]) :: sv) w x (.call b f g cap (dn ++ args.drop d.i)) w1
  have happ := hM'.app
  rw [hv]
  refine (applyList_rule (J := J) (d0 := ⟨g, args.length, cap, 0, args.length⟩) (PC := fun _ => False) (list_callArgs b) happ ?_ ?_).mono ?_
  · constructor
    case heapy => exact fun d w1 w3 e h => ⟨h.1, h.2.1, h.2.2.1, h.2.2.2.1, h.2.2.2.2.1, by obtain ⟨st', dn, h1, h2, h3⟩ := h.2.2.2.2.2; exact ⟨st', dn, h1, h2, RMid.heapy _ _ e h3⟩⟩
    case alloc => exact fun d w1 v h => ⟨h.1, h.2.1, h.2.2.1, h.2.2.2.1, h.2.2.2.2.1, by obtain ⟨st', dn, h1, h2, h3⟩ := h.2.2.2.2.2; exact ⟨st', dn, h1, h2, h3.alloc _⟩⟩
    case sl =>
      rintro d w1 ⟨rfl, h2, rfl, h4, h5, st', dn, h6, h7, h8⟩
      have hc := h8.inn.1.cell 2
      have hl : (dn ++ args.drop d.i).length = d.n := by rw [List.length_append, List.length_drop, h6, h2]; omega
      rw [hl] at hc
      exact hc
    case app =>
      rintro d w1 ⟨h1, h2, h3, h4, h5, st', dn, h6, h7, h8⟩
      exact ⟨_, _, _, _, _, _, st', h8.app⟩
    case sav =>
      rintro d w1 ⟨h1, h2, h3, h4, h5, st', dn, h6, h7, h8⟩
      exact (h8.sav _ List.mem_cons_self).1
    case bd =>
      rintro d w1 ⟨h1, h2, h3, h4, h5, _⟩
      omega
    case elt =>
      rintro d w1 ⟨h1, h2, h3, h4, h5, st', dn, h6, h7, h8⟩ hlt
      obtain ⟨y, hy⟩ : ∃ y, args[d.i]? = some y := ⟨args[d.i]'(by omega), List.getElem?_eq_getElem (by omega)⟩
      have hmem := List.mem_of_getElem? hy
      obtain ⟨hj, ht, _⟩ := take_next hy
      have hd : args.drop d.i = y :: args.drop (d.i + 1) := by
        rw [List.drop_eq_getElem_cons hj]
        rw [List.getElem?_eq_getElem hj] at hy
        rw [Option.some.inj hy]
      rw [hd] at h8
      have hH := Hole.arg b f g cap dn y (args.drop (d.i + 1))
      obtain ⟨t, u, hyv⟩ := y.val_one
      refine ⟨t, u, ?_, fun w3 hw3 => ?_⟩
      · have hc := h8.inn.2.2.1.1.cell (i := d.i) (v := y.val) (by rw [← h6]; simp)
        rw [h1, hc, hyv]
      · have hM3 := RMid.setSt (hbn _ h8.grow) h8 1
        have hk := rp_kid hC hP ih hM3 hH (hsz y hmem) (by show (d.i : Int) = _; rw [h6]) (fun h => h.elim) w3 hw3
        rw [hv, hyv] at hk
        refine hk.mono (fun e w4 ho => ho.mono ?_ (fun h => h))
        rintro ⟨y', hn, _, hM4⟩
        refine ⟨⟨g, args.length, cap, d.i + 1, args.length - (d.i + 1)⟩, _, _, _, _, _, _, d.i, 1, hM4.app, by simp only; omega, by simp only; omega, rfl, rfl, rfl, by simp only; omega, rfl, 1, dn ++ [y'], by simp [h6], ?_, ?_⟩
        · simp only
          rw [ht, nodeL_append, h7, trL_eq, trL_eq, List.map_append]
          simp only [nodeL, List.map_cons, List.map_nil]
          rw [hn]
          rfl
        · have := RMid.setIx (hbn _ hM4.grow) hM4 (d.i + 1)
          simp only
          rw [List.append_assoc]
          exact this
  · refine ⟨rfl, rfl, rfl, Nat.zero_le _, rfl, st, [], rfl, rfl, ?_⟩
    have := RMid.save (RMid.setIx (hbn _ hM'.grow) hM' 0) 121 #[.int .i64 ix, .int .i64 st]
    simpa using this
  · intro e w3 ho
    refine ho.mono ?_ (fun h => h)
    rintro ⟨d, w1, ⟨h1, h2, h3, h4, h5, st', dn, h6, h7, h8⟩, hle, rfl⟩
    have hi : d.i = args.length := by omega
    rw [hi, List.take_length] at h7
    rw [hi, List.drop_length, List.append_nil] at h8
    exact hR dn _ h7 (RMid.setSt (hbn _ h8.grow) (RMid.setIx (hbn _ h8.grow) h8.drop ix) st)
end
end Go.Proofs.YtgimbgpebpippaaGreatDoor
namespace Go.Proofs.YtgimbgpebpippaaGreatDoor
open Go.RowKit
set_option maxRecDepth 100000
section
variable {rp : Bool → Node → Node} {fv : Value} {ba : Nat} {cb : List Nat} {Q : World → Prop} {fp fq : Value}
theorem apply_rp (hC : RCl rp fv ba cb Q) (hm : RMode rp fv fp fq) (k : Nat) : RUpTo rp cb Q ba fp fq k := by
  induction k with
  | zero => intro x hs; omega
  | succ k ih =>
  intro x hs w L ix st pv0 nm0 o0 nv0 hP
  cases x with
  | ident b n => exact rp_leaf_ident hC hm b n hP
  | lit b n =>
    refine (rp_frame hC hm hP (frLit ba b) (.inr (by simp)) (AE.lit b n).node rfl (fun w1 sv hM => ⟨_, rfl, hM⟩)).mono ?_
    rintro e w' ⟨rfl, y, h1, h2⟩
    exact ⟨rfl, y, by rw [h1, AE.tr]; rfl, h2⟩
  | paren b y =>
    rw [AE.paren.sizeOf_spec] at hs
    refine (rp_frame hC hm hP (frParen ba b) (.inr (by simp)) (.mk sParen sEmpty [y.tr rp false]) rfl (fun w1 sv hM => ?_)).mono ?_
    · exact rp_one hC hP ih hM (Hole.paren b y) (by omega) trivial rfl b 1 fX rfl rfl (hM.inn.1.cell 1) rfl (fun y' w2 h1 h2 => ⟨_, by rw [AE.node, h1], h2⟩)
    · rintro e w' ⟨rfl, y, h1, h2⟩
      exact ⟨rfl, y, by rw [h1, AE.tr], h2⟩
  | star b y =>
    rw [AE.star.sizeOf_spec] at hs
    refine (rp_frame hC hm hP (frStar ba b) (.inr (by simp)) (.mk sUn ⟨#[42]⟩ [y.tr rp false]) rfl (fun w1 sv hM => ?_)).mono ?_
    · exact rp_one hC hP ih hM (Hole.star b y) (by omega) trivial rfl b 1 fX rfl rfl (hM.inn.1.cell 1) rfl (fun y' w2 h1 h2 => ⟨_, by rw [AE.node, h1], h2⟩)
    · rintro e w' ⟨rfl, y, h1, h2⟩
      exact ⟨rfl, y, by rw [h1, AE.tr], h2⟩
  | unary b op y =>
    rw [AE.unary.sizeOf_spec] at hs
    refine (rp_frame hC hm hP (frUnary ba b) (.inr (by simp)) (.mk sUn (tok op) [y.tr rp false]) rfl (fun w1 sv hM => ?_)).mono ?_
    · exact rp_one hC hP ih hM (Hole.unary b op y) (by omega) trivial rfl b 2 fX rfl rfl (hM.inn.2.1.cell 2) rfl (fun y' w2 h1 h2 => ⟨_, by rw [AE.node, h1], h2⟩)
    · rintro e w' ⟨rfl, y, h1, h2⟩
      exact ⟨rfl, y, by rw [h1, AE.tr], h2⟩
  | sel b y sb n =>
    have hpos := AE.sizeOf_pos y
    rw [AE.sel.sizeOf_spec] at hs
    refine (rp_frame hC hm hP (frSel ba b) (.inr (by simp)) (.mk sSel (rp true (.mk sName n [])).text [y.tr rp false]) rfl (fun w1 sv hM => ?_)).mono ?_
    · refine ⟨fun w2 => ∃ y', y'.node = y.tr rp false ∧ RMid ba fp fq L.pv L.nm (L.it ba) ix st sv w (.sel b y sb n) (.sel b y' sb n) w2, rp_one hC hP ih hM (Hole.selX b y sb n) (by omega) trivial rfl b 0 fX rfl rfl (hM.inn.1.cell 0) rfl (fun y' w2 h1 h2 => ⟨y', h1, h2⟩), ?_⟩
      rintro w2 ⟨y', h1, h2⟩
      exact rp_ptr hC hP ih h2 (by rw [AE.ident.sizeOf_spec]; omega) rfl (fun sb' nm' w3 h3 h4 => ⟨_, by rw [AE.node, h1, ← h3]; rfl, h4⟩)
    · rintro e w' ⟨rfl, y, h1, h2⟩
      exact ⟨rfl, y, by rw [h1, AE.tr], h2⟩
  | binary b op y z =>
    rw [AE.binary.sizeOf_spec] at hs
    refine (rp_frame hC hm hP (frBinary ba b) (.inr (by simp)) (.mk sBin (tok op) [y.tr rp false, z.tr rp false]) rfl (fun w1 sv hM => ?_)).mono ?_
    · refine ⟨fun w2 => ∃ y', y'.node = y.tr rp false ∧ RMid ba fp fq L.pv L.nm (L.it ba) ix st sv w (.binary b op y z) (.binary b op y' z) w2, rp_one hC hP ih hM (Hole.binX b op y z) (by omega) trivial rfl b 0 fX rfl rfl (hM.inn.2.1.cell 0) rfl (fun y' w2 h1 h2 => ⟨y', h1, h2⟩), ?_⟩
      rintro w2 ⟨y', h1, h2⟩
      exact rp_one hC hP ih h2 (Hole.binY b op y' z) (by omega) trivial rfl b 3 fY rfl rfl (h2.inn.2.1.cell 3) rfl (fun z' w3 h3 h4 => ⟨_, by rw [AE.node, h1, h3], h4⟩)
    · rintro e w' ⟨rfl, y, h1, h2⟩
      exact ⟨rfl, y, by rw [h1, AE.tr], h2⟩
  | index b y z =>
    rw [AE.index.sizeOf_spec] at hs
    refine (rp_frame hC hm hP (frIndex ba b) (.inr (by simp)) (.mk sIndex sEmpty [y.tr rp false, z.tr rp false]) rfl (fun w1 sv hM => ?_)).mono ?_
    · refine ⟨fun w2 => ∃ y', y'.node = y.tr rp false ∧ RMid ba fp fq L.pv L.nm (L.it ba) ix st sv w (.index b y z) (.index b y' z) w2, rp_one hC hP ih hM (Hole.idxX b y z) (by omega) trivial rfl b 0 fX rfl rfl (hM.inn.1.cell 0) rfl (fun y' w2 h1 h2 => ⟨y', h1, h2⟩), ?_⟩
      rintro w2 ⟨y', h1, h2⟩
      exact rp_one hC hP ih h2 (Hole.idxI b y' z) (by omega) trivial rfl b 2 fIndex rfl rfl (h2.inn.1.cell 2) rfl (fun z' w3 h3 h4 => ⟨_, by rw [AE.node, h1, h3], h4⟩)
    · rintro e w' ⟨rfl, y, h1, h2⟩
      exact ⟨rfl, y, by rw [h1, AE.tr], h2⟩
  | call b y g cap args =>
    rw [AE.call.sizeOf_spec] at hs
    refine (rp_frame hC hm hP (frCall ba b) (.inr (by simp)) (.mk sCall sEmpty (y.tr rp false :: trL rp args)) rfl (fun w1 sv hM => ?_)).mono ?_
    · refine ⟨fun w2 => ∃ y', y'.node = y.tr rp false ∧ RMid ba fp fq L.pv L.nm (L.it ba) ix st sv w (.call b y g cap args) (.call b y' g cap args) w2, rp_one hC hP ih hM (Hole.callF b y g cap args) (by omega) trivial rfl b 0 fFun rfl rfl (hM.inn.1.cell 0) rfl (fun y' w2 h1 h2 => ⟨y', h1, h2⟩), ?_⟩
      rintro w2 ⟨y', h1, h2⟩
      exact rp_list hC hP ih b y' g cap args (fun z hz => by have := List.sizeOf_lt_of_mem hz; omega) h2 rfl (fun args' w3 h3 h4 => ⟨_, by rw [AE.node, h1, h3], h4⟩)
    · rintro e w' ⟨rfl, y, h1, h2⟩
      exact ⟨rfl, y, by rw [h1, AE.tr], h2⟩
end
end Go.Proofs.YtgimbgpebpippaaGreatDoor
namespace Go.Proofs.YtgimbgpebpippaaGreatDoor
open Go.RowKit
set_option maxRecDepth 100000
section
variable {rp : Bool → Node → Node} {fv : Value} {cb : List Nat} {Q : World → Prop} {fp fq : Value} {w : World} {x : AE}
theorem apply_turn (hC : RCl rp fv (w.heap.size + 1 + 1 + 1) cb Q) (hm : RMode rp fv fp fq) (hf : (fp = .nilFunc ∨ ∃ F c, fp = .func (.func F) #[] c) ∧ (fq = .nilFunc ∨ ∃ F c, fq = .func (.func F) #[] c))
    (hx : x.In w) (hn : x.blocks.Nodup) (hq : Q w) (hcb : ∀ k ∈ cb, k < w.heap.size ∧ k ∉ x.blocks) :
    Calls Tryz.prog 34 #[x.val, fp, fq] w (fun e w' => ∃ y : AE, e = .returned y.val ∧ y.node = x.tr rp false ∧ y.In w' ∧ Kept x.blocks w w') := by
  obtain ⟨t, u, hv⟩ := x.val_one
  have hxl := fun b hb => AE.In.lt x hx b hb
  have hbl : Below w.heap.size w (ApW w fp fq t u) := ((((Below.refl _ _).alloc (Nat.le_refl _) _).alloc (by rw [World.size_alloc]; omega) _).alloc (by rw [World.size_alloc, World.size_alloc]; omega) _).alloc (by rw [World.size_alloc, World.size_alloc, World.size_alloc]; omega) _
  have b0 : Blk (ApW w fp fq t u) w.heap.size 59 #[.nilIface] := (((Blk.new w 59 #[.nilIface]).alloc _).alloc _).alloc _
  have b1 : Blk (ApW w fp fq t u) (w.heap.size + 1) 112 #[.iface t u] := by
    have := ((Blk.new (w.alloc (.cells #[.nilIface] 59)) 112 #[.iface t u]).alloc (.cells #[.pointer (some ⟨w.heap.size + 1, 0, none⟩)] 110)).alloc (.cells #[fp, fq, .nilIface, .string ⟨#[]⟩, .pointer none, .nilIface, .int .i64 0, .int .i64 0] 123)
    rwa [World.size_alloc] at this
  have b2 : Blk (ApW w fp fq t u) (w.heap.size + 1 + 1) 110 #[.pointer (some ⟨w.heap.size + 1, 0, none⟩)] := by
    have := (Blk.new ((w.alloc (.cells #[.nilIface] 59)).alloc (.cells #[.iface t u] 112)) 110 #[.pointer (some ⟨w.heap.size + 1, 0, none⟩)]).alloc (.cells #[fp, fq, .nilIface, .string ⟨#[]⟩, .pointer none, .nilIface, .int .i64 0, .int .i64 0] 123)
    rwa [World.size_alloc, World.size_alloc] at this
  have b3 : App (ApW w fp fq t u) (w.heap.size + 1 + 1 + 1) fp fq .nilIface ⟨#[]⟩ (.pointer none) .nilIface 0 0 := by
    have := Blk.new (((w.alloc (.cells #[.nilIface] 59)).alloc (.cells #[.iface t u] 112)).alloc (.cells #[.pointer (some ⟨w.heap.size + 1, 0, none⟩)] 110)) 123 #[fp, fq, .nilIface, .string ⟨#[]⟩, .pointer none, .nilIface, .int .i64 0, .int .i64 0]
    rwa [World.size_alloc, World.size_alloc, World.size_alloc] at this
  have hP : RPre cb Q (ApW w fp fq t u) (w.heap.size + 1 + 1 + 1) fp fq (.root (w.heap.size + 1)) x 0 0 .nilIface ⟨#[]⟩ none .nilIface := {
    app := b3
    old := .inl ⟨rfl, rfl⟩
    inn := hx.below hbl (Nat.le_refl _)
    ix := trivial
    row := trivial
    cell := ⟨_, _, b1, by rw [← hv]; rfl⟩
    sel := fun h => h.elim
    nodup := hn
    q := hC.keep w _ (fun k hk => hbl.block k (hcb k hk).1) hq
    abx := fun h => by have := hxl _ h; omega
    loc := fun k hk => by
      simp only [Loc.blks, Loc.blk, List.mem_singleton] at hk
      subst hk
      exact ⟨fun h => by have := hxl _ h; omega, by omega, fun h => by have := (hcb _ h).1; omega, b1.lt⟩
    cbx := fun k hk => ⟨(hcb k hk).2, by have := (hcb k hk).1; omega, Nat.lt_of_lt_of_le (hcb k hk).1 hbl.size⟩ }
  have hA := apply_rp hC hm (SizeOf.sizeOf x + 1) x (Nat.lt_succ_self _) (ApW w fp fq t u) (.root (w.heap.size + 1)) 0 0 .nilIface ⟨#[]⟩ none .nilIface hP
  have hsz3 := b3.lt
  rw [hv] at hA ⊢
  refine (applyTop_any (R := fun w1 => ∃ y : AE, y.node = x.tr rp false ∧ RTurn (w.heap.size + 1 + 1 + 1) (.root (w.heap.size + 1)) x y (ApW w fp fq t u) w1) hf (hA.mono ?_) ?_).mono ?_
  · rintro e w1 ⟨rfl, y, h1, h2, _⟩
    exact .inl ⟨rfl, y, h1, h2⟩
  · rintro w1 ⟨y, h1, h2⟩
    obtain ⟨t', u', hy⟩ := y.val_one
    have hnot : ∀ k, w.heap.size ≤ k → k ≠ w.heap.size + 1 → k ≠ w.heap.size + 1 + 1 + 1 → k ∉ (w.heap.size + 1 + 1 + 1) :: (Loc.root (w.heap.size + 1)).blk :: x.blocks := fun k hk hk1 hk2 => by
      simp only [List.mem_cons, not_or, Loc.blk]
      exact ⟨hk2, hk1, fun h => by have := hxl _ h; omega⟩
    refine ⟨h2.kept.blk b0 (hnot _ (Nat.le_refl _) (by omega) (by omega)), h2.kept.blk b2 (hnot _ (by omega) (by omega) (by omega)), t', u', ?_⟩
    have := h2.cell _ _ b1
    rw [← hy]
    exact this
  · rintro e w' ⟨w1, t', u', ⟨y, h1, h2⟩, hc, rfl, hw'⟩
    have hyv : y.val = .iface t' u' := by
      have h3 := Blk.cell (h2.cell _ _ b1) 0
      exact Option.some.inj (h3.symm.trans hc)
    have hsz1 := h2.kept.1
    have hyb : w.heap.size ∉ y.blocks := fun h => by
      rcases h2.grow _ h with h | h
      · have := hxl _ h; omega
      · omega
    have hk1 : Kept x.blocks w w1 := ⟨Nat.le_trans hbl.size hsz1, fun k hk hn => (h2.kept.2 k (by omega) (by simp only [List.mem_cons, not_or, Loc.blk]; exact ⟨by omega, by omega, hn⟩)).trans (hbl.block k hk), h2.kept.os.trans hbl.os, h2.kept.tape.trans hbl.tape, h2.kept.output.trans hbl.output⟩
    refine ⟨y, by rw [hyv], h1, ?_, ?_⟩
    · rcases hw' with rfl | rfl
      · exact AE.In.same y (fun k hk => Below.heap_setCell _ _ _ _ (by rintro rfl; exact hyb hk)) h2.inn
      · exact AE.In.same y (fun k hk => (Below.heap_setCell _ _ _ _ (by rintro rfl; exact hyb hk)).trans (Below.heap_alloc w1 _ k (AE.In.lt y h2.inn k hk))) h2.inn
    · rcases hw' with rfl | rfl
      · exact hk1.set (.inr (Nat.le_refl _)) _
      · exact (hk1.alloc _).set (.inr (Nat.le_refl _)) _
end
end Go.Proofs.YtgimbgpebpippaaGreatDoor
