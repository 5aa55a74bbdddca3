/- Edited's function, where no argument of the call stands: it does nothing. -/
import Derived.Test.YtgimbgpebpippaaGreatDoorEdF
import Derived.Deep.Draws
import Derived.Test.YtgimbgpebpippaaGreatDoorApR
namespace Go.Proofs.YtgimbgpebpippaaGreatDoor
open Go.RowKit
set_option maxRecDepth 100000
set_option maxHeartbeats 8000000
theorem Tryz.callsEd (args : Array Value) (w : World) : (callFunc 51 args).run Tryz.prog w = .ok (.enter 51 args) w := by kernel_rfl
/-- What the function reads where it does nothing. -/
structure EdQ (ba b bc : Nat) (w : World) : Prop where
  box : Blk w bc 87 #[.pointer (some ⟨b, 0, none⟩)]
  cal : ∃ T cs, Blk w b T cs
  ne : bc ≠ ba ∧ b ≠ ba
theorem EdQ.keep {ba b bc : Nat} {w w' : World} (h : EdQ ba b bc w) (hk : Kept [ba] w w') : EdQ ba b bc w' := by
  obtain ⟨T, cs, hb⟩ := h.cal
  exact ⟨hk.blk h.box (by rw [List.mem_singleton]; exact h.ne.1), ⟨T, cs, hk.blk hb (by rw [List.mem_singleton]; exact h.ne.2)⟩, h.ne⟩
theorem edited_else {w : World} {ba : Nat} {fv : Value} {b bc bo bh : Nat} {t : TypeId} {u : Value} {nm : ByteArray} {o : Option Addr} {nv : Value} {ix st : Int} (happ : App w ba fv .nilFunc (.iface t u) nm (.pointer o) nv ix st) (hpk : ParOk w ba (.iface t u)) (hne : Value.iface t u ≠ callV b ∨ nm ≠ fArgs) (hq : EdQ ba b bc w) :
    Calls Tryz.prog 51 #[cur ba, .pointer (some ⟨bc, 0, none⟩), .pointer (some ⟨bo, 0, none⟩), .pointer (some ⟨bh, 0, none⟩)] w fun e w' => e = .returned (.bool true) ∧ Kept [] w w' := by
  have c0 : w.cell? ⟨bc, 0, none⟩ = some (.pointer (some ⟨b, 0, none⟩)) := hq.box.cell 0
  have zc := hq.box.lt
  by_cases hpv : Value.iface t u = callV b
  · injection hpv with e1 e2
    subst e1 e2
    have hnm : (nm.toList == [65, 114, 103, 115]) = false := by
      have h : nm ≠ fArgs := by
        rcases hne with h | h
        · exact absurd rfl h
        · exact h
      rw [show ([65, 114, 103, 115] : List UInt8) = fArgs.toList from (ByteArray.toList_mk _).symm]
      exact beq_of_ne h
    have heq := eqlSame ⟨b, 0, none⟩
    have HP : Hid (∀ w', Sm w w' → Calls Tryz.prog 52 #[cur ba] w' fun e w'' => e = .returned (.iface 87 (.pointer (some ⟨b, 0, none⟩))) ∧ w' = w'') := fun w' hw => curParent_any _ _ (Blk.same happ (by rw [hw.1]))
    have HN : Hid (∀ w', Sm w w' → Calls Tryz.prog 44 #[cur ba] w' fun e w'' => e = .returned (.string nm) ∧ w' = w'') := fun w' hw => curName_any (Blk.same happ (by rw [hw.1]))
    clear happ hpk hne hq
    go_enter Tryz.func51, Tryz.ntmps51
    go_wp2_with fail
    go_region_law
      (first
        | (go_simp; go_at_call 52; refine (HP.out _ (by exact ⟨rfl, rfl, rfl, rfl⟩)).mono ?_; rintro e w1 ⟨rfl, rfl⟩)
        | (go_simp; go_at_call 44; refine (HN.out _ (by exact ⟨rfl, rfl, rfl, rfl⟩)).mono ?_; rintro e w1 ⟨rfl, rfl⟩))
    all_goals
      go_wp2_with fail
      go_ret
      exact ⟨rfl, (Kept.refl [] w).heapy ⟨rfl, rfl, rfl, rfl⟩⟩
  · obtain ⟨t', p, e, hp⟩ := hpk
    injection e with e1 e2
    subst e1 e2
    have heq : ∀ w', Sm w w' → (binOp .eql 59 (.iface t (.pointer (some p))) (.iface 87 (.pointer (some ⟨b, 0, none⟩)))).run Tryz.prog w' = .ok (.bool false) w' := fun w' hw => by
      by_cases ht : t = 87
      · subst ht
        obtain ⟨h1, h2, h3, T, cs, h4⟩ := hp rfl
        obtain ⟨T2, cs2, h5⟩ := hq.cal
        exact eqlOther (fun e => hpv (by rw [e])) (h4.same (by rw [hw.1])) (Blk.same (g := b) h5 (by rw [hw.1]))
      · exact eqlType ht w'
    have HP : Hid (∀ w', Sm w w' → Calls Tryz.prog 52 #[cur ba] w' fun e w'' => e = .returned (.iface t (.pointer (some p))) ∧ w' = w'') := fun w' hw => curParent_any _ _ (Blk.same happ (by rw [hw.1]))
    clear happ hne hq hp hpv
    go_enter Tryz.func51, Tryz.ntmps51
    go_wp2_with fail
    refine wp_region_held_drew (S := fun w' => w'.cell? ⟨bc, 0, none⟩ = some (.pointer (some ⟨b, 0, none⟩)) ∧ (binOp .eql 59 (.iface t (.pointer (some p))) (.iface 87 (.pointer (some ⟨b, 0, none⟩)))).run Tryz.prog w' = .ok (.bool false) w' ∧ Sm w w') (by kernel_rfl) ?_ (fun hHeld => ?_)
    · exact ⟨c0, heq _ ⟨rfl, rfl, rfl, rfl⟩, rfl, rfl, rfl, rfl⟩
    refine wpAnyH_take (i := 0) (v := cur ba) rfl (by kernel_rfl) (by kernel_rfl) (by kernel_rfl) (fun _ _ _ h => h) (Or.inl ⟨by rfl, ?_⟩) (by assumption) ?_
    · intro w' hSw
      go_simp
    (try simp only [Act.put, List.setIfInBounds_toArray])
    refine wpAnyH_take (i := 2) (v := .pointer (some ⟨b, 0, none⟩)) rfl (by kernel_rfl) (by kernel_rfl) (by kernel_rfl) (fun _ _ _ h => h) (Or.inl ⟨by rfl, ?_⟩) (by assumption) ?_
    · intro w' hSw
      go_simp
    (try simp only [Act.put])
    refine wpAnyH_take (i := 3) (v := .iface 87 (.pointer (some ⟨b, 0, none⟩))) rfl (by kernel_rfl) (by kernel_rfl) (by kernel_rfl) (fun _ _ _ h => h) (Or.inl ⟨by rfl, ?_⟩) (by assumption) ?_
    · intro w' hSw
      go_simp
    (try simp only [Act.put])
    refine wpAnyH_ready (rs := [1]) (by kernel_rfl) (by simp) ?_
    refine AllReadyH.cons rfl (fun K hK => ?_) AllReadyH.nil
    go_simp
    refine (HP.out _ hHeld.2.2).mono ?_
    rintro e w1 ⟨rfl, rfl⟩
    go_wp2_with fail
    refine hK.out _ _ hHeld (fun hHeld => ?_)
    clear hK K
    (try simp only [Act.put, List.setIfInBounds_toArray, List.set_cons_zero, List.set_cons_succ])
    have heq1 := hHeld.2.1
    refine wpAnyH_ready (rs := [4]) (by kernel_rfl) (by simp) ?_
    refine AllReadyH.cons rfl (fun K hK => ?_) AllReadyH.nil
    go_simp
    refine hK.out _ _ hHeld (fun hHeld => ?_)
    clear hK K
    (try simp only [Act.put, List.setIfInBounds_toArray, List.set_cons_zero, List.set_cons_succ])
    refine wpAnyH_ready (rs := [5]) (by kernel_rfl) (by simp) ?_
    refine AllReadyH.cons rfl (fun K hK => ?_) AllReadyH.nil
    go_simp
    refine hK.out _ _ hHeld (fun hHeld => ?_)
    clear hK K
    (try simp only [Act.put, List.setIfInBounds_toArray, List.set_cons_zero, List.set_cons_succ])
    refine wpAnyH_take (i := 6) (v := undef) rfl (by kernel_rfl) (by kernel_rfl) (by kernel_rfl) (fun _ _ _ h => h) (Or.inr ⟨by rfl, rfl⟩) (by assumption) ?_
    (try simp only [Act.put, List.setIfInBounds_toArray])
    refine wpAnyH_take (i := 7) (v := undef) rfl (by kernel_rfl) (by kernel_rfl) (by kernel_rfl) (fun _ _ _ h => h) (Or.inr ⟨by rfl, rfl⟩) (by assumption) ?_
    (try simp only [Act.put])
    refine wpAnyH_take (i := 8) (v := undef) rfl (by kernel_rfl) (by kernel_rfl) (by kernel_rfl) (fun _ _ _ h => h) (Or.inr ⟨by rfl, rfl⟩) (by assumption) ?_
    (try simp only [Act.put])
    refine wpAnyH_ready (rs := [9]) (by kernel_rfl) (by simp) ?_
    refine AllReadyH.cons rfl (fun K hK => ?_) AllReadyH.nil
    go_simp
    refine hK.out _ _ hHeld (fun hHeld => ?_)
    clear hK K
    (try simp only [Act.put, List.setIfInBounds_toArray, List.set_cons_zero, List.set_cons_succ])
    refine wpAnyH_done (by kernel_rfl) ?_ _
    go_wp2_with fail
    go_ret
    exact ⟨rfl, (Kept.refl [] w).heapy ⟨rfl, rfl, rfl, rfl⟩⟩
theorem quietEd (ba b bc bo bh : Nat) : QCl ba (.func (.func 51) #[] #[.pointer (some ⟨bc, 0, none⟩), .pointer (some ⟨bo, 0, none⟩), .pointer (some ⟨bh, 0, none⟩)]) b (EdQ ba b bc) where
  keep := fun _ _ h hk => h.keep hk
  fn := ⟨_, _, rfl, Tryz.callsEd, fun _ _ _ _ _ _ _ _ happ hpk hne hq => edited_else happ hpk hne hq⟩
end Go.Proofs.YtgimbgpebpippaaGreatDoor
namespace Go.Proofs.YtgimbgpebpippaaGreatDoor
open Go.RowKit
set_option maxRecDepth 100000
set_option maxHeartbeats 4000000
/-! what is due -/
def edL (hs : List Int) : Nat → List Node → List Node
  | _, [] => []
  | k, n :: ns => edN (howAt hs k) n ++ edL hs (k + 1) ns
def edV (hs : List Int) : Nat → Nat → List Node → List Vst
  | _, _, [] => []
  | k, off, n :: ns => ⟨false, n.kind, n.text, ⟨fArgs, (off : Int), sCall⟩⟩ :: edV hs (k + 1) (off + (edN (howAt hs k) n).length) ns
theorem edL_append (hs : List Int) : ∀ (k : Nat) (a c : List Node), edL hs k (a ++ c) = edL hs k a ++ edL hs (k + a.length) c
  | k, [], c => by simp [edL]
  | k, n :: a, c => by
    rw [List.cons_append, edL, edL, edL_append hs (k + 1) a c, List.append_assoc, List.length_cons, show k + 1 + a.length = k + (a.length + 1) by omega]
theorem edV_append (hs : List Int) : ∀ (k off : Nat) (a c : List Node), edV hs k off (a ++ c) = edV hs k off a ++ edV hs (k + a.length) (off + (edL hs k a).length) c
  | k, off, [], c => by simp [edL, edV]
  | k, off, n :: a, c => by
    rw [List.cons_append, edV, edV, edV_append hs (k + 1) _ a c, edL, List.cons_append, List.length_append, List.length_cons, show k + 1 + a.length = k + (a.length + 1) by omega, Nat.add_assoc]
theorem edL_len (hs : List Int) : ∀ (k : Nat) (a : List Node), (edL hs k a).length ≤ 3 * a.length
  | k, [] => by simp [edL]
  | k, n :: a => by
    have h1 := edL_len hs (k + 1) a
    have h2 := edN_len (howAt hs k) n
    rw [edL, List.length_append, List.length_cons]
    omega
theorem edV_len (hs : List Int) : ∀ (k off : Nat) (a : List Node), (edV hs k off a).length = a.length
  | k, off, [] => rfl
  | k, off, n :: a => by rw [edV, List.length_cons, List.length_cons, edV_len hs (k + 1) _ a]
theorem nodeL_length (l : List AE) : (nodeL l).length = l.length := by rw [nodeL_eq, List.length_map]
/-- The call's tree, whole and apart. -/
structure EdTree (w : World) (ba b : Nat) (f : AE) (g cp : Nat) (L : List AE) : Prop where
  inn : (AE.call b f g cp L).In w
  nd : (b :: (f.blocks ++ blocksL L)).Nodup
  gn : g ∉ b :: (f.blocks ++ blocksL L)
  an : ba ∉ b :: g :: (f.blocks ++ blocksL L)
section
variable {w w' : World} {ba : Nat} {fv : Value} {b : Nat} {f : AE} {g cp : Nat} {L : List AE} {x : AE} {ix st : Int}
theorem EdS.tree (h : EdS w ba fv b f g cp L x ix st) : EdTree w ba b f g cp L := ⟨h.inn, h.nd, h.gn, h.an⟩
theorem EdTree.at (h : EdTree w ba b f g cp L) (hx : x ∈ L) (happ : App w ba fv .nilFunc (callV b) fArgs (iterV ba) x.val ix st) : EdS w ba fv b f g cp L x ix st := by
  have hsub : ∀ k ∈ x.blocks, k ∈ f.blocks ++ blocksL L := fun k hk => List.mem_append_right _ (mem_blocksL hx hk)
  have h1 := h.nd
  have h2 := h.gn
  have h3 := h.an
  rw [List.nodup_cons] at h1
  simp only [List.mem_cons, not_or] at h2 h3
  exact ⟨happ, h.inn, h.nd, h.gn, h.an, (AEInL_iff _ _).1 h.inn.2.2.2 _ hx, fun hm => h3.2.2 (hsub _ hm), fun hm => h1.1 (hsub _ hm), fun hm => h2.2 (hsub _ hm)⟩
theorem EdTree.keep {own : List Nat} (h : EdTree w ba b f g cp L) (hk : Kept own w w') (hn : ∀ k ∈ b :: g :: (f.blocks ++ blocksL L), k ∉ own) : EdTree w' ba b f g cp L :=
  ⟨AE.In.same _ (fun k hm => hk.2 k (AE.In.lt _ h.inn k hm) (hn k (by simpa [AE.blocks] using hm))) h.inn, h.nd, h.gn, h.an⟩
abbrev edT0 (ba b g : Nat) (f : AE) (L : List AE) : List Nat := ba :: b :: g :: (f.blocks ++ blocksL L)
theorem edT_sub {k : Nat} (hx : x ∈ L) (h : k ∈ edT ba b g f L x) : k ∈ edT0 ba b g f L := by
  simp only [List.mem_cons, List.mem_append] at h ⊢
  rcases h with h | h | h | h | h | h
  · exact .inl h
  · exact .inr (.inl h)
  · exact .inr (.inr (.inl h))
  · exact .inr (.inr (.inr (.inl h)))
  · exact .inr (.inr (.inr (.inr h)))
  · exact .inr (.inr (.inr (.inr (mem_blocksL hx h))))
theorem edT0_sub {k : Nat} (h : k ∈ edT0 ba b g f L) : k ∈ edT ba b g f L x := by
  simp only [List.mem_cons, List.mem_append] at h ⊢
  rcases h with h | h | h | h | h
  · exact .inl h
  · exact .inr (.inl h)
  · exact .inr (.inr (.inl h))
  · exact .inr (.inr (.inr (.inl h)))
  · exact .inr (.inr (.inr (.inr (.inl h))))
end
/-- What lies by, untouched: a saved cursor, a saved iterator. -/
def SvIn (w : World) (ba b g bo : Nat) (v : Value) (sv : Saved) : Prop := ∀ e ∈ sv, Blk w e.1 e.2.1 e.2.2 ∧ e.1 ∉ ba :: b :: g :: bo :: rowOf v
theorem SvIn.next {w w' : World} {ba b g g' bo : Nat} {v v' : Value} {sv : Saved} (h : SvIn w ba b g bo v sv) (hk : Kept (ba :: b :: g :: bo :: rowOf v) w w') (hg : Grows w.heap.size (ba :: b :: g :: bo :: rowOf v) (ba :: b :: g' :: bo :: rowOf v')) : SvIn w' ba b g' bo v' sv := fun e he => by
  obtain ⟨h1, h2⟩ := h e he
  exact ⟨hk.blk h1 h2, hg.not h2 h1.lt⟩
/-- Between the rounds: j arguments are done. -/
structure EdR (w0 : World) (B0 ba : Nat) (fv pv : Value) (nm : ByteArray) (it : Value) (sv : Saved) (b bc bo bh : Nat) (f : AE) (args : List AE) (A : Option Addr) (ch : Nat) (hs : List Int) (g cp j : Nat) (ix st : Int) (dn : List AE) (v : Value) (w : World) : Prop where
  jl : j ≤ args.length
  node : nodeL dn = edL hs 0 (nodeL (args.take j))
  app : App w ba fv .nilFunc pv nm it (callV b) ix st
  tree : EdTree w ba b f g cp (dn ++ args.drop j)
  own : EdOwn w B0 b bc bo bh A ch hs (edV hs 0 0 (nodeL (args.take j))) v
  ap : Aparts B0 bc bo bh v (edT0 ba b g f (dn ++ args.drop j))
  sav : SvIn w ba b g bo v sv
  bel : Below B0 w0 w
section
variable {w0 : World} {B0 ba : Nat} {fv pv : Value} {nm : ByteArray} {it : Value} {sv : Saved} {b bc bo bh : Nat} {f : AE} {args : List AE} {A : Option Addr} {ch : Nat} {hs : List Int} {g cp j : Nat} {ix st : Int} {dn : List AE} {v : Value} {w w' : World}
theorem EdR.len (h : EdR w0 B0 ba fv pv nm it sv b bc bo bh f args A ch hs g cp j ix st dn v w) : dn.length ≤ 3 * j := by
  have h1 := edL_len hs 0 (nodeL (args.take j))
  rw [← h.node, nodeL_length, nodeL_length, List.length_take] at h1
  omega
theorem EdR.ge (h : EdR w0 B0 ba fv pv nm it sv b bc bo bh f args A ch hs g cp j ix st dn v w) : B0 ≤ w.heap.size := by
  have := h.own.ge.1
  have := h.own.cbox.lt
  omega
/-- Nothing turned but the application's own words. -/
theorem EdR.turn (h : EdR w0 B0 ba fv pv nm it sv b bc bo bh f args A ch hs g cp j ix st dn v w) {ix' st' : Int} (happ : App w' ba fv .nilFunc pv nm it (callV b) ix' st') (hk : Kept [ba] w w') : EdR w0 B0 ba fv pv nm it sv b bc bo bh f args A ch hs g cp j ix' st' dn v w' := by
  have hba := h.ap ba (by simp)
  refine ⟨h.jl, h.node, happ, h.tree.keep hk (fun k hm => ?_), h.own.keep (T := [ba]) (fun k hm => by rw [List.mem_singleton] at hm; rw [hm]; exact hba) hk, h.ap, h.sav.next (hk.more (fun k hm => by rw [List.mem_singleton] at hm; simp [hm])) (Grows.refl _ _), h.bel.trans (hk.below h.ge (fun k hm => by rw [List.mem_singleton] at hm; rw [hm]; exact hba.1))⟩
  rw [List.mem_singleton]
  rintro rfl
  exact h.tree.an hm
theorem EdR.save (h : EdR w0 B0 ba fv pv nm it sv b bc bo bh f args A ch hs g cp j ix st dn v w) (T : TypeId) (cs : Array Value) : EdR w0 B0 ba fv pv nm it ((w.heap.size, T, cs) :: sv) b bc bo bh f args A ch hs g cp j ix st dn v (w.alloc (.cells cs T)) := by
  have h2 := h.turn (Blk.alloc h.app (.cells cs T)) ((Kept.refl [ba] w).alloc _)
  refine ⟨h2.jl, h2.node, h2.app, h2.tree, h2.own, h2.ap, fun e he => ?_, h2.bel⟩
  rcases List.mem_cons.1 he with rfl | he
  · refine ⟨Blk.new w T cs, ?_⟩
    have l1 := Blk.lt h.app
    have l2 := AE.In.lt _ h.tree.inn
    have l3 := l2 b (by simp [AE.blocks])
    have l4 := l2 g (by simp [AE.blocks])
    have l5 := h.own.outs.box.lt
    simp only [List.mem_cons, not_or]
    exact ⟨by omega, by omega, by omega, by omega, fun hm => by have := (h.own.outs.lst.lt _ (mem_rowOf.1 hm)).1; omega⟩
  · exact h2.sav e he
theorem EdR.drop {e : Nat × TypeId × Array Value} (h : EdR w0 B0 ba fv pv nm it (e :: sv) b bc bo bh f args A ch hs g cp j ix st dn v w) : EdR w0 B0 ba fv pv nm it sv b bc bo bh f args A ch hs g cp j ix st dn v w :=
  ⟨h.jl, h.node, h.app, h.tree, h.own, h.ap, fun e he => h.sav e (List.mem_cons_of_mem _ he), h.bel⟩
end
end Go.Proofs.YtgimbgpebpippaaGreatDoor
namespace Go.Proofs.YtgimbgpebpippaaGreatDoor
open Go.RowKit
set_option maxRecDepth 100000
set_option maxHeartbeats 4000000
abbrev fnEd (bc bo bh : Nat) : Value := .func (.func 51) #[] #[.pointer (some ⟨bc, 0, none⟩), .pointer (some ⟨bo, 0, none⟩), .pointer (some ⟨bh, 0, none⟩)]
section
variable {w0 : World} {ba : Nat} {pv : Value} {nm : ByteArray} {o0 : Option Addr} {sv : Saved} {b bc bo bh : Nat} {f : AE} {args : List AE} {A : Option Addr} {ch : Nat} {hs : List Int} {g cp j : Nat} {dn : List AE} {v : Value} {w' : World}
theorem ed_round (hold : OldCur pv (callV b)) (hG : Glob w0) (hhs : ∀ u ∈ hs, 0 ≤ u ∧ u ≤ 5) (hhl : hs.length ≤ 9000000000000000000) (hal : args.length ≤ 20) {x : AE} (hx : args[j]? = some x) (hR : EdR w0 w0.heap.size ba (fnEd bc bo bh) pv nm (.pointer o0) sv b bc bo bh f args A ch hs g cp j dn.length 1 dn v w') :
    Calls Tryz.prog applyF #[.pointer (some ⟨ba, 0, none⟩), callV b, .string fArgs, iterV ba, x.val] w' (fun e w2 => e = .returned (.tuple #[]) ∧ ∃ (g' cp' : Nat) (ix' st' : Int) (dn' : List AE) (v' : Value), ix' + st' = (dn'.length : Int) ∧ EdR w0 w0.heap.size ba (fnEd bc bo bh) pv nm (.pointer o0) sv b bc bo bh f args A ch hs g' cp' (j + 1) ix' st' dn' v' w2) := by
  obtain ⟨hj, ht, _⟩ := take_next hx
  have hd : args.drop j = x :: args.drop (j + 1) := by
    rw [List.drop_eq_getElem_cons hj]
    rw [List.getElem?_eq_getElem hj] at hx
    rw [Option.some.inj hx]
  have hlen := hR.len
  have htree := hR.tree
  have hap := hR.ap
  rw [hd] at htree hap
  have hmem : x ∈ dn ++ x :: args.drop (j + 1) := by simp
  have hvl : (edV hs 0 0 (nodeL (args.take j))).length = j := by rw [edV_len, nodeL_length, List.length_take]; omega
  have hdl : (edL hs 0 (nodeL (args.take j))).length = dn.length := by rw [← hR.node, nodeL_length]
  have hQ := quietEd ba b bc bo bh
  obtain ⟨K, hF, hm, hK⟩ := q_kids hQ (apply_quiet hQ (SizeOf.sizeOf x)) x (Nat.lt_succ_self _)
  have hbaA := hap ba (by simp)
  have hltT : ∀ k ∈ edT0 ba b g f (dn ++ x :: args.drop (j + 1)), k < w'.heap.size := fun k hk => by
    rcases List.mem_cons.1 hk with rfl | hk
    · exact Blk.lt hR.app
    · exact AE.In.lt _ htree.inn k (by simpa [AE.blocks] using hk)
  let sc : Array Value := #[pv, .string nm, .pointer o0, callV b]
  let M : World → Prop := fun w1 => ∃ (mid : List AE) (g' cp' : Nat) (ix' st' : Int) (v' : Value), nodeL mid = edN (howAt hs j) x.node ∧ ix' + st' = (dn.length : Int) + (mid.length : Int) ∧ EdS w1 ba (fnEd bc bo bh) b f g' cp' (dn ++ (mid ++ args.drop (j + 1))) x ix' st' ∧
    EdOwn w1 w0.heap.size b bc bo bh A ch hs (edV hs 0 0 (nodeL (args.take j)) ++ [⟨false, x.node.kind, x.node.text, ⟨fArgs, dn.length, sCall⟩⟩]) v' ∧ Aparts w0.heap.size bc bo bh v' (edT ba b g' f (dn ++ (mid ++ args.drop (j + 1))) x) ∧ Kept (ba :: b :: g :: bo :: rowOf v) w' w1 ∧ (g' = g ∨ w'.heap.size ≤ g') ∧ Grows w'.heap.size (rowOf v) (rowOf v') ∧ Blk w1 w'.heap.size 119 sc
  have hMk : ∀ w1 w2, M w1 → (∀ ix' st', App w1 ba (fnEd bc bo bh) .nilFunc (callV b) fArgs (iterV ba) x.val ix' st' → App w2 ba (fnEd bc bo bh) .nilFunc (callV b) fArgs (iterV ba) x.val ix' st') → Kept [ba] w1 w2 → M w2 := by
    rintro w1 w2 ⟨mid, g', cp', ix', st', v', h1, h2, h3, h4, h5, h6, h7, h8, h9⟩ ha hk
    have hsz := h6.1
    refine ⟨mid, g', cp', ix', st', v', h1, h2, ⟨ha _ _ h3.app, (h3.tree.keep hk (fun k hm => ?_)).inn, h3.nd, h3.gn, h3.an, AE.In.same x (fun k hm => hk.2 k (AE.In.lt x h3.xin k hm) (by rw [List.mem_singleton]; rintro rfl; exact h3.xn.1 hm)) h3.xin, h3.xn⟩, h4.keep (T := [ba]) (fun k hm => by rw [List.mem_singleton] at hm; rw [hm]; exact h5 ba (by simp)) hk, h5, h6.trans hk (fun k hm => .inl (by rw [List.mem_singleton] at hm; simp [hm])), h7, h8, hk.blk h9 (by rw [List.mem_singleton]; have := Blk.lt hR.app; omega)⟩
    rw [List.mem_singleton]
    rintro rfl
    exact h3.an hm
  have hMh : Heapy M := fun w1 w2 e h => hMk w1 w2 h (fun _ _ ha => Blk.same ha (by rw [e.1])) ((Kept.refl [ba] w1).heapy e)
  have hMf : ∀ w1, M w1 → Fr ba w'.heap.size (fnEd bc bo bh) .nilFunc sc w1 := by
    rintro w1 ⟨mid, g', cp', ix', st', v', h1, h2, h3, h4, h5, h6, h7, h8, h9⟩
    exact ⟨⟨_, _, _, _, _, _, h3.app⟩, h9⟩
  refine (hF w' (fnEd bc bo bh) .nilFunc 87 (.pointer (some ⟨b, 0, none⟩)) fArgs (some ⟨ba, 6, none⟩) dn.length 1 pv nm o0 (callV b) (fun r w1 => r = true ∧ M w1) M (fun r w1 => r = true ∧ M w1) (fun _ => False) hR.app hold ?_ (fun r w1 w2 e h => ⟨h.1, hMh _ _ e h.2⟩) (fun r w1 h => hMf w1 h.2) ?_ hMh hMf (fun w1 h => .inl ⟨rfl, rfl, h⟩) (fun r w1 w2 e h => ⟨h.1, hMh _ _ e h.2⟩) (fun r w1 h => hMf w1 h.2)).mono ?_
  · refine .inr ⟨_, _, rfl, Tryz.callsEd, fun w2 hw => ?_⟩
    have hk7 : Kept [ba] w' w2 := (W7_kept w' ba (callV b) fArgs (iterV ba) x.val sc).heapy hw
    have happ7 : App w2 ba (fnEd bc bo bh) .nilFunc (callV b) fArgs (iterV ba) x.val dn.length 1 := Blk.same (W7_app hR.app (callV b) fArgs (iterV ba) x.val sc) (by rw [hw.1])
    have hsv7 : Blk w2 w'.heap.size 119 sc := (W7_saved w' ba (callV b) fArgs (iterV ba) x.val sc).same (by rw [hw.1])
    have htr7 := htree.keep hk7 (fun k hm => by rw [List.mem_singleton]; rintro rfl; exact htree.an hm)
    have hS7 := htr7.at hmem happ7
    have hO7 := hR.own.keep (T := [ba]) (fun k hm => by rw [List.mem_singleton] at hm; rw [hm]; exact hbaA) hk7
    have hG7 : Glob w2 := hG.below (hR.bel.trans (hk7.below hR.ge (fun k hm => by rw [List.mem_singleton] at hm; rw [hm]; exact hbaA.1))) (Nat.le_refl _)
    have hl7 : (dn ++ x :: args.drop (j + 1)).length + 2 ≤ 1000 := by rw [List.length_append, List.length_cons, List.length_drop]; omega
    refine (edited_arg dn (args.drop (j + 1)) hG7 hhs hhl hO7 hS7 (fun k hm => hap k (edT_sub hmem hm)) hl7 (by rw [hvl]; omega)).mono ?_
    rintro e w3 ⟨rfl, mid, g', cp', ix', st', v', h1, h2, h3, h4, h5, h6, h7, h8⟩
    rw [hvl] at h1
    refine ⟨true, rfl, rfl, mid, g', cp', ix', st', v', h1, h2, h3, h4, h5, (hk7.more (own' := ba :: b :: g :: bo :: rowOf v) (fun k hm => by rw [List.mem_singleton] at hm; simp [hm])).trans h6 (Grows.refl _ _), h7.imp id (fun h => Nat.le_trans hk7.1 h), fun k hm => (h8 k hm).imp id (fun h => Nat.le_trans hk7.1 h), h6.blk hsv7 ?_⟩
    have l2 := hltT b (by simp)
    have l3 := hltT g (by simp)
    have l1 := Blk.lt hR.app
    have l5 := hR.own.outs.box.lt
    simp only [List.mem_cons, not_or]
    exact ⟨by omega, by omega, by omega, by omega, fun hm => by have := (hR.own.outs.lst.lt _ (mem_rowOf.1 hm)).1; omega⟩
  · rintro w1 ⟨_, hM⟩
    obtain ⟨mid, g', cp', ix', st', v', h1, h2, h3, h4, h5, h6, h7, h8, h9⟩ := id hM
    have hq : EdQ ba b bc w1 := ⟨h4.cbox, ⟨_, _, h3.inn.1⟩, Ne.symm hbaA.2.1, fun e => by have := h3.an; simp only [List.mem_cons, not_or] at this; exact this.1 e.symm⟩
    refine hm _ _ _ _ _ (fun w2 h => ?_) (fun _ h => h) (hK h3.xn.1 h3.xn.2.1 w1 _ _ fArgs (some ⟨ba, 6, none⟩) ix' st' h3.app h3.xin hq)
    refine hMk w1 w2 hM (fun ix2 st2 ha => ?_) h.2
    have e := Option.some.inj ((Blk.same (g := ba) ha rfl).symm.trans h3.app)
    injection e with e _ _
    injection e with e
    simp only [List.cons.injEq, Value.int.injEq, true_and, and_true] at e
    rw [e.1, e.2]
    exact h.1
  · rintro e w2 (⟨rfl, w1, hr, rfl⟩ | ⟨rfl, hp⟩)
    · have hM : M w1 := by
        rcases hr with ⟨h, _⟩ | ⟨_, h⟩
        · cases h
        · exact h
      obtain ⟨mid, g', cp', ix', st', v', h1, h2, h3, h4, h5, h6, h7, h8, h9⟩ := hM
      have hmm : ba ∈ [ba] := List.mem_cons_self
      have hk4 : Kept [ba] w1 (R4 w1 ba pv nm (.pointer o0) (callV b)) := ((((Kept.refl [ba] w1).set (p := ⟨ba, 2, none⟩) (.inl hmm) pv).set (p := ⟨ba, 3, none⟩) (.inl hmm) (.string nm)).set (p := ⟨ba, 4, none⟩) (.inl hmm) (.pointer o0)).set (p := ⟨ba, 5, none⟩) (.inl hmm) (callV b)
      have hgrow : Grows w'.heap.size (ba :: b :: g :: bo :: rowOf v) (ba :: b :: g' :: bo :: rowOf v') := fun k hm => by
        simp only [List.mem_cons] at hm ⊢
        rcases hm with rfl | rfl | rfl | rfl | hm
        · exact .inl (.inl rfl)
        · exact .inl (.inr (.inl rfl))
        · rcases h7 with e | e
          · exact .inl (.inr (.inr (.inl e)))
          · exact .inr e
        · exact .inl (.inr (.inr (.inr (.inl rfl))))
        · exact (h8 k hm).imp (fun h => .inr (.inr (.inr (.inr h)))) id
      have hk6 : Kept (ba :: b :: g :: bo :: rowOf v) w' (R4 w1 ba pv nm (.pointer o0) (callV b)) := h6.trans hk4 (fun k hm => .inl (by rw [List.mem_singleton] at hm; simp [hm]))
      refine ⟨rfl, g', cp', ix', st', dn ++ mid, v', by rw [List.length_append]; omega, ⟨hj, ?_, (((Blk.set_ h3.app 2 pv).set_ 3 (.string nm)).set_ 4 (.pointer o0)).set_ 5 (callV b), ?_, ?_, ?_, hR.sav.next hk6 hgrow, ?_⟩⟩
      · rw [ht, nodeL_append, nodeL_append, edL_append, hR.node, nodeL, nodeL, edL, edL, List.append_nil, h1, nodeL_length, List.length_take, Nat.zero_add, Nat.min_eq_left (Nat.le_of_lt hj)]
      · rw [List.append_assoc]
        exact h3.tree.keep hk4 (fun k hm => by rw [List.mem_singleton]; rintro rfl; exact h3.an hm)
      · rw [ht, nodeL_append, edV_append, nodeL, nodeL, edV, edV, hdl, Nat.zero_add]
        exact h4.keep (T := [ba]) (fun k hm => by rw [List.mem_singleton] at hm; rw [hm]; exact h5 ba (by simp)) hk4
      · rw [List.append_assoc]
        exact fun k hm => h5 k (edT0_sub hm)
      · refine hR.bel.trans (hk6.below hR.ge (fun k hm => ?_))
        simp only [List.mem_cons] at hm
        rcases hm with rfl | rfl | rfl | rfl | hm
        · exact hbaA.1
        · exact (hap _ (by simp)).1
        · exact (hap _ (by simp)).1
        · exact hR.own.ge.2.1
        · exact hR.own.ge.2.2.2 k hm
    · rcases hp with h | ⟨h, _⟩
      · exact h.elim
      · cases h
end
end Go.Proofs.YtgimbgpebpippaaGreatDoor
namespace Go.Proofs.YtgimbgpebpippaaGreatDoor
open Go.RowKit
set_option maxRecDepth 100000
set_option maxHeartbeats 4000000
section
variable {w0 : World} {ba : Nat} {pv : Value} {nm : ByteArray} {o0 : Option Addr} {sv : Saved} {b bc bo bh : Nat} {f : AE} {args : List AE} {A : Option Addr} {ch : Nat} {hs : List Int} {g cp : Nat} {v : Value} {w1 : World} {ix0 st0 : Int}
/-- The rounds. -/
theorem ed_list (hold : OldCur pv (callV b)) (hG : Glob w0) (hhs : ∀ u ∈ hs, 0 ≤ u ∧ u ≤ 5) (hhl : hs.length ≤ 9000000000000000000) (hal : args.length ≤ 20) (hR : EdR w0 w0.heap.size ba (fnEd bc bo bh) pv nm (.pointer o0) sv b bc bo bh f args A ch hs g cp 0 ix0 st0 [] v w1) :
    kList ba (callV b) fArgs w1 (fun w2 => ∃ (g' cp' : Nat) (dn : List AE) (v' : Value), EdR w0 w0.heap.size ba (fnEd bc bo bh) pv nm (.pointer o0) sv b bc bo bh f args A ch hs g' cp' args.length ix0 st0 dn v' w2) (fun _ => False) := by
  intro w' hw
  have hR' := hR.turn (ix' := ix0) (st' := st0) (Blk.same hR.app (by rw [hw.1])) ((Kept.refl [ba] w1).heapy hw)
  have hmm : ba ∈ [ba] := List.mem_cons_self
  let J : LD → World → Prop := fun d w3 => ∃ (j : Nat) (dn : List AE) (v' : Value) (st : Int), d.m = args.length - j ∧ d.i = dn.length ∧ d.n = (dn ++ args.drop j).length ∧ EdR w0 w0.heap.size ba (fnEd bc bo bh) pv nm (.pointer o0) ((w'.heap.size, 121, #[.int .i64 ix0, .int .i64 st0]) :: sv) b bc bo bh f args A ch hs d.g d.cp j d.i st dn v' w3
  refine (applyList_rule (J := J) (d0 := ⟨g, args.length, cp, 0, args.length⟩) (PC := fun _ => False) (list_callArgs b) hR'.app ?_ ?_).mono ?_
  · constructor
    case heapy => exact fun d w3 w4 e ⟨j, dn, v', st, h1, h2, h3, h4⟩ => ⟨j, dn, v', st, h1, h2, h3, h4.turn (Blk.same h4.app (by rw [e.1])) ((Kept.refl [ba] w3).heapy e)⟩
    case alloc => exact fun d w3 x ⟨j, dn, v', st, h1, h2, h3, h4⟩ => ⟨j, dn, v', st, h1, h2, h3, h4.turn (Blk.alloc h4.app _) ((Kept.refl [ba] w3).alloc _)⟩
    case sl =>
      rintro d w3 ⟨j, dn, v', st, h1, h2, h3, h4⟩
      rw [h3]
      exact h4.tree.inn.1.cell 2
    case app =>
      rintro d w3 ⟨j, dn, v', st, h1, h2, h3, h4⟩
      exact ⟨_, _, _, _, _, _, st, h4.app⟩
    case sav =>
      rintro d w3 ⟨j, dn, v', st, h1, h2, h3, h4⟩
      exact (h4.sav _ List.mem_cons_self).1
    case bd =>
      rintro d w3 ⟨j, dn, v', st, h1, h2, h3, h4⟩
      have := h4.len
      have := h4.jl
      rw [List.length_append, List.length_drop] at h3
      omega
    case elt =>
      rintro d w3 ⟨j, dn, v', st, h1, h2, h3, h4⟩ hl
      have hj : j < args.length := by
        rw [List.length_append, List.length_drop] at h3
        omega
      obtain ⟨x, hx⟩ : ∃ x, args[j]? = some x := ⟨args[j], List.getElem?_eq_getElem hj⟩
      have hd : args.drop j = x :: args.drop (j + 1) := by
        rw [List.drop_eq_getElem_cons hj]
        rw [List.getElem?_eq_getElem hj] at hx
        rw [Option.some.inj hx]
      obtain ⟨tx, ux, hv⟩ := x.val_one
      refine ⟨tx, ux, ?_, fun w4 hw4 => ?_⟩
      · have := h4.tree.inn.2.2.1.1.cell (i := d.i) (v := x.val) (by rw [hd, h2]; simp)
        rw [this, hv]
      · have h5 : EdR w0 w0.heap.size ba (fnEd bc bo bh) pv nm (.pointer o0) ((w'.heap.size, 121, #[.int .i64 ix0, .int .i64 st0]) :: sv) b bc bo bh f args A ch hs d.g d.cp j dn.length 1 dn v' w4 := by
          have h6 := h4.turn (ix' := d.i) (st' := 1) (Blk.set_ h4.app 7 (.int .i64 1)) ((Kept.refl [ba] w3).set (p := ⟨ba, 7, none⟩) (.inl hmm) _)
          have h7 := h6.turn (ix' := d.i) (st' := 1) (Blk.same h6.app (by rw [hw4.1])) ((Kept.refl [ba] _).heapy hw4)
          rwa [h2] at h7
        have hr := ed_round hold hG hhs hhl hal hx h5
        rw [hv] at hr
        refine hr.mono ?_
        rintro e w5 ⟨rfl, g', cp', ix', st', dn', v2, h8, h9⟩
        refine .inl ⟨rfl, ⟨g', (dn' ++ args.drop (j + 1)).length, cp', dn'.length, args.length - (j + 1)⟩, _, _, _, _, _, _, ix', st', h9.app, h8, by simp only; omega, j + 1, dn', v2, st', rfl, rfl, rfl, ?_⟩
        exact h9.turn (Blk.set_ h9.app 6 _) ((Kept.refl [ba] w5).set (p := ⟨ba, 6, none⟩) (.inl hmm) _)
  · refine ⟨0, [], v, st0, by simp, rfl, by simp, ?_⟩
    have h1 := hR'.turn (ix' := 0) (st' := st0) (Blk.set_ hR'.app 6 (.int .i64 0)) ((Kept.refl [ba] w').set (p := ⟨ba, 6, none⟩) (.inl hmm) _)
    have h2 := h1.save 121 #[.int .i64 ix0, .int .i64 st0]
    rw [World.size_setCell] at h2
    exact h2
  · intro e w3 ho
    refine ho.mono ?_ (fun h => h)
    rintro ⟨d, w4, ⟨j, dn, v', st, h1, h2, h3, h4⟩, hle, rfl⟩
    have hj : j = args.length := by
      have := h4.jl
      rw [List.length_append, List.length_drop] at h3
      omega
    subst hj
    refine ⟨d.g, d.cp, dn, v', ?_⟩
    have h5 := h4.drop
    have h6 := h5.turn (ix' := ix0) (st' := st) (Blk.set_ h5.app 6 (.int .i64 ix0)) ((Kept.refl [ba] w4).set (p := ⟨ba, 6, none⟩) (.inl hmm) _)
    exact h6.turn (ix' := ix0) (st' := st0) (Blk.set_ h6.app 7 (.int .i64 st0)) ((Kept.refl [ba] _).set (p := ⟨ba, 7, none⟩) (.inl hmm) _)
end
mutual
theorem AE.blk_ty {w : World} : ∀ x : AE, x.In w → ∀ k ∈ x.blocks, ∃ T cs, Blk w k T cs ∧ T ≠ 59
  | .ident b nm, h, k, hk => by
    simp only [AE.blocks, List.mem_singleton] at hk
    subst hk
    exact ⟨_, _, h.2, by decide⟩
  | .lit b tx, h, k, hk => by
    simp only [AE.blocks, List.mem_singleton] at hk
    subst hk
    exact ⟨_, _, h.2, by decide⟩
  | .paren b x, h, k, hk => by
    rcases List.mem_cons.1 hk with rfl | hk
    · exact ⟨_, _, h.1, by decide⟩
    · exact AE.blk_ty x h.2 k hk
  | .sel b x sb nm, h, k, hk => by
    rcases List.mem_cons.1 hk with rfl | hk
    · exact ⟨_, _, h.1, by decide⟩
    · rcases List.mem_cons.1 hk with rfl | hk
      · exact ⟨_, _, h.2.1.2, by decide⟩
      · exact AE.blk_ty x h.2.2 k hk
  | .star b x, h, k, hk => by
    rcases List.mem_cons.1 hk with rfl | hk
    · exact ⟨_, _, h.1, by decide⟩
    · exact AE.blk_ty x h.2 k hk
  | .unary b op x, h, k, hk => by
    rcases List.mem_cons.1 hk with rfl | hk
    · exact ⟨_, _, h.2.1, by decide⟩
    · exact AE.blk_ty x h.2.2 k hk
  | .binary b op x y, h, k, hk => by
    rcases List.mem_cons.1 hk with rfl | hk
    · exact ⟨_, _, h.2.1, by decide⟩
    · rcases List.mem_append.1 hk with hk | hk
      · exact AE.blk_ty x h.2.2.1 k hk
      · exact AE.blk_ty y h.2.2.2 k hk
  | .index b x y, h, k, hk => by
    rcases List.mem_cons.1 hk with rfl | hk
    · exact ⟨_, _, h.1, by decide⟩
    · rcases List.mem_append.1 hk with hk | hk
      · exact AE.blk_ty x h.2.1 k hk
      · exact AE.blk_ty y h.2.2 k hk
  | .call b f g cap args, h, k, hk => by
    rcases List.mem_cons.1 hk with rfl | hk
    · exact ⟨_, _, h.1, by decide⟩
    · rcases List.mem_cons.1 hk with rfl | hk
      · obtain ⟨_, _, _, cur, hb, _⟩ := h.2.2.1.1
        exact ⟨_, _, hb, by decide⟩
      · rcases List.mem_append.1 hk with hk | hk
        · exact AE.blk_ty f h.2.1 k hk
        · exact AEL.blk_ty args h.2.2.2 k hk
theorem AEL.blk_ty {w : World} : ∀ l : List AE, AEInL w l → ∀ k ∈ blocksL l, ∃ T cs, Blk w k T cs ∧ T ≠ 59
  | [], _, _, hk => by cases hk
  | x :: xs, h, k, hk => by
    rcases List.mem_append.1 hk with hk | hk
    · exact AE.blk_ty x h.1 k hk
    · exact AEL.blk_ty xs h.2 k hk
end
/-- Apply over the call. -/
theorem apply_edited {w0 w : World} {b bc bo bh bf : Nat} {nmf : ByteArray} {args : List AE} {A : Option Addr} {ch : Nat} {hs : List Int} {g cp : Nat} {v : Value} (hG : Glob w0) (hhs : ∀ u ∈ hs, 0 ≤ u ∧ u ≤ 5) (hhl : hs.length ≤ 9000000000000000000) (hal : args.length ≤ 20)
    (hin : (AE.call b (.ident bf nmf) g cp args).In w) (hnd : (b :: ((AE.ident bf nmf).blocks ++ blocksL args)).Nodup) (hgn : g ∉ b :: ((AE.ident bf nmf).blocks ++ blocksL args)) (hO : EdOwn w w0.heap.size b bc bo bh A ch hs [] v) (hap : Aparts w0.heap.size bc bo bh v (b :: g :: ((AE.ident bf nmf).blocks ++ blocksL args))) (hb : Below w0.heap.size w0 w) :
    Calls Tryz.prog 34 #[callV b, fnEd bc bo bh, .nilFunc] w (fun e w' => e = .returned (callV b) ∧ ∃ (g' cp' : Nat) (dn : List AE) (v' : Value), nodeL dn = edL hs 0 (nodeL args) ∧ (AE.call b (.ident bf nmf) g' cp' dn).In w' ∧
      EdOwn w' w0.heap.size b bc bo bh A ch hs (edV hs 0 0 (nodeL args)) v' ∧ Below w0.heap.size w0 w') := by
  let t : TypeId := 87
  let u : Value := .pointer (some ⟨b, 0, none⟩)
  let ba := w.heap.size + 1 + 1 + 1
  have hlt := AE.In.lt _ hin
  have hbl : Below w.heap.size w (ApW w (fnEd bc bo bh) .nilFunc t u) := ((((Below.refl _ _).alloc (Nat.le_refl _) _).alloc (by rw [World.size_alloc]; omega) _).alloc (by rw [World.size_alloc, World.size_alloc]; omega) _).alloc (by rw [World.size_alloc, World.size_alloc, World.size_alloc]; omega) _
  have b0 : Blk (ApW w (fnEd bc bo bh) .nilFunc t u) w.heap.size 59 #[.nilIface] := (((Blk.new w 59 #[.nilIface]).alloc _).alloc _).alloc _
  have b1 : Blk (ApW w (fnEd bc bo bh) .nilFunc t u) (w.heap.size + 1) 112 #[.iface t u] := by
    have := ((Blk.new (w.alloc (.cells #[.nilIface] 59)) 112 #[.iface t u]).alloc (.cells #[.pointer (some ⟨w.heap.size + 1, 0, none⟩)] 110)).alloc (.cells #[fnEd bc bo bh, .nilFunc, .nilIface, .string ⟨#[]⟩, .pointer none, .nilIface, .int .i64 0, .int .i64 0] 123)
    rwa [World.size_alloc] at this
  have b2 : Blk (ApW w (fnEd bc bo bh) .nilFunc t u) (w.heap.size + 1 + 1) 110 #[.pointer (some ⟨w.heap.size + 1, 0, none⟩)] := by
    have := (Blk.new ((w.alloc (.cells #[.nilIface] 59)).alloc (.cells #[.iface t u] 112)) 110 #[.pointer (some ⟨w.heap.size + 1, 0, none⟩)]).alloc (.cells #[fnEd bc bo bh, .nilFunc, .nilIface, .string ⟨#[]⟩, .pointer none, .nilIface, .int .i64 0, .int .i64 0] 123)
    rwa [World.size_alloc, World.size_alloc] at this
  have b3 : App (ApW w (fnEd bc bo bh) .nilFunc t u) ba (fnEd bc bo bh) .nilFunc .nilIface ⟨#[]⟩ (.pointer none) .nilIface 0 0 := by
    have := Blk.new (((w.alloc (.cells #[.nilIface] 59)).alloc (.cells #[.iface t u] 112)).alloc (.cells #[.pointer (some ⟨w.heap.size + 1, 0, none⟩)] 110)) 123 #[fnEd bc bo bh, .nilFunc, .nilIface, .string ⟨#[]⟩, .pointer none, .nilIface, .int .i64 0, .int .i64 0]
    rwa [World.size_alloc, World.size_alloc, World.size_alloc] at this
  have hB0 : w0.heap.size ≤ w.heap.size := hb.size
  have lc := hO.cbox.lt
  have lo := hO.outs.box.lt
  have lh := hO.hbox.lt
  have lv : ∀ k ∈ rowOf v, k < w.heap.size := fun k hk => (hO.outs.lst.lt k (mem_rowOf.1 hk)).1
  let W := ApW w (fnEd bc bo bh) .nilFunc t u
  let sc : Array Value := #[.nilIface, .string ⟨#[]⟩, .pointer none, .nilIface]
  let pv : Value := .iface 110 (.pointer (some ⟨w.heap.size + 1, 0, none⟩))
  let nmN : ByteArray := ⟨#[78, 111, 100, 101]⟩
  let sv : Saved := [(W.heap.size, 119, sc), (w.heap.size, 59, #[.nilIface]), (w.heap.size + 1, 112, #[.iface t u]), (w.heap.size + 1 + 1, 110, #[.pointer (some ⟨w.heap.size + 1, 0, none⟩)])]
  have hWs : W.heap.size = w.heap.size + 1 + 1 + 1 + 1 := by simp only [W, ApW, World.size_alloc]
  have hlb : ∀ k ∈ b :: g :: ((AE.ident bf nmf).blocks ++ blocksL args), k < w.heap.size := fun k hk => hlt k (by simpa [AE.blocks] using hk)
  have htr : EdTree W ba b (.ident bf nmf) g cp args := ⟨hin.below hbl (Nat.le_refl _), hnd, hgn, fun hm => by have := hlb _ hm; simp only [ba] at this; omega⟩
  have hOW : EdOwn W w0.heap.size b bc bo bh A ch hs [] v := hO.keep (T := []) (fun k hk => by cases hk) (.of hbl)
  have hapW : Aparts w0.heap.size bc bo bh v (edT0 ba b g (.ident bf nmf) args) := fun k hk => by
    rcases List.mem_cons.1 hk with rfl | hk
    · refine ⟨by simp only [ba]; omega, by simp only [ba]; omega, by simp only [ba]; omega, by simp only [ba]; omega, fun hm => ?_⟩
      have := lv _ hm
      simp only [ba] at this
      omega
    · exact hap k hk
  -- the start
  have hk7 : Kept [ba] W (W7 W ba pv nmN (.pointer none) (callV b) sc) := W7_kept W ba pv nmN (.pointer none) (callV b) sc
  have hst : EdR w0 w0.heap.size ba (fnEd bc bo bh) pv nmN (.pointer none) sv b bc bo bh (.ident bf nmf) args A ch hs g cp 0 0 0 [] v (W7 W ba pv nmN (.pointer none) (callV b) sc) := by
    refine ⟨Nat.zero_le _, rfl, W7_app b3 pv nmN (.pointer none) (callV b) sc, htr.keep hk7 (fun k hm => by rw [List.mem_singleton]; rintro rfl; exact htr.an hm), hOW.keep (T := [ba]) (fun k hm => by rw [List.mem_singleton] at hm; rw [hm]; exact hapW ba (by simp)) hk7, hapW, fun e he => ?_, (hb.trans (hbl.mono hB0)).trans (hk7.below (by omega) (fun k hm => by rw [List.mem_singleton] at hm; rw [hm]; simp only [ba]; omega))⟩
    have hnot : ∀ k, w.heap.size ≤ k → k ≠ ba → k ∉ ba :: b :: g :: bo :: rowOf v := fun k h1 h2 => by
      simp only [List.mem_cons, not_or]
      have l1 := hlb b (by simp)
      have l2 := hlb g (by simp)
      exact ⟨h2, by omega, by omega, by omega, fun hm => by have := lv _ hm; omega⟩
    simp only [sv, List.mem_cons, List.not_mem_nil, or_false] at he
    rcases he with rfl | rfl | rfl | rfl
    · exact ⟨W7_saved W ba pv nmN (.pointer none) (callV b) sc, hnot _ (by omega) (by simp only [ba]; omega)⟩
    · exact ⟨hk7.blk b0 (by rw [List.mem_singleton]; simp only [ba]; omega), hnot _ (Nat.le_refl _) (by simp only [ba]; omega)⟩
    · exact ⟨hk7.blk b1 (by rw [List.mem_singleton]; simp only [ba]; omega), hnot _ (by simp only; omega) (by simp only [ba]; omega)⟩
    · exact ⟨hk7.blk b2 (by rw [List.mem_singleton]; simp only [ba]; omega), hnot _ (by simp only; omega) (by simp only [ba]; omega)⟩
  let RC : World → Prop := fun w2 => ∃ (g' cp' : Nat) (dn : List AE) (v' : Value), EdR w0 w0.heap.size ba (fnEd bc bo bh) pv nmN (.pointer none) sv b bc bo bh (.ident bf nmf) args A ch hs g' cp' args.length 0 0 dn v' w2
  let R0 : World → Prop := fun w2 => EdR w0 w0.heap.size ba (fnEd bc bo bh) pv nmN (.pointer none) sv b bc bo bh (.ident bf nmf) args A ch hs g cp 0 0 0 [] v w2
  have hRCh : Heapy RC := fun w1 w2 e ⟨g', cp', dn, v', h⟩ => ⟨g', cp', dn, v', h.turn (Blk.same h.app (by rw [e.1])) ((Kept.refl [ba] w1).heapy e)⟩
  have hR0h : Heapy R0 := fun w1 w2 e h => EdR.turn h (Blk.same (EdR.app h) (by rw [e.1])) ((Kept.refl [ba] w1).heapy e)
  have hRCf : ∀ w1, RC w1 → Fr ba W.heap.size (fnEd bc bo bh) .nilFunc sc w1 := fun w1 ⟨g', cp', dn, v', h⟩ => ⟨⟨_, _, _, _, _, _, h.app⟩, (h.sav _ List.mem_cons_self).1⟩
  have hR0f : ∀ w1, R0 w1 → Fr ba W.heap.size (fnEd bc bo bh) .nilFunc sc w1 := fun w1 h => ⟨⟨_, _, _, _, _, _, EdR.app h⟩, (EdR.sav h _ List.mem_cons_self).1⟩
  have hpk : ∀ w1, ParOk w1 ba pv := fun w1 => ⟨_, _, rfl, fun h => absurd h (by decide)⟩
  have hQ := quietEd ba b bc bo bh
  have hEq : ∀ w1, R0 w1 → EdQ ba b bc w1 := fun w1 h => ⟨(EdR.own h).cbox, ⟨_, _, (EdR.tree h).inn.1⟩, Ne.symm ((EdR.ap h) ba (by simp)).2.1, fun e => by have := (EdR.tree h).an; simp only [List.mem_cons, not_or] at this; exact this.1 e.symm⟩
  have hF := frCall ba b W (fnEd bc bo bh) .nilFunc 110 (.pointer (some ⟨w.heap.size + 1, 0, none⟩)) nmN none 0 0 .nilIface ⟨#[]⟩ none .nilIface (fun r w1 => r = true ∧ R0 w1) RC (fun r w1 => r = true ∧ RC w1) (fun _ => False) b3 (.inl ⟨rfl, rfl⟩)
    (.inr ⟨_, _, rfl, Tryz.callsEd, fun w2 hw => by
      have h2 : R0 w2 := hR0h _ _ hw hst
      refine (edited_else (EdR.app h2) (hpk w2) (.inl (by intro h; injection h with h _; exact absurd h (by decide))) (hEq w2 h2)).mono ?_
      rintro e w3 ⟨rfl, hk⟩
      exact ⟨true, rfl, rfl, EdR.turn h2 (hk.blk (EdR.app h2) (by simp)) (hk.more (fun k hm => by cases hm))⟩⟩)
    (fun r w1 w2 e h => ⟨h.1, hR0h _ _ e h.2⟩) (fun r w1 h => hR0f w1 h.2)
    (by
      rintro w1 ⟨_, h1⟩
      refine ⟨R0, ?_, fun w2 h2 => ed_list (.inr ⟨_, _, _, _, rfl, rfl⟩) hG hhs hhl hal h2⟩
      have htree := EdR.tree h1
      have hxa : ba ∉ (AE.call b (.ident bf nmf) g cp args).blocks := fun hm => htree.an (by simpa [AE.blocks] using hm)
      have hbf : b ∉ (AE.ident bf nmf).blocks := fun hm => (List.nodup_cons.1 htree.nd).1 (List.mem_append_left _ hm)
      have hbaf : ba ∉ (AE.ident bf nmf).blocks := fun hm => hxa (by simp only [AE.blocks, List.mem_cons, List.mem_append] at hm ⊢; exact .inr (.inr (.inl hm)))
      have h3 := q_one (x := AE.call b (.ident bf nmf) g cp args) (nk := fFun) (g := b) (c := 0) hQ (apply_quiet hQ (SizeOf.sizeOf (AE.ident bf nmf) + 1)) (EdR.app h1) htree.inn hxa (hEq w1 h1) (.ident bf nmf) (Nat.lt_succ_self _) htree.inn.2.1 hbaf hbf (.inr (by decide)) (htree.inn.1.cell 0)
      exact kOne.mono (fun w2 h => EdR.turn h1 h.1 h.2) (fun _ h => h) h3)
    hRCh hRCf (fun w1 h => .inl ⟨rfl, rfl, h⟩) (fun r w1 w2 e h => ⟨h.1, hRCh _ _ e h.2⟩) (fun r w1 h => hRCf w1 h.2)
  refine (applyTop_any (R := fun w2 => ∃ (g' cp' : Nat) (dn : List AE) (v' : Value), nodeL dn = edL hs 0 (nodeL args) ∧ (AE.call b (.ident bf nmf) g' cp' dn).In w2 ∧ EdOwn w2 w0.heap.size b bc bo bh A ch hs (edV hs 0 0 (nodeL args)) v' ∧ Below w0.heap.size w0 w2 ∧
      (∀ k ∈ b :: g' :: ((AE.ident bf nmf).blocks ++ blocksL dn), k ≠ w.heap.size) ∧ w.heap.size ∉ bc :: bo :: bh :: rowOf v' ∧
      Blk w2 w.heap.size 59 #[.nilIface] ∧ Blk w2 (w.heap.size + 1) 112 #[.iface t u] ∧ Blk w2 (w.heap.size + 1 + 1) 110 #[.pointer (some ⟨w.heap.size + 1, 0, none⟩)]) ⟨.inr ⟨_, _, rfl⟩, .inl rfl⟩ (hF.mono ?_) ?_).mono ?_
  · rintro e w2 (⟨rfl, w1, hr, rfl⟩ | ⟨rfl, hp⟩)
    · have hM : RC w1 := by
        rcases hr with ⟨h, _⟩ | ⟨_, h⟩
        · cases h
        · exact h
      obtain ⟨g', cp', dn, v', h⟩ := hM
      have hmm : ba ∈ [ba] := List.mem_cons_self
      have hk4 : Kept [ba] w1 (R4 w1 ba .nilIface ⟨#[]⟩ (.pointer none) .nilIface) := ((((Kept.refl [ba] w1).set (p := ⟨ba, 2, none⟩) (.inl hmm) .nilIface).set (p := ⟨ba, 3, none⟩) (.inl hmm) (.string ⟨#[]⟩)).set (p := ⟨ba, 4, none⟩) (.inl hmm) (.pointer none)).set (p := ⟨ba, 5, none⟩) (.inl hmm) .nilIface
      have hnode := h.node
      have htree := h.tree
      have hown := h.own
      rw [List.take_length] at hnode hown
      rw [List.drop_length, List.append_nil] at htree
      have s0 := h.sav (w.heap.size, 59, #[.nilIface]) (by simp [sv])
      have s1 := h.sav (w.heap.size + 1, 112, #[.iface t u]) (by simp [sv])
      have s2 := h.sav (w.heap.size + 1 + 1, 110, #[.pointer (some ⟨w.heap.size + 1, 0, none⟩)]) (by simp [sv])
      refine .inl ⟨rfl, g', cp', dn, v', hnode, (htree.keep hk4 (fun k hm => by rw [List.mem_singleton]; rintro rfl; exact htree.an hm)).inn, hown.keep (T := [ba]) (fun k hm => by rw [List.mem_singleton] at hm; rw [hm]; exact h.ap ba (by simp)) hk4, h.bel.trans (hk4.below h.ge (fun k hm => by rw [List.mem_singleton] at hm; rw [hm]; exact (h.ap ba (by simp)).1)), ?_, ?_, hk4.blk s0.1 (by rw [List.mem_singleton]; simp only [ba]; omega), hk4.blk s1.1 (by rw [List.mem_singleton]; simp only [ba]; omega), hk4.blk s2.1 (by rw [List.mem_singleton]; simp only [ba]; omega)⟩
      · intro k hm e
        subst e
        obtain ⟨T, cs, hb1, hT⟩ := AE.blk_ty _ htree.inn _ (by simpa [AE.blocks] using hm)
        have e2 := Option.some.inj (hb1.symm.trans s0.1)
        injection e2 with _ e2 _
        exact hT e2
      · have h5 := s0.2
        simp only [List.mem_cons, not_or] at h5 ⊢
        exact ⟨by omega, by omega, by omega, h5.2.2.2.2⟩
    · rcases hp with h | ⟨h, _⟩
      · exact h.elim
      · cases h
  · rintro w2 ⟨g', cp', dn, v', _, _, _, _, _, _, h0, h1, h2⟩
    exact ⟨h0, h2, _, _, h1⟩
  · rintro e w' ⟨w1, t', u', ⟨g', cp', dn, v', h1, h2, h3, h4, h5, h6, h7, h8, h9⟩, hc, rfl, hw'⟩
    have e1 : (.iface t' u' : Value) = .iface t u := Option.some.inj (hc.symm.trans (h8.cell 0))
    have hk : Kept [w.heap.size] w1 w' := by
      rcases hw' with rfl | rfl
      · exact (Kept.refl _ w1).set (p := ⟨w.heap.size, 0, none⟩) (.inl List.mem_cons_self) _
      · exact ((Kept.refl _ w1).alloc _).set (p := ⟨w.heap.size, 0, none⟩) (.inl List.mem_cons_self) _
    have hsz := h7.lt
    simp only [List.mem_cons, not_or] at h6
    refine ⟨by rw [e1], g', cp', dn, v', h1, AE.In.same _ (fun k hm => hk.2 k (AE.In.lt _ h2 k hm) (by rw [List.mem_singleton]; exact h5 k (by simpa [AE.blocks] using hm))) h2, h3.keep (T := [w.heap.size]) (fun k hm => ?_) hk, h4.trans (hk.below (by omega) (fun k hm => by rw [List.mem_singleton] at hm; omega))⟩
    rw [List.mem_singleton] at hm
    subst hm
    exact ⟨hB0, h6.1, h6.2.1, h6.2.2.1, h6.2.2.2⟩
end Go.Proofs.YtgimbgpebpippaaGreatDoor
