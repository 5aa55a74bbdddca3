/- apply at whatever node, for a client that only looks: the calls that are due. -/
import Derived.Test.YtgimbgpebpippaaGreatDoorApL
import Derived.Test.YtgimbgpebpippaaGreatDoorFrIdent
import Derived.Test.YtgimbgpebpippaaGreatDoorFrLit
import Derived.Test.YtgimbgpebpippaaGreatDoorFrParen
import Derived.Test.YtgimbgpebpippaaGreatDoorFrStar
import Derived.Test.YtgimbgpebpippaaGreatDoorFrUnary
import Derived.Test.YtgimbgpebpippaaGreatDoorFrSel
import Derived.Test.YtgimbgpebpippaaGreatDoorFrIndex
import Derived.Test.YtgimbgpebpippaaGreatDoorFrBinary
import Derived.Test.YtgimbgpebpippaaGreatDoorFrCall
import Derived.Test.YtgimbgpebpippaaGreatDoorFrList
namespace Go.Proofs.YtgimbgpebpippaaGreatDoor
open Go.RowKit
set_option maxRecDepth 100000

abbrev applyF : FuncId := 68
section
variable {q : Ask} {CI : VSt → World → List Nat → Prop} {ba : Nat} {fp fq : Value} {w : World} {own : List Nat} {s : VSt} {p : Option AE} {pv : Value} {nm : ByteArray} {it : Value} {ix st idx : Int} {pv0 : Value} {nm0 : ByteArray} {o0 : Option Addr} {nv0 : Value} {x : AE}
theorem ApOut.mono {R R' Pn Pn' : World → Prop} {e : Ending} {w' : World} (h : ApOut R Pn e w') (hR : R w' → R' w') (hP : Pn w' → Pn' w') : ApOut R' Pn' e w' := by
  rcases h with ⟨rfl, h⟩ | ⟨rfl, h⟩
  · exact .inl ⟨rfl, hR h⟩
  · exact .inr ⟨rfl, hP h⟩
/-- The frame at a node, and what is below it. -/
theorem ap_frame (hC : Client q ba fp fq CI) (hP : ApPre q CI ba fp fq w own s x p pv nm it ix st idx pv0 nm0 o0 nv0) {K : KidsRule} (hF : FrameRule ba x.val K) (f : VSt → VSt × Bool) (hf : Mono f) {sp : Spot} (hsp : spotAt p nm idx = sp)
    (hw : walkN q x.node sp s = skipOr q x.node.kind x.node.text sp s (fun s1 => andThen (f s1) (postV q x.node.kind x.node.text sp)))
    (hK : ∀ w1 (sv : Saved), Bd (f (preV q x.node.kind x.node.text sp s)) → Mid CI ba fp fq pv nm it x.val ix st sv w own (preV q x.node.kind x.node.text sp s) w1 →
      K w1 (fun w2 => (f (preV q x.node.kind x.node.text sp s)).2 = true ∧ Mid CI ba fp fq pv nm it x.val ix st sv w own (f (preV q x.node.kind x.node.text sp s)).1 w2) (Gone CI ba w own (f (preV q x.node.kind x.node.text sp s))))
    (hmono : ∀ w1 (R R' Pn Pn' : World → Prop), (∀ w, R w → R' w) → (∀ w, Pn w → Pn' w) → K w1 R Pn → K w1 R' Pn') :
    Calls Tryz.prog applyF #[.pointer (some ⟨ba, 0, none⟩), pv, .string nm, it, x.val] w (ApSo CI ba (appCells fp fq pv0 nm0 (.pointer o0) nv0 ix st) own w (walkN q x.node (spotAt p nm idx) s)) := by
  subst hsp
  obtain ⟨t, u, hpv⟩ := hP.pin.iface
  obtain ⟨o, hit⟩ := hP.ixn.ptr
  subst hpv hit
  have hbd := hP.bd
  rw [hw] at hbd
  have hends : 0 ≤ (preV q x.node.kind x.node.text (spotAt p nm idx) s).ends := by rw [← (preV_ge q x.node.kind x.node.text (spotAt p nm idx) s).2]; exact hbd.2
  refine (hF w fp fq t u nm o ix st pv0 nm0 o0 nv0 _
    (fun w2 => ¬ (q.pre = true ∧ x.node.kind = q.skip) ∧ (f (preV q x.node.kind x.node.text (spotAt p nm idx) s)).2 = true ∧ Mid CI ba fp fq (.iface t u) nm (.pointer o) x.val ix st [(w.heap.size, 119, #[pv0, .string nm0, .pointer o0, nv0])] w own (f (preV q x.node.kind x.node.text (spotAt p nm idx) s)).1 w2)
    (fun r w2 => ¬ (q.pre = true ∧ x.node.kind = q.skip) ∧ (f (preV q x.node.kind x.node.text (spotAt p nm idx) s)).2 = true ∧ Mid CI ba fp fq (.iface t u) nm (.pointer o) x.val ix st [(w.heap.size, 119, #[pv0, .string nm0, .pointer o0, nv0])] w own (postV q x.node.kind x.node.text (spotAt p nm idx) (f (preV q x.node.kind x.node.text (spotAt p nm idx) s)).1).1 w2 ∧ r = (postV q x.node.kind x.node.text (spotAt p nm idx) (f (preV q x.node.kind x.node.text (spotAt p nm idx) s)).1).2)
    (fun w2 => ¬ (q.pre = true ∧ x.node.kind = q.skip) ∧ Gone CI ba w own (f (preV q x.node.kind x.node.text (spotAt p nm idx) s)) w2)
    hP.app hP.old (fn_pre hC hP _) (fun r w1 w2 e h => ⟨Mid.heapy hC _ _ e h.1, h.2⟩) (fun r w1 h => h.1.fr) ?_ (fun w1 w2 e h => ⟨h.1, h.2.1, Mid.heapy hC _ _ e h.2.2⟩) (fun w1 h => h.2.2.fr) ?_
    (fun r w1 w2 e h => ⟨h.1, h.2.1, Mid.heapy hC _ _ e h.2.2.1, h.2.2.2⟩) (fun r w1 h => h.2.2.1.fr)).mono ?_
  · rintro w1 ⟨hM, hr⟩
    have hns : ¬ (q.pre = true ∧ x.node.kind = q.skip) := fun h => by simpa using hr.2 h
    have hb2 : Bd (f (preV q x.node.kind x.node.text (spotAt p nm idx) s)) := by
      have := hbd.1
      unfold skipOr at this
      rw [if_neg hns] at this
      exact Bd.first (postV_mono _ _ _ _) this
    exact hmono _ _ _ _ _ (fun w h => ⟨hns, h⟩) (fun w h => ⟨hns, h⟩) (hK w1 _ hb2 hM)
  · rintro w1 ⟨hns, ho, hM⟩
    have hb2 : Bd (f (preV q x.node.kind x.node.text (spotAt p nm idx) s)) := by
      have := hbd.1
      unfold skipOr at this
      rw [if_neg hns] at this
      exact Bd.first (postV_mono _ _ _ _) this
    have hm2 := hf (preV q x.node.kind x.node.text (spotAt p nm idx) s)
    have := fn_post hC hP hM ⟨hb2.1, by omega, hb2.2⟩
    rcases this with ⟨h1, h2⟩ | ⟨F, cps, h1, h2, h3⟩
    · exact .inl ⟨h1, hns, ho, h2⟩
    · exact .inr ⟨F, cps, h1, h2, fun w' hw' => (h3 w' hw').mono (by rintro e w2 ⟨r, he, hr⟩; exact ⟨r, he, hns, ho, hr⟩)⟩
  · intro e w' h
    rw [hw]
    refine ap_of_fr hC hP (sv := [(w.heap.size, 119, #[pv0, .string nm0, .pointer o0, nv0])]) ?_ ?_ h
    · rintro w1 (⟨hM, hr⟩ | ⟨hns, ho, hM, hr⟩)
      · have hs := hr.1 rfl
        exact ⟨_, by unfold skipOr; rw [if_pos hs], hM⟩
      · refine ⟨_, ?_, hM⟩
        unfold skipOr
        rw [if_neg hns]
        show andThen (f _) _ = _
        rw [andThen_true ho, Prod.ext_iff]
        exact ⟨rfl, hr.symm⟩
    · rintro w1 (⟨hns, hg⟩ | ⟨hns, ho, hM, hr⟩)
      · unfold skipOr
        rw [if_neg hns]
        show Gone CI ba w own (andThen (f _) _) w1
        rw [andThen_false hg.1]
        exact hg
      · unfold skipOr
        rw [if_neg hns]
        show Gone CI ba w own (andThen (f _) _) w1
        rw [andThen_true ho]
        obtain ⟨own1, hci, ha, hs, hk, hg⟩ := hM
        exact ⟨hr.symm, own1, hci, hk, hg, _, ha⟩
end
end Go.Proofs.YtgimbgpebpippaaGreatDoor
namespace Go.Proofs.YtgimbgpebpippaaGreatDoor
open Go.RowKit
set_option maxRecDepth 100000

theorem walkL_one (q : Ask) (k : ByteArray) (i : Nat) (n : Node) (s : VSt) : walkL q k i [n] s = walkN q n (spotOf k i) s := by
  rw [walkL_cons]
  unfold andThen
  split
  · rename_i h
    rw [walkL_nil, ← h]
  · rfl
theorem walkL_two (q : Ask) (k : ByteArray) (i : Nat) (n m : Node) (s : VSt) : walkL q k i [n, m] s = andThen (walkN q n (spotOf k i) s) (walkN q m (spotOf k (i + 1))) := by
  rw [walkL_cons]
  congr 1
  funext s2
  exact walkL_one q k (i + 1) m s2
theorem kOne.mono {ba b c : Nat} {TV : Value} {nk : ByteArray} {w1 : World} {R R' Pn Pn' : World → Prop} (hR : ∀ w, R w → R' w) (hP : ∀ w, Pn w → Pn' w) (h : kOne ba b c TV nk w1 R Pn) : kOne ba b c TV nk w1 R' Pn' := by
  obtain ⟨t, u, hc, hq⟩ := h
  exact ⟨t, u, hc, fun w' hw => (hq w' hw).mono (fun e w2 h => h.mono (hR _) (hP _))⟩
theorem kPtr.mono {ba b c : Nat} {TV : Value} {nk : ByteArray} {T : TypeId} {w1 : World} {R R' Pn Pn' : World → Prop} (hR : ∀ w, R w → R' w) (hP : ∀ w, Pn w → Pn' w) (h : kPtr ba b c TV nk T w1 R Pn) : kPtr ba b c TV nk T w1 R' Pn' := by
  obtain ⟨o, hc, hq⟩ := h
  exact ⟨o, hc, fun w' hw => (hq w' hw).mono (fun e w2 h => h.mono (hR _) (hP _))⟩
theorem kList.mono {ba : Nat} {TV : Value} {nk : ByteArray} {w1 : World} {R R' Pn Pn' : World → Prop} (hR : ∀ w, R w → R' w) (hP : ∀ w, Pn w → Pn' w) (h : kList ba TV nk w1 R Pn) : kList ba TV nk w1 R' Pn' :=
  fun w' hw => (h w' hw).mono (fun _e _w2 h => h.mono (hR _) (hP _))
def KMono (K : KidsRule) : Prop := ∀ (w1 : World) (R R' Pn Pn' : World → Prop), (∀ w, R w → R' w) → (∀ w, Pn w → Pn' w) → K w1 R Pn → K w1 R' Pn'
theorem kThen.mono {K1 K2 : KidsRule} (h1 : KMono K1) (h2 : KMono K2) : KMono (kThen K1 K2) := fun _w1 _R _R' _Pn _Pn' hR hP ⟨M, hk, hn⟩ =>
  ⟨M, h1 _ _ _ _ _ (fun _ h => h) hP hk, fun w2 hm => h2 _ _ _ _ _ hR hP (hn w2 hm)⟩
theorem AE.sizeOf_pos (x : AE) : 0 < SizeOf.sizeOf x := by cases x <;> simp <;> omega
section
variable {q : Ask} {CI : VSt → World → List Nat → Prop} {ba : Nat} {fp fq : Value}
/-- What apply does at trees smaller than k. -/
def ApUpTo (q : Ask) (CI : VSt → World → List Nat → Prop) (ba : Nat) (fp fq : Value) (k : Nat) : Prop := ∀ (x : AE), SizeOf.sizeOf x < k → ∀ (w : World) (own : List Nat) (s : VSt) (p : Option AE) (pv : Value) (nm : ByteArray) (it : Value) (ix st idx : Int) (pv0 : Value) (nm0 : ByteArray) (o0 : Option Addr) (nv0 : Value), ApPre q CI ba fp fq w own s x p pv nm it ix st idx pv0 nm0 o0 nv0 →
  Calls Tryz.prog applyF #[.pointer (some ⟨ba, 0, none⟩), pv, .string nm, it, x.val] w (ApSo CI ba (appCells fp fq pv0 nm0 (.pointer o0) nv0 ix st) own w (walkN q x.node (spotAt p nm idx) s))
variable {w : World} {own : List Nat} {s : VSt} {p : Option AE} {pv : Value} {nm : ByteArray} {it : Value} {ix st idx : Int} {pv0 : Value} {nm0 : ByteArray} {o0 : Option Addr} {nv0 : Value} {x : AE}
/-- An expression below, in a cell of the node's block. -/
theorem kOne_of (hC : Client q ba fp fq CI) (hP : ApPre q CI ba fp fq w own s x p pv nm it ix st idx pv0 nm0 o0 nv0) {k : Nat} (ih : ApUpTo q CI ba fp fq k) (y : AE) (hsz : SizeOf.sizeOf y < k) (b c : Nat) (nk : ByteArray) {sv : Saved} {s1 : VSt} {w1 : World} (hM : Mid CI ba fp fq pv nm it x.val ix st sv w own s1 w1)
    (hcell : ∀ w', x.In w' → w'.cell? ⟨b, c, none⟩ = some y.val) (hy : ∀ w', x.In w' → y.In w') (hyb : ∀ b ∈ y.blocks, b ∈ x.blocks) {sp : Spot} (hsp : spotAt (some x) nk (-1) = sp) (hbd : Bd (walkN q y.node sp s1)) (he : 0 ≤ s1.ends) :
    kOne ba b c x.val nk w1 (fun w2 => (walkN q y.node sp s1).2 = true ∧ Mid CI ba fp fq pv nm it x.val ix st sv w own (walkN q y.node sp s1).1 w2) (Gone CI ba w own (walkN q y.node sp s1)) := by
  subst hsp
  obtain ⟨own1, hci, ha1, hx, _⟩ := Mid.parts hC hP hM ⟨rfl, rfl, rfl, rfl⟩
  obtain ⟨t, u, hv⟩ := y.val_one
  have hk := mid_kid hC hP hM y nk (.pointer none) (-1) (.inl ⟨rfl, rfl⟩) hy hyb ⟨hbd, he⟩ (fun w' own' pv0 nm0 o0 nv0 h => ih y hsz w' own' s1 (some x) x.val nk _ ix st (-1) pv0 nm0 o0 nv0 h)
  rw [hv] at hk
  exact ⟨t, u, by rw [hcell w1 hx, hv], hk⟩
/-- A name below, by a pointer in a cell of the node's block. -/
theorem kPtr_of (hC : Client q ba fp fq CI) (hP : ApPre q CI ba fp fq w own s x p pv nm it ix st idx pv0 nm0 o0 nv0) {k : Nat} (ih : ApUpTo q CI ba fp fq k) (sb : Nat) (sn : ByteArray) (hsz : SizeOf.sizeOf (AE.ident sb sn) < k) (b c : Nat) (nk : ByteArray) {sv : Saved} {s1 : VSt} {w1 : World} (hM : Mid CI ba fp fq pv nm it x.val ix st sv w own s1 w1)
    (hcell : ∀ w', x.In w' → w'.cell? ⟨b, c, none⟩ = some (.pointer (some ⟨sb, 0, none⟩))) (hy : ∀ w', x.In w' → (AE.ident sb sn).In w') (hyb : ∀ b ∈ (AE.ident sb sn).blocks, b ∈ x.blocks) {sp : Spot} (hsp : spotAt (some x) nk (-1) = sp) (hbd : Bd (walkN q (AE.ident sb sn).node sp s1)) (he : 0 ≤ s1.ends) :
    kPtr ba b c x.val nk 79 w1 (fun w2 => (walkN q (AE.ident sb sn).node sp s1).2 = true ∧ Mid CI ba fp fq pv nm it x.val ix st sv w own (walkN q (AE.ident sb sn).node sp s1).1 w2) (Gone CI ba w own (walkN q (AE.ident sb sn).node sp s1)) := by
  subst hsp
  obtain ⟨own1, hci, ha1, hx, _⟩ := Mid.parts hC hP hM ⟨rfl, rfl, rfl, rfl⟩
  have hk := mid_kid hC hP hM (AE.ident sb sn) nk (.pointer none) (-1) (.inl ⟨rfl, rfl⟩) hy hyb ⟨hbd, he⟩ (fun w' own' pv0 nm0 o0 nv0 h => ih (AE.ident sb sn) hsz w' own' s1 (some x) x.val nk _ ix st (-1) pv0 nm0 o0 nv0 h)
  exact ⟨some ⟨sb, 0, none⟩, hcell w1 hx, hk⟩
/-- A second thing below behind a first one. -/
theorem kThen_of {K1 K2 : KidsRule} (m1 : KMono K1) (_m2 : KMono K2) {x : AE} {sv : Saved} {s1 : VSt} {w1 : World} {f1 f2 : VSt → VSt × Bool} (hf1 : Mono f1) (hf2 : Mono f2) (hb : Bd (andThen (f1 s1) f2)) (he : 0 ≤ s1.ends)
    (h1 : Bd (f1 s1) → K1 w1 (fun w2 => (f1 s1).2 = true ∧ Mid CI ba fp fq pv nm it x.val ix st sv w own (f1 s1).1 w2) (Gone CI ba w own (f1 s1)))
    (h2 : ∀ w2, Bd (f2 (f1 s1).1) → 0 ≤ (f1 s1).1.ends → Mid CI ba fp fq pv nm it x.val ix st sv w own (f1 s1).1 w2 → K2 w2 (fun w3 => (f2 (f1 s1).1).2 = true ∧ Mid CI ba fp fq pv nm it x.val ix st sv w own (f2 (f1 s1).1).1 w3) (Gone CI ba w own (f2 (f1 s1).1))) :
    kThen K1 K2 w1 (fun w3 => (andThen (f1 s1) f2).2 = true ∧ Mid CI ba fp fq pv nm it x.val ix st sv w own (andThen (f1 s1) f2).1 w3) (Gone CI ba w own (andThen (f1 s1) f2)) := by
  refine ⟨fun w2 => (f1 s1).2 = true ∧ Mid CI ba fp fq pv nm it x.val ix st sv w own (f1 s1).1 w2, m1 _ _ _ _ _ (fun _ h => h) (fun w2 h => ?_) (h1 (hb.first hf2)), fun w2 hm => ?_⟩
  · rw [andThen_false h.1]; exact h
  · have hb2 := hb.snd hm.1
    rw [andThen_true hm.1]
    exact h2 w2 hb2 (by have := (hf1 s1).2; omega) hm.2
end
end Go.Proofs.YtgimbgpebpippaaGreatDoor
namespace Go.Proofs.YtgimbgpebpippaaGreatDoor
open Go.RowKit
set_option maxRecDepth 100000

theorem walkL_append (q : Ask) (k : ByteArray) : ∀ (i : Nat) (a c : List Node) (s : VSt), walkL q k i (a ++ c) s = andThen (walkL q k i a s) (walkL q k (i + a.length) c)
  | i, [], c, s => by rw [walkL_nil]; rfl
  | i, n :: a, c, s => by
    rw [List.cons_append, walkL_cons, walkL_cons]
    cases h : (walkN q n (spotOf k i) s).2
    · rw [andThen_false h, andThen_false h, andThen_false h]
    · rw [andThen_true h, andThen_true h, walkL_append q k (i + 1) a c, List.length_cons]
      congr 2
      omega
theorem mem_blocksL {k : AE} {ns : List AE} (hk : k ∈ ns) {b : Nat} (hb : b ∈ k.blocks) : b ∈ blocksL ns := by
  induction ns with
  | nil => cases hk
  | cons a l ih =>
    simp only [blocksL, List.mem_append]
    rcases List.mem_cons.1 hk with rfl | hk
    · exact .inl hb
    · exact .inr (ih hk)
theorem spot_arg (x : AE) (hx : x.node.kind = sCall) (j : Nat) : spotOf sCall (1 + j) = spotAt (some x) fArgs j := by
  unfold spotOf
  rw [if_neg (fun h => absurd h.1 (by decide)), if_neg (fun h => absurd h.1 (by decide)), if_neg (fun h => by omega), if_pos rfl]
  show (_ : Spot) = ⟨fArgs, (j : Int), x.node.kind⟩
  rw [hx]
  congr 1
  omega
theorem take_next {args : List AE} {j : Nat} {y : AE} (hy : args[j]? = some y) : j < args.length ∧ args.take (j + 1) = args.take j ++ [y] ∧ args = args.take j ++ y :: args.drop (j + 1) := by
  have hj : j < args.length := by
    rcases Nat.lt_or_ge j args.length with h | h
    · exact h
    · rw [List.getElem?_eq_none h] at hy; cases hy
  have h1 : args[j] = y := by rw [List.getElem?_eq_getElem hj] at hy; exact Option.some.inj hy
  refine ⟨hj, ?_, ?_⟩
  · rw [List.take_succ_eq_append_getElem hj, h1]
  · conv => lhs; rw [← List.take_append_drop j args, List.drop_eq_getElem_cons hj, h1]
section
variable {q : Ask} {CI : VSt → World → List Nat → Prop} {ba : Nat} {fp fq : Value} {w : World} {own : List Nat} {s : VSt} {p : Option AE} {pv : Value} {nm : ByteArray} {it : Value} {ix st idx : Int} {pv0 : Value} {nm0 : ByteArray} {o0 : Option Addr} {nv0 : Value} {x : AE}
theorem Mid.setIx (hC : Client q ba fp fq CI) (hP : ApPre q CI ba fp fq w own s x p pv nm it ix st idx pv0 nm0 o0 nv0) {sv : Saved} {s1 : VSt} {w1 : World} {ix' st' : Int} (h : Mid CI ba fp fq pv nm it x.val ix' st' sv w own s1 w1) (v : Int) :
    Mid CI ba fp fq pv nm it x.val v st' sv w own s1 (w1.setCell ⟨ba, 6, none⟩ (.int .i64 v)) := by
  obtain ⟨own1, hci, ha, hs, hk, hg⟩ := h
  have hba : ba ∉ own1 := hg.not hP.aw.1 (Blk.lt hP.app)
  have hf : ∀ k, k ≠ ba → (w1.setCell ⟨ba, 6, none⟩ (.int .i64 v)).heap[k]? = w1.heap[k]? := fun k hk => Below.heap_setCell _ _ _ _ (by exact hk)
  exact ⟨own1, hC.kept s1 w1 _ own1 hci (by simp) (fun k hk1 => hf k (fun e => hba (e ▸ hk1))), Blk.set_ ha 6 _, hs.same (fun k _ _ hn => hf k hn), hk.set (.inl List.mem_cons_self) _, hg⟩
theorem Mid.setSt (hC : Client q ba fp fq CI) (hP : ApPre q CI ba fp fq w own s x p pv nm it ix st idx pv0 nm0 o0 nv0) {sv : Saved} {s1 : VSt} {w1 : World} {ix' st' : Int} (h : Mid CI ba fp fq pv nm it x.val ix' st' sv w own s1 w1) (v : Int) :
    Mid CI ba fp fq pv nm it x.val ix' v sv w own s1 (w1.setCell ⟨ba, 7, none⟩ (.int .i64 v)) := by
  obtain ⟨own1, hci, ha, hs, hk, hg⟩ := h
  have hba : ba ∉ own1 := hg.not hP.aw.1 (Blk.lt hP.app)
  have hf : ∀ k, k ≠ ba → (w1.setCell ⟨ba, 7, none⟩ (.int .i64 v)).heap[k]? = w1.heap[k]? := fun k hk => Below.heap_setCell _ _ _ _ (by exact hk)
  exact ⟨own1, hC.kept s1 w1 _ own1 hci (by simp) (fun k hk1 => hf k (fun e => hba (e ▸ hk1))), Blk.set_ ha 7 _, hs.same (fun k _ _ hn => hf k hn), hk.set (.inl List.mem_cons_self) _, hg⟩
theorem Mid.alloc (hC : Client q ba fp fq CI) {sv : Saved} {s1 : VSt} {w1 : World} {nv : Value} (h : Mid CI ba fp fq pv nm it nv ix st sv w own s1 w1) (o : Obj) : Mid CI ba fp fq pv nm it nv ix st sv w own s1 (w1.alloc o) := by
  obtain ⟨own1, hci, ha, hs, hk, hg⟩ := h
  have hlt := hC.lt s1 w1 own1 hci
  exact ⟨own1, hC.kept s1 w1 _ own1 hci (by rw [World.size_alloc]; omega) (fun k hk1 => Below.heap_alloc w1 o k (hlt k hk1)), Blk.alloc ha _, hs.same (fun k hlt _ _ => Below.heap_alloc w1 o k hlt), hk.alloc _, hg⟩
theorem Mid.save (hC : Client q ba fp fq CI) {sv : Saved} {s1 : VSt} {w1 : World} {nv : Value} (h : Mid CI ba fp fq pv nm it nv ix st sv w own s1 w1) (T : TypeId) (cs : Array Value) : Mid CI ba fp fq pv nm it nv ix st ((w1.heap.size, T, cs) :: sv) w own s1 (w1.alloc (.cells cs T)) := by
  obtain ⟨own1, hci, ha, hs, hk, hg⟩ := h
  have hlt := hC.lt s1 w1 own1 hci
  have hal := Blk.lt ha
  refine ⟨own1, hC.kept s1 w1 _ own1 hci (by rw [World.size_alloc]; omega) (fun k hk1 => Below.heap_alloc w1 _ k (hlt k hk1)), Blk.alloc ha _, fun e he => ?_, hk.alloc _, hg⟩
  rcases List.mem_cons.1 he with rfl | he
  · exact ⟨Blk.new w1 T cs, fun hm => Nat.lt_irrefl _ (hlt _ hm), by simp only; omega⟩
  · exact hs.same (fun k hlt _ _ => Below.heap_alloc w1 _ k hlt) e he
theorem Mid.drop {sv : Saved} {s1 : VSt} {w1 : World} {nv : Value} {e : Nat × TypeId × Array Value} (h : Mid CI ba fp fq pv nm it nv ix st (e :: sv) w own s1 w1) : Mid CI ba fp fq pv nm it nv ix st sv w own s1 w1 := by
  obtain ⟨own1, hci, ha, hs, hk, hg⟩ := h
  exact ⟨own1, hci, ha, fun e he => hs e (List.mem_cons_of_mem _ he), hk, hg⟩
/-- The arguments of a call. -/
theorem kList_of (hC : Client q ba fp fq CI) {k : Nat} (ih : ApUpTo q CI ba fp fq k) (b : Nat) (f : AE) (g cap : Nat) (args : List AE) (hsz : ∀ y ∈ args, SizeOf.sizeOf y < k) (hP : ApPre q CI ba fp fq w own s (.call b f g cap args) p pv nm it ix st idx pv0 nm0 o0 nv0)
    {sv : Saved} {s2 : VSt} {w2 : World} (hM : Mid CI ba fp fq pv nm it (AE.call b f g cap args).val ix st sv w own s2 w2) (hbd : Bd (walkL q sCall 1 (nodeL args) s2)) (he : 0 ≤ s2.ends) :
    kList ba (AE.call b f g cap args).val fArgs w2 (fun w3 => (walkL q sCall 1 (nodeL args) s2).2 = true ∧ Mid CI ba fp fq pv nm it (AE.call b f g cap args).val ix st sv w own (walkL q sCall 1 (nodeL args) s2).1 w3) (Gone CI ba w own (walkL q sCall 1 (nodeL args) s2)) := by
  intro w' hw
  have hM' := Mid.heapy hC _ _ hw hM
  have hlen : args.length ≤ 1000 := hP.xin.2.2.1.2
  have hsplit : ∀ (j : Nat) (y : AE), args[j]? = some y → walkL q sCall 1 (nodeL args) s2 = andThen (walkL q sCall 1 (nodeL (args.take j)) s2) (fun s3 => andThen (walkN q y.node (spotAt (some (.call b f g cap args)) fArgs j) s3) (walkL q sCall (1 + j + 1) (nodeL (args.drop (j + 1))))) := by
    intro j y hy
    obtain ⟨hj, _, e1⟩ := take_next hy
    have hl : (nodeL (args.take j)).length = j := by rw [nodeL_eq, List.length_map, List.length_take]; omega
    conv => lhs; rw [e1]
    rw [nodeL_append, walkL_append, hl]
    congr 1
    funext s3
    rw [nodeL, walkL_cons, spot_arg (.call b f g cap args) rfl j]
  have hsucc : ∀ (j : Nat) (y : AE), args[j]? = some y → walkL q sCall 1 (nodeL (args.take (j + 1))) s2 = andThen (walkL q sCall 1 (nodeL (args.take j)) s2) (walkN q y.node (spotAt (some (.call b f g cap args)) fArgs j)) := by
    intro j y hy
    obtain ⟨hj, e1, _⟩ := take_next hy
    have hl : (nodeL (args.take j)).length = j := by rw [nodeL_eq, List.length_map, List.length_take]; omega
    rw [e1, nodeL_append, walkL_append, hl]
    congr 1
    funext s3
    rw [nodeL, nodeL, walkL_one, spot_arg (.call b f g cap args) rfl j]
  let J : LD → World → Prop := fun d w1 => d.g = g ∧ d.n = args.length ∧ d.cp = cap ∧ d.i ≤ args.length ∧ d.m = args.length - d.i ∧ ∃ st' : Int, (walkL q sCall 1 (nodeL (args.take d.i)) s2).2 = true ∧
    Mid CI ba fp fq pv nm it (AE.call b f g cap args).val d.i st' ((w'.heap.size, 121, #[.int .i64 ix, .int .i64 st]) :: sv) w own (walkL q sCall 1 (nodeL (args.take d.i)) s2).1 w1
  have happ : App w' ba fp fq pv nm it (AE.call b f g cap args).val ix st := by
    obtain ⟨own1, hci, ha, _⟩ := hM'
    exact ha
  refine (applyList_rule (J := J) (d0 := ⟨g, args.length, cap, 0, args.length⟩) (PC := Gone CI ba w own (walkL q sCall 1 (nodeL args) s2)) (list_callArgs b) happ ?_ ?_).mono ?_
  · constructor
    case heapy => exact fun d w1 w3 e h => ⟨h.1, h.2.1, h.2.2.1, h.2.2.2.1, h.2.2.2.2.1, by obtain ⟨st', h1, h2⟩ := h.2.2.2.2.2; exact ⟨st', h1, Mid.heapy hC _ _ e h2⟩⟩
    case alloc => exact fun d w1 v h => ⟨h.1, h.2.1, h.2.2.1, h.2.2.2.1, h.2.2.2.2.1, by obtain ⟨st', h1, h2⟩ := h.2.2.2.2.2; exact ⟨st', h1, Mid.alloc hC h2 _⟩⟩
    case sl =>
      rintro d w1 ⟨rfl, h2, rfl, h4, h5, st', h6, h7⟩
      obtain ⟨own1, hci, ha1, hx, _⟩ := Mid.parts hC hP h7 ⟨rfl, rfl, rfl, rfl⟩
      rw [h2]
      exact hx.1.cell 2
    case app =>
      rintro d w1 ⟨h1, h2, h3, h4, h5, st', h6, own1, hci, ha, _⟩
      exact ⟨_, _, _, _, _, _, st', ha⟩
    case sav =>
      rintro d w1 ⟨h1, h2, h3, h4, h5, st', h6, own1, hci, ha, hs, _⟩
      exact (hs _ List.mem_cons_self).1
    case bd =>
      rintro d w1 ⟨h1, h2, h3, h4, h5, _⟩
      omega
    case elt =>
      rintro d w1 ⟨h1, h2, h3, h4, h5, st', h6, h7⟩ hlt
      obtain ⟨own1, hci, ha1, hx, _⟩ := Mid.parts hC hP h7 ⟨rfl, rfl, rfl, rfl⟩
      obtain ⟨y, hy⟩ : ∃ y, args[d.i]? = some y := ⟨args[d.i]'(by omega), List.getElem?_eq_getElem (by omega)⟩
      have hmem := List.mem_of_getElem? hy
      obtain ⟨t, u, hv⟩ := y.val_one
      have hbk := hbd
      rw [hsplit d.i y hy] at hbk
      have hb1 : Bd (walkN q y.node (spotAt (some (.call b f g cap args)) fArgs d.i) (walkL q sCall 1 (nodeL (args.take d.i)) s2).1) := (hbk.snd h6).first (walkL_mono q _ _ _)
      have he1 : 0 ≤ (walkL q sCall 1 (nodeL (args.take d.i)) s2).1.ends := by have := (walkL_mono q sCall 1 (nodeL (args.take d.i)) s2).2; omega
      refine ⟨t, u, ?_, fun w3 hw3 => ?_⟩
      · rw [h1]
        have := hx.2.2.1.1.cell (i := d.i) (v := y.val) (by simp [hy])
        rw [this, hv]
      · have hM3 := Mid.setSt hC hP h7 1
        have hk := mid_kid hC hP hM3 y fArgs (iterV ba) d.i (.inr ⟨rfl, rfl, by omega⟩) (fun w' h => (AEInL_iff w' args).1 h.2.2.2 y hmem) (fun c hc => by simp only [AE.blocks, List.mem_cons, List.mem_append]; exact .inr (.inr (.inr (mem_blocksL hmem hc)))) ⟨hb1, he1⟩
          (fun w' own' pv0 nm0 o0 nv0 h => ih y (hsz y hmem) w' own' _ (some (.call b f g cap args)) (AE.call b f g cap args).val fArgs (iterV ba) d.i 1 d.i pv0 nm0 o0 nv0 h) w3 hw3
        rw [hv] at hk
        refine hk.mono (fun e w4 ho => ho.mono ?_ ?_)
        · rintro ⟨ho, hM4⟩
          have ha4 : App w4 ba fp fq pv nm it (AE.call b f g cap args).val d.i 1 := by
            obtain ⟨own2, hci2, ha2, _⟩ := hM4
            exact ha2
          refine ⟨⟨g, args.length, cap, d.i + 1, args.length - (d.i + 1)⟩, _, _, _, _, _, _, d.i, 1, ha4, by simp only; omega, by simp only; omega, rfl, rfl, rfl, by simp only; omega, rfl, 1, ?_, ?_⟩
          · simp only
            rw [hsucc d.i y hy, andThen_true h6]; exact ho
          · simp only
            rw [hsucc d.i y hy, andThen_true h6]
            have := Mid.setIx hC hP hM4 (d.i + 1)
            exact this
        · intro hg
          rw [hsplit d.i y hy, andThen_true h6]
          show Gone CI ba w own (andThen _ _) w4
          rw [andThen_false hg.1]
          exact hg
  · refine ⟨rfl, rfl, rfl, Nat.zero_le _, rfl, st, ?_, ?_⟩
    · simp only [List.take_zero, nodeL, walkL_nil]
    · simp only [List.take_zero, nodeL, walkL_nil]
      have := Mid.save hC (Mid.setIx hC hP hM' 0) 121 #[.int .i64 ix, .int .i64 st]
      simpa using this
  · intro e w3 ho
    refine ho.mono ?_ (fun h => h)
    rintro ⟨d, w1, ⟨h1, h2, h3, h4, h5, st', h6, h7⟩, hle, rfl⟩
    have hi : d.i = args.length := by omega
    have ht : args.take d.i = args := by rw [hi, List.take_length]
    rw [ht] at h6 h7
    exact ⟨h6, Mid.setSt hC hP (Mid.setIx hC hP h7.drop ix) st⟩
theorem kOne_mono (ba b c : Nat) (TV : Value) (nk : ByteArray) : KMono (kOne ba b c TV nk) := fun _ _ _ _ _ h1 h2 h => kOne.mono h1 h2 h
theorem kPtr_mono (ba b c : Nat) (TV : Value) (nk : ByteArray) (T : TypeId) : KMono (kPtr ba b c TV nk T) := fun _ _ _ _ _ h1 h2 h => kPtr.mono h1 h2 h
theorem kList_mono (ba : Nat) (TV : Value) (nk : ByteArray) : KMono (kList ba TV nk) := fun _ _ _ _ _ h1 h2 h => kList.mono h1 h2 h
theorem andThen_id (o : VSt × Bool) : andThen o (fun s => (s, true)) = o := by
  obtain ⟨s, b⟩ := o
  cases b <;> rfl
theorem Mono.id : Mono (fun s => (s, true)) := fun _s => ⟨Nat.le_refl _, Int.le_refl _⟩
theorem apply_any (hC : Client q ba fp fq CI) (k : Nat) : ApUpTo q CI ba fp fq k := by
  induction k with
  | zero => intro x hs; omega
  | succ k ih =>
  intro x hs w own s p pv nm it ix st idx pv0 nm0 o0 nv0 hP
  have hends : ∀ (k t : ByteArray) (sp : Spot), 0 ≤ (preV q k t sp s).ends := fun k t sp => by rw [← (preV_ge q k t sp s).2]; exact hP.bd.2
  cases x with
  | ident b n =>
    refine ap_frame hC hP (frIdent ba b) (fun s => (s, true)) Mono.id rfl (walkN_leaf (by decide)) (fun w1 sv _ hM => ⟨rfl, hM⟩) (fun w1 R R' Pn Pn' h1 h2 h => h1 _ h)
  | lit b n =>
    refine ap_frame hC hP (frLit ba b) (fun s => (s, true)) Mono.id rfl (walkN_leaf (by decide)) (fun w1 sv _ hM => ⟨rfl, hM⟩) (fun w1 R R' Pn Pn' h1 h2 h => h1 _ h)
  | paren b y =>
    rw [AE.paren.sizeOf_spec] at hs
    refine ap_frame hC hP (frParen ba b) (fun s1 => walkN q y.node ⟨fX, -1, sParen⟩ s1) (walkN_mono q _ _) rfl ?_ (fun w1 sv hb hM => ?_) (kOne_mono _ _ _ _ _)
    · show walkN q (.mk sParen sEmpty [y.node]) _ _ = _
      rw [walkN_ne (by decide)]
      congr 1
      funext s1
      rw [walkL_one]; rfl
    · exact kOne_of hC hP ih y (by omega) b 1 fX hM (fun w' h => h.1.cell 1) (fun w' h => h.2) (fun c hc => by simp [AE.blocks, hc]) rfl hb (hends _ _ _)
  | star b y =>
    rw [AE.star.sizeOf_spec] at hs
    refine ap_frame hC hP (frStar ba b) (fun s1 => walkN q y.node ⟨fX, -1, sUn⟩ s1) (walkN_mono q _ _) rfl ?_ (fun w1 sv hb hM => ?_) (kOne_mono _ _ _ _ _)
    · show walkN q (.mk sUn ⟨#[42]⟩ [y.node]) _ _ = _
      rw [walkN_ne (by decide)]
      congr 1
      funext s1
      rw [walkL_one]; rfl
    · exact kOne_of hC hP ih y (by omega) b 1 fX hM (fun w' h => h.1.cell 1) (fun w' h => h.2) (fun c hc => by simp [AE.blocks, hc]) rfl hb (hends _ _ _)
  | unary b op y =>
    rw [AE.unary.sizeOf_spec] at hs
    refine ap_frame hC hP (frUnary ba b) (fun s1 => walkN q y.node ⟨fX, -1, sUn⟩ s1) (walkN_mono q _ _) rfl ?_ (fun w1 sv hb hM => ?_) (kOne_mono _ _ _ _ _)
    · show walkN q (.mk sUn (tok op) [y.node]) _ _ = _
      rw [walkN_ne (by decide)]
      congr 1
      funext s1
      rw [walkL_one]; rfl
    · exact kOne_of hC hP ih y (by omega) b 2 fX hM (fun w' h => h.2.1.cell 2) (fun w' h => h.2.2) (fun c hc => by simp [AE.blocks, hc]) rfl hb (hends _ _ _)
  | sel b y sb n =>
    have hpos := AE.sizeOf_pos y
    rw [AE.sel.sizeOf_spec] at hs
    refine ap_frame hC hP (frSel ba b) (fun s1 => andThen (walkN q y.node ⟨fX, -1, sSel⟩ s1) (walkN q (AE.ident sb n).node ⟨fSel, -1, sSel⟩)) ((walkN_mono q _ _).then (walkN_mono q _ _)) rfl ?_ (fun w1 sv hb hM => ?_) (kThen.mono (kOne_mono _ _ _ _ _) (kPtr_mono _ _ _ _ _ _))
    · show walkN q (.mk sSel n [y.node]) _ _ = _
      rw [walkN_sel]
      congr 1
      funext s1
      rw [walkL_one]
      have e : leafV q sName n ⟨fSel, -1, sSel⟩ = walkN q (AE.ident sb n).node ⟨fSel, -1, sSel⟩ := funext (fun s2 => leafV_eq)
      rw [e]; rfl
    · refine kThen_of (x := .sel b y sb n) (kOne_mono _ _ _ _ _) (kPtr_mono _ _ _ _ _ _) (walkN_mono q _ _) (walkN_mono q _ _) hb (hends _ _ _) (fun hb1 => ?_) (fun w2 hb2 he2 hM2 => ?_)
      · exact kOne_of hC hP ih y (by omega) b 0 fX hM (fun w' h => h.1.cell 0) (fun w' h => h.2.2) (fun c hc => by simp [AE.blocks, hc]) rfl hb1 (hends _ _ _)
      · exact kPtr_of hC hP ih sb n (by rw [AE.ident.sizeOf_spec]; omega) b 1 fSel hM2 (fun w' h => h.1.cell 1) (fun w' h => h.2.1) (fun c hc => by simp [AE.blocks] at hc ⊢; simp [hc]) rfl hb2 he2
  | binary b op y z =>
    rw [AE.binary.sizeOf_spec] at hs
    refine ap_frame hC hP (frBinary ba b) (fun s1 => andThen (walkN q y.node ⟨fX, -1, sBin⟩ s1) (walkN q z.node ⟨fY, -1, sBin⟩)) ((walkN_mono q _ _).then (walkN_mono q _ _)) rfl ?_ (fun w1 sv hb hM => ?_) (kThen.mono (kOne_mono _ _ _ _ _) (kOne_mono _ _ _ _ _))
    · show walkN q (.mk sBin (tok op) [y.node, z.node]) _ _ = _
      rw [walkN_ne (by decide)]
      congr 1
      funext s1
      rw [walkL_two]; rfl
    · refine kThen_of (x := .binary b op y z) (kOne_mono _ _ _ _ _) (kOne_mono _ _ _ _ _) (walkN_mono q _ _) (walkN_mono q _ _) hb (hends _ _ _) (fun hb1 => ?_) (fun w2 hb2 he2 hM2 => ?_)
      · exact kOne_of hC hP ih y (by omega) b 0 fX hM (fun w' h => h.2.1.cell 0) (fun w' h => h.2.2.1) (fun c hc => by simp [AE.blocks, hc]) rfl hb1 (hends _ _ _)
      · exact kOne_of hC hP ih z (by omega) b 3 fY hM2 (fun w' h => h.2.1.cell 3) (fun w' h => h.2.2.2) (fun c hc => by simp [AE.blocks, hc]) rfl hb2 he2
  | index b y z =>
    rw [AE.index.sizeOf_spec] at hs
    refine ap_frame hC hP (frIndex ba b) (fun s1 => andThen (walkN q y.node ⟨fX, -1, sIndex⟩ s1) (walkN q z.node ⟨fIndex, -1, sIndex⟩)) ((walkN_mono q _ _).then (walkN_mono q _ _)) rfl ?_ (fun w1 sv hb hM => ?_) (kThen.mono (kOne_mono _ _ _ _ _) (kOne_mono _ _ _ _ _))
    · show walkN q (.mk sIndex sEmpty [y.node, z.node]) _ _ = _
      rw [walkN_ne (by decide)]
      congr 1
      funext s1
      rw [walkL_two]; rfl
    · refine kThen_of (x := .index b y z) (kOne_mono _ _ _ _ _) (kOne_mono _ _ _ _ _) (walkN_mono q _ _) (walkN_mono q _ _) hb (hends _ _ _) (fun hb1 => ?_) (fun w2 hb2 he2 hM2 => ?_)
      · exact kOne_of hC hP ih y (by omega) b 0 fX hM (fun w' h => h.1.cell 0) (fun w' h => h.2.1) (fun c hc => by simp [AE.blocks, hc]) rfl hb1 (hends _ _ _)
      · exact kOne_of hC hP ih z (by omega) b 2 fIndex hM2 (fun w' h => h.1.cell 2) (fun w' h => h.2.2) (fun c hc => by simp [AE.blocks, hc]) rfl hb2 he2
  | call b y g cap args =>
    rw [AE.call.sizeOf_spec] at hs
    refine ap_frame hC hP (frCall ba b) (fun s1 => andThen (walkN q y.node ⟨fFun, -1, sCall⟩ s1) (walkL q sCall 1 (nodeL args))) ((walkN_mono q _ _).then (walkL_mono q _ _ _)) rfl ?_ (fun w1 sv hb hM => ?_) (kThen.mono (kOne_mono _ _ _ _ _) (kList_mono _ _ _))
    · show walkN q (.mk sCall sEmpty (y.node :: nodeL args)) _ _ = _
      rw [walkN_ne (by decide)]
      congr 1
      funext s1
      rw [walkL_cons]; rfl
    · refine kThen_of (x := .call b y g cap args) (kOne_mono _ _ _ _ _) (kList_mono _ _ _) (walkN_mono q _ _) (walkL_mono q _ _ _) hb (hends _ _ _) (fun hb1 => ?_) (fun w2 hb2 he2 hM2 => ?_)
      · exact kOne_of hC hP ih y (by omega) b 0 fFun hM (fun w' h => h.1.cell 0) (fun w' h => h.2.1) (fun c hc => by simp [AE.blocks, hc]) rfl hb1 (hends _ _ _)
      · exact kList_of hC ih b y g cap args (fun z hz => by have := List.sizeOf_lt_of_mem hz; omega) hP hM2 hb2 he2
end
end Go.Proofs.YtgimbgpebpippaaGreatDoor
