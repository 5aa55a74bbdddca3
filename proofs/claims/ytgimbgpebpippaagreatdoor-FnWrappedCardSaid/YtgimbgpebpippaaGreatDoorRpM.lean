/- A tree with a hole: where a node is replaced below another one. -/
import Derived.Test.YtgimbgpebpippaaGreatDoorRpF
import Derived.Test.YtgimbgpebpippaaGreatDoorApW
namespace Go.Proofs.YtgimbgpebpippaaGreatDoor
open Go.RowKit
set_option maxRecDepth 100000
/-- The blocks of a place. -/
def Loc.blks : Loc → List Nat
  | .arg b g _ _ _ => [b, g]
  | L => [L.blk]
theorem Loc.blk_mem (L : Loc) : L.blk ∈ L.blks := by cases L <;> simp [Loc.blks, Loc.blk]
theorem Loc.Row.same {L : Loc} {w w' : World} (h : L.Row w) (hk : ∀ k ∈ L.blks, w'.heap[k]? = w.heap[k]?) : L.Row w' := by
  cases L with
  | arg b g n cp i => exact ⟨(World.cell?_of_block (hk b (by simp [Loc.blks]))).trans h.1, h.2⟩
  | _ => trivial
/-- x is y, set into fill; y stands at L. -/
structure Hole (x : AE) (L : Loc) (y : AE) (fill : AE → AE) (A C : List Nat) : Prop where
  self : x.blocks = A ++ y.blocks ++ C
  pv : L.pv = x.val
  val : ∀ y', (fill y').val = x.val
  blocks : ∀ y', (L.IsSel → ∃ b nm, y' = .ident b nm) → (fill y').blocks = A ++ y'.blocks ++ C
  blks : ∀ k ∈ L.blks, k ∈ A
  inn : ∀ w, x.In w → y.In w
  row : ∀ w, x.In w → L.Row w
  cell : ∀ w, x.In w → ∃ T cs, Blk w L.blk T cs ∧ cs[L.off]? = some (L.cellv y.val)
  put : ∀ w w' y', x.blocks.Nodup → x.In w → y'.In w' → (L.IsSel → ∃ b nm, y' = .ident b nm) → (∀ k, k ∈ A ∨ k ∈ C → k ≠ L.blk → w'.heap[k]? = w.heap[k]?) →
    (∀ T cs, Blk w L.blk T cs → Blk w' L.blk T (cs.setIfInBounds L.off (L.cellv y'.val))) → (fill y').In w'
theorem Hole.paren (b : Nat) (y : AE) : Hole (.paren b y) (.parenX b) y (.paren b) [b] [] where
  self := by simp [AE.blocks]
  pv := rfl
  val _ := rfl
  blocks y' _ := by simp [AE.blocks]
  blks k hk := hk
  inn w h := h.2
  row w h := trivial
  cell w h := ⟨_, _, h.1, rfl⟩
  put w w' y' hn h hy hs hk hb := ⟨hb _ _ h.1, hy⟩
theorem Hole.star (b : Nat) (y : AE) : Hole (.star b y) (.starX b) y (.star b) [b] [] where
  self := by simp [AE.blocks]
  pv := rfl
  val _ := rfl
  blocks y' _ := by simp [AE.blocks]
  blks k hk := hk
  inn w h := h.2
  row w h := trivial
  cell w h := ⟨_, _, h.1, rfl⟩
  put w w' y' hn h hy hs hk hb := ⟨hb _ _ h.1, hy⟩
theorem Hole.unary (b op : Nat) (y : AE) : Hole (.unary b op y) (.unaryX b) y (.unary b op) [b] [] where
  self := by simp [AE.blocks]
  pv := rfl
  val _ := rfl
  blocks y' _ := by simp [AE.blocks]
  blks k hk := hk
  inn w h := h.2.2
  row w h := trivial
  cell w h := ⟨_, _, h.2.1, rfl⟩
  put w w' y' hn h hy hs hk hb := ⟨h.1, hb _ _ h.2.1, hy⟩
theorem Hole.selX (b : Nat) (y : AE) (sb : Nat) (nm : ByteArray) : Hole (.sel b y sb nm) (.selX b) y (fun y => .sel b y sb nm) [b, sb] [] where
  self := by simp [AE.blocks]
  pv := rfl
  val _ := rfl
  blocks y' _ := by simp [AE.blocks]
  blks k hk := by simp [Loc.blks, Loc.blk] at hk; simp [hk]
  inn w h := h.2.2
  row w h := trivial
  cell w h := ⟨_, _, h.1, rfl⟩
  put w w' y' hn h hy hs hk hb := ⟨hb _ _ h.1, ⟨h.2.1.1, h.2.1.2.same (hk sb (by simp) (fun e => by simp [AE.blocks, Loc.blk] at hn e; omega))⟩, hy⟩
/-- The selector with another name. -/
def selWith (b : Nat) (x : AE) (sb : Nat) (nm : ByteArray) : AE → AE
  | .ident sb' nm' => .sel b x sb' nm'
  | _ => .sel b x sb nm
theorem Hole.selS (b : Nat) (x : AE) (sb : Nat) (nm : ByteArray) : Hole (.sel b x sb nm) (.selS b) (.ident sb nm) (selWith b x sb nm) [b] x.blocks where
  self := by simp [AE.blocks]
  pv := rfl
  val y' := by cases y' <;> rfl
  blocks y' hs := by obtain ⟨c, n, rfl⟩ := hs trivial; simp [AE.blocks, selWith]
  blks k hk := by simp [Loc.blks, Loc.blk] at hk; simp [hk]
  inn w h := h.2.1
  row w h := trivial
  cell w h := ⟨_, _, h.1, rfl⟩
  put w w' y' hn h hy hs hk hb := by
    obtain ⟨c, n, rfl⟩ := hs trivial
    exact ⟨hb _ _ h.1, hy, AE.In.same x (fun k hk1 => hk k (.inr hk1) (fun e => by simp [AE.blocks, Loc.blk] at hn e; exact hn.1.2 (e ▸ hk1))) h.2.2⟩
theorem Hole.binX (b op : Nat) (y z : AE) : Hole (.binary b op y z) (.binX b) y (fun y => .binary b op y z) [b] z.blocks where
  self := by simp [AE.blocks]
  pv := rfl
  val _ := rfl
  blocks y' _ := by simp [AE.blocks]
  blks k hk := by simp [Loc.blks, Loc.blk] at hk; simp [hk]
  inn w h := h.2.2.1
  row w h := trivial
  cell w h := ⟨_, _, h.2.1, rfl⟩
  put w w' y' hn h hy hs hk hb := ⟨h.1, hb _ _ h.2.1, hy, AE.In.same z (fun k hk1 => hk k (.inr hk1) (fun e => by simp [AE.blocks, Loc.blk] at hn e; exact hn.1.2 (e ▸ hk1))) h.2.2.2⟩
theorem Hole.binY (b op : Nat) (z y : AE) : Hole (.binary b op z y) (.binY b) y (fun y => .binary b op z y) (b :: z.blocks) [] where
  self := by simp [AE.blocks]
  pv := rfl
  val _ := rfl
  blocks y' _ := by simp [AE.blocks]
  blks k hk := by simp [Loc.blks, Loc.blk] at hk; simp [hk]
  inn w h := h.2.2.2
  row w h := trivial
  cell w h := ⟨_, _, h.2.1, rfl⟩
  put w w' y' hn h hy hs hk hb := ⟨h.1, hb _ _ h.2.1, AE.In.same z (fun k hk1 => hk k (.inl (List.mem_cons_of_mem _ hk1)) (fun e => by simp [AE.blocks, Loc.blk] at hn e; exact hn.1.1 (e ▸ hk1))) h.2.2.1, hy⟩
theorem Hole.idxX (b : Nat) (y z : AE) : Hole (.index b y z) (.idxX b) y (fun y => .index b y z) [b] z.blocks where
  self := by simp [AE.blocks]
  pv := rfl
  val _ := rfl
  blocks y' _ := by simp [AE.blocks]
  blks k hk := by simp [Loc.blks, Loc.blk] at hk; simp [hk]
  inn w h := h.2.1
  row w h := trivial
  cell w h := ⟨_, _, h.1, rfl⟩
  put w w' y' hn h hy hs hk hb := ⟨hb _ _ h.1, hy, AE.In.same z (fun k hk1 => hk k (.inr hk1) (fun e => by simp [AE.blocks, Loc.blk] at hn e; exact hn.1.2 (e ▸ hk1))) h.2.2⟩
theorem Hole.idxI (b : Nat) (z y : AE) : Hole (.index b z y) (.idxI b) y (fun y => .index b z y) (b :: z.blocks) [] where
  self := by simp [AE.blocks]
  pv := rfl
  val _ := rfl
  blocks y' _ := by simp [AE.blocks]
  blks k hk := by simp [Loc.blks, Loc.blk] at hk; simp [hk]
  inn w h := h.2.2
  row w h := trivial
  cell w h := ⟨_, _, h.1, rfl⟩
  put w w' y' hn h hy hs hk hb := ⟨hb _ _ h.1, AE.In.same z (fun k hk1 => hk k (.inl (List.mem_cons_of_mem _ hk1)) (fun e => by simp [AE.blocks, Loc.blk] at hn e; exact hn.1.1 (e ▸ hk1))) h.2.1, hy⟩
theorem Hole.callF (b : Nat) (y : AE) (g cap : Nat) (args : List AE) : Hole (.call b y g cap args) (.callF b) y (fun y => .call b y g cap args) [b, g] (blocksL args) where
  self := by simp [AE.blocks]
  pv := rfl
  val _ := rfl
  blocks y' _ := by simp [AE.blocks]
  blks k hk := by simp [Loc.blks, Loc.blk] at hk; simp [hk]
  inn w h := h.2.1
  row w h := trivial
  cell w h := ⟨_, _, h.1, rfl⟩
  put w w' y' hn h hy hs hk hb := ⟨hb _ _ h.1, hy, ⟨h.2.2.1.1.same (hk g (by simp) (fun e => by simp [AE.blocks, Loc.blk] at hn e; omega)), h.2.2.1.2⟩, AEInL.same args (fun k hk1 => hk k (.inr hk1) (fun e => by simp [AE.blocks, Loc.blk] at hn e; exact hn.1.2.2 (e ▸ hk1))) h.2.2.2⟩
end Go.Proofs.YtgimbgpebpippaaGreatDoor
namespace Go.Proofs.YtgimbgpebpippaaGreatDoor
open Go.RowKit
set_option maxRecDepth 100000
theorem Row.put {w w' : World} {g n cap i : Nat} {t : TypeId} {xs ys : List Value} {v : Value} (h : Row w g t 1 n xs cap) (hb : ∀ T cs, Blk w g T cs → Blk w' g T (cs.setIfInBounds i v)) (hy : ys = xs.set i v) : Row w' g t 1 n ys cap := by
  obtain ⟨h1, h2, h3, cur, hc, hs, ht⟩ := h
  subst hy
  refine ⟨by rw [List.length_set]; exact h1, h2, h3, _, hb _ _ hc, by rw [Array.size_setIfInBounds]; exact hs, ?_⟩
  rw [Array.toList_setIfInBounds, ← ht, List.take_set]
theorem Hole.arg (b : Nat) (f : AE) (g cap : Nat) (p : List AE) (y : AE) (q : List AE) :
    Hole (.call b f g cap (p ++ y :: q)) (.arg b g (p ++ y :: q).length cap p.length) y (fun y => .call b f g cap (p ++ y :: q)) (b :: g :: (f.blocks ++ blocksL p)) (blocksL q) where
  self := by simp [AE.blocks, blocksL_append, blocksL]
  pv := rfl
  val _ := rfl
  blocks y' _ := by simp [AE.blocks, blocksL_append, blocksL]
  blks k hk := by simp [Loc.blks] at hk; rcases hk with rfl | rfl <;> simp
  inn w h := (AEInL_iff w _).1 h.2.2.2 y (by simp)
  row w h := ⟨h.1.cell 2, by simp⟩
  cell w h := by
    obtain ⟨h1, h2, h3, cur, hc, hs, ht⟩ := h.2.2.1.1
    refine ⟨_, _, hc, ?_⟩
    have e : (cur.toList.take ((p ++ y :: q).length * 1))[p.length]? = some y.val := by rw [ht]; simp
    rw [List.getElem?_take, if_pos (by simp)] at e
    rw [← Array.getElem?_toList]
    exact e
  put w w' y' hn h hy hs hk hb := by
    have hbg : b ≠ g := fun e => by simp [AE.blocks] at hn; exact hn.1.1 e
    have hnf : ∀ k ∈ f.blocks, k ≠ g := fun k hk1 e => by simp [AE.blocks] at hn; exact hn.2.1.1 (e ▸ hk1)
    have hnl : ∀ k ∈ blocksL (p ++ y :: q), k ≠ g := fun k hk1 e => by simp [AE.blocks] at hn; exact hn.2.1.2 (e ▸ hk1)
    have hl : (p ++ y' :: q).length = (p ++ y :: q).length := by simp
    refine ⟨?_, AE.In.same f (fun k hk1 => hk k (.inl (by simp [hk1])) (hnf k hk1)) h.2.1, ⟨?_, by rw [hl]; exact h.2.2.1.2⟩, ?_⟩
    · rw [hl]; exact h.1.same (hk b (.inl (by simp)) hbg)
    · rw [hl]
      exact Row.put (i := p.length) h.2.2.1.1 hb (by simp [Loc.cellv])
    · have hA := (AEInL_iff w _).1 h.2.2.2
      refine (AEInL_iff w' _).2 (fun z hz => ?_)
      rcases List.mem_append.1 hz with hz | hz
      · exact AE.In.same z (fun k hk1 => hk k (.inl (by simp [mem_blocksL hz hk1])) (hnl k (by rw [blocksL_append]; exact List.mem_append_left _ (mem_blocksL hz hk1)))) (hA z (by simp [hz]))
      · rcases List.mem_cons.1 hz with rfl | hz
        · exact hy
        · exact AE.In.same z (fun k hk1 => hk k (.inr (mem_blocksL hz hk1)) (hnl k (by rw [blocksL_append, blocksL]; exact List.mem_append_right _ (List.mem_append_right _ (mem_blocksL hz hk1))))) (hA z (by simp [hz]))
/-- One part of a list turns into another, made of its own and of new blocks. -/
theorem nodup_swap {A Y Y' C : List Nat} {B : Nat} (h : (A ++ Y ++ C).Nodup) (hy : Y'.Nodup) (hg : ∀ k ∈ Y', k ∈ Y ∨ B ≤ k) (hlt : ∀ k, k ∈ A ∨ k ∈ C → k < B) : (A ++ Y' ++ C).Nodup := by
  rw [List.nodup_append, List.nodup_append] at h ⊢
  obtain ⟨⟨hA, hY, hAY⟩, hC, hAYC⟩ := h
  refine ⟨⟨hA, hy, fun a ha k hk => ?_⟩, hC, fun a ha k hk => ?_⟩
  · rcases hg k hk with h | h
    · exact hAY a ha k h
    · have := hlt a (.inl ha); omega
  · rcases List.mem_append.1 ha with ha | ha
    · exact hAYC a (List.mem_append_left _ ha) k hk
    · rcases hg a ha with h | h
      · exact hAYC a (List.mem_append_right _ h) k hk
      · have := hlt k (.inr hk); omega
end Go.Proofs.YtgimbgpebpippaaGreatDoor
namespace Go.Proofs.YtgimbgpebpippaaGreatDoor
open Go.RowKit
set_option maxRecDepth 100000
/-! what a replacing client makes of a tree -/
mutual
def AE.tr (rp : Bool → Node → Node) : AE → Bool → Node
  | .ident _ nm, s => rp s (.mk sName nm [])
  | .lit _ tx, s => rp s (.mk sInt tx [])
  | .paren _ x, s => rp s (.mk sParen sEmpty [x.tr rp false])
  | .sel _ x _ nm, s => rp s (.mk sSel (rp true (.mk sName nm [])).text [x.tr rp false])
  | .star _ x, s => rp s (.mk sUn ⟨#[42]⟩ [x.tr rp false])
  | .unary _ op x, s => rp s (.mk sUn (tok op) [x.tr rp false])
  | .binary _ op x y, s => rp s (.mk sBin (tok op) [x.tr rp false, y.tr rp false])
  | .index _ x y, s => rp s (.mk sIndex sEmpty [x.tr rp false, y.tr rp false])
  | .call _ f _ _ args, s => rp s (.mk sCall sEmpty (f.tr rp false :: trL rp args))
def trL (rp : Bool → Node → Node) : List AE → List Node
  | [] => []
  | x :: xs => x.tr rp false :: trL rp xs
end
theorem trL_eq (rp : Bool → Node → Node) (l : List AE) : trL rp l = l.map (fun x => x.tr rp false) := by
  induction l with
  | nil => rfl
  | cons x l ih => simp [trL, ih]
/-- A replacing client: its function, and the blocks that it reads. -/
structure RCl (rp : Bool → Node → Node) (fv : Value) (ba : Nat) (cb : List Nat) (Q : World → Prop) : Prop where
  keep : ∀ w w', (∀ k ∈ cb, w'.heap[k]? = w.heap[k]?) → Q w → Q w'
  fn : ∃ F cps, fv = .func (.func F) #[] cps ∧ (∀ args w, (callFunc F args).run Tryz.prog w = .ok (.enter F args) w) ∧
    ∀ (fp fq : Value) (L : Loc) (x : AE) (ix st : Int) (w : World), AtLoc w ba fp fq L x ix st → Q w → Calls Tryz.prog F (#[cur ba] ++ cps) w (RpSo rp L x w)
/-- Which of apply's two functions it is. -/
def RMode (rp : Bool → Node → Node) (fv fp fq : Value) : Prop := (fp = .nilFunc ∧ fq = fv) ∨ (fp = fv ∧ fq = .nilFunc ∧ ∀ s n, n.kind ≠ sName → rp s n = n)
/-- Ahead of apply at a node. -/
structure RPre (cb : List Nat) (Q : World → Prop) (w : World) (ba : Nat) (fp fq : Value) (L : Loc) (x : AE) (ix st : Int) (pv0 : Value) (nm0 : ByteArray) (o0 : Option Addr) (nv0 : Value) : Prop where
  app : App w ba fp fq pv0 nm0 (.pointer o0) nv0 ix st
  old : OldCur pv0 nv0
  inn : x.In w
  ix : L.At ix
  row : L.Row w
  cell : ∃ T cs, Blk w L.blk T cs ∧ cs[L.off]? = some (L.cellv x.val)
  sel : L.IsSel → ∃ b nm, x = .ident b nm
  nodup : x.blocks.Nodup
  q : Q w
  abx : ba ∉ x.blocks
  loc : ∀ k ∈ L.blks, k ∉ x.blocks ∧ k ≠ ba ∧ k ∉ cb ∧ k < w.heap.size
  cbx : ∀ k ∈ cb, k ∉ x.blocks ∧ k ≠ ba ∧ k < w.heap.size
/-- What apply has done at a node. -/
structure RTurn (ba : Nat) (L : Loc) (x y : AE) (w w' : World) : Prop where
  inn : y.In w'
  kept : Kept (ba :: L.blk :: x.blocks) w w'
  cell : ∀ T cs, Blk w L.blk T cs → Blk w' L.blk T (cs.setIfInBounds L.off (L.cellv y.val))
  grow : Grows w.heap.size x.blocks y.blocks
  nodup : y.blocks.Nodup
  sel : L.IsSel → ∃ b nm, y = .ident b nm
/-- Between the parts of apply at a node x: what now stands there is x1. -/
structure RMid (ba : Nat) (fp fq pv : Value) (nm : ByteArray) (it : Value) (ix st : Int) (sv : Saved) (w : World) (x x1 : AE) (w1 : World) : Prop where
  app : App w1 ba fp fq pv nm it x.val ix st
  inn : x1.In w1
  val : x1.val = x.val
  kept : Kept (ba :: x.blocks) w w1
  sav : SavedIn ba sv w1 x1.blocks
  grow : Grows w.heap.size x.blocks x1.blocks
  nodup : x1.blocks.Nodup
section
variable {rp : Bool → Node → Node} {fv : Value} {ba : Nat} {cb : List Nat} {Q : World → Prop} {fp fq : Value} {w : World} {L : Loc} {x : AE} {ix st : Int} {pv0 : Value} {nm0 : ByteArray} {o0 : Option Addr} {nv0 : Value}
theorem RMid.heapy {pv : Value} {nm : ByteArray} {it : Value} {ix st : Int} {sv : Saved} {x1 : AE} : Heapy (RMid ba fp fq pv nm it ix st sv w x x1) := fun w1 w2 e h =>
  ⟨Blk.same h.app (by rw [e.1]), AE.In.same x1 (fun b _ => by rw [e.1]) h.inn, h.val, h.kept.heapy e, h.sav.same (fun k _ _ _ => by rw [e.1]), h.grow, h.nodup⟩
/-- What apply does at trees smaller than k. -/
def RUpTo (rp : Bool → Node → Node) (cb : List Nat) (Q : World → Prop) (ba : Nat) (fp fq : Value) (k : Nat) : Prop := ∀ (x : AE), SizeOf.sizeOf x < k → ∀ (w : World) (L : Loc) (ix st : Int) (pv0 : Value) (nm0 : ByteArray) (o0 : Option Addr) (nv0 : Value), RPre cb Q w ba fp fq L x ix st pv0 nm0 o0 nv0 →
  Calls Tryz.prog applyF #[.pointer (some ⟨ba, 0, none⟩), L.pv, .string L.nm, L.it ba, x.val] w (fun e w' => e = .returned (.tuple #[]) ∧ ∃ y, y.node = x.tr rp L.isSel ∧ RTurn ba L x y w w' ∧ App w' ba fp fq pv0 nm0 (.pointer o0) nv0 ix st)
theorem Loc.pv_one (L : Loc) : ∃ t u, L.pv = .iface t u := by cases L <;> exact ⟨_, _, rfl⟩
theorem Loc.it_ptr (L : Loc) (ba : Nat) : ∃ o, L.it ba = .pointer o := by cases L <;> exact ⟨_, rfl⟩
theorem RMid.q (hC : RCl rp fv ba cb Q) (hP : RPre cb Q w ba fp fq L x ix st pv0 nm0 o0 nv0) {pv : Value} {nm : ByteArray} {it : Value} {ix' st' : Int} {sv : Saved} {x1 : AE} {w1 : World} (hM : RMid ba fp fq pv nm it ix' st' sv w x x1 w1) : Q w1 :=
  hC.keep w w1 (fun k hk => hM.kept.2 k (hP.cbx k hk).2.2 (by simp [(hP.cbx k hk).1, (hP.cbx k hk).2.1])) hP.q
/-- A node below: its call of apply, seen from the one above. -/
theorem rp_kid (hC : RCl rp fv ba cb Q) (hP : RPre cb Q w ba fp fq L x ix st pv0 nm0 o0 nv0) {k : Nat} (ih : RUpTo rp cb Q ba fp fq k) {pt : TypeId} {pu : Value} {nm : ByteArray} {o : Option Addr} {ix' st' : Int} {sv : Saved} {x1 : AE} {w1 : World}
    (hM : RMid ba fp fq (.iface pt pu) nm (.pointer o) ix' st' sv w x x1 w1) {L' : Loc} {y : AE} {fill : AE → AE} {A C : List Nat} (hH : Hole x1 L' y fill A C) (hsz : SizeOf.sizeOf y < k) (hix : L'.At ix') (hsel : L'.IsSel → ∃ b nm, y = .ident b nm) :
    ∀ w', Sm w1 w' → Calls Tryz.prog applyF #[.pointer (some ⟨ba, 0, none⟩), x.val, .string L'.nm, L'.it ba, y.val] w'
      (ApOut (fun w2 => ∃ y', y'.node = y.tr rp L'.isSel ∧ (L'.IsSel → ∃ b nm, y' = .ident b nm) ∧ RMid ba fp fq (.iface pt pu) nm (.pointer o) ix' st' sv w x (fill y') w2) (fun _ => False)) := by
  intro w' hw
  have hM' := RMid.heapy _ _ hw hM
  have hbl : ba < w.heap.size := Blk.lt hP.app
  have hb1 : ba ∉ x1.blocks := hM.grow.not hP.abx hbl
  have hnd := hM.nodup
  rw [hH.self] at hnd
  have hin : ∀ k, k ∈ A ∨ k ∈ C → k ∈ x1.blocks := fun k hk => by rw [hH.self]; simp; rcases hk with h | h <;> simp [h]
  have hiy : ∀ k ∈ y.blocks, k ∈ x1.blocks := fun k hk => by rw [hH.self]; simp [hk]
  have hdis : ∀ k, k ∈ A ∨ k ∈ C → k ∉ y.blocks := fun k hk hy => by
    rw [List.nodup_append, List.nodup_append] at hnd
    rcases hk with h | h
    · exact hnd.1.2.2 k h k hy rfl
    · exact hnd.2.2 k (List.mem_append_right _ hy) k h rfl
  have hlt : ∀ k ∈ x1.blocks, k < w'.heap.size := fun k hk => AE.In.lt x1 hM'.inn k hk
  have hcb : ∀ k ∈ cb, k ∉ x1.blocks := fun k hk => hM.grow.not (hP.cbx k hk).1 (hP.cbx k hk).2.2
  have hpre : RPre cb Q w' ba fp fq L' y ix' st' (.iface pt pu) nm o x.val := {
    app := hM'.app
    old := by
      obtain ⟨t', u', e⟩ := x.val_one
      exact .inr ⟨pt, pu, t', u', rfl, e⟩
    inn := hH.inn w' hM'.inn
    ix := hix
    row := hH.row w' hM'.inn
    cell := hH.cell w' hM'.inn
    sel := hsel
    nodup := by rw [List.nodup_append, List.nodup_append] at hnd; exact hnd.1.2.1
    q := RMid.q hC hP hM'
    abx := fun h => hb1 (hiy _ h)
    loc := fun k hk => ⟨hdis k (.inl (hH.blks k hk)), fun e => hb1 (e ▸ hin k (.inl (hH.blks k hk))), fun hc => hcb k hc (hin k (.inl (hH.blks k hk))), hlt k (hin k (.inl (hH.blks k hk)))⟩
    cbx := fun k hk => ⟨fun h => hcb k hk (hiy k h), (hP.cbx k hk).2.1, Nat.lt_of_lt_of_le (hP.cbx k hk).2.2 hM'.kept.1⟩ }
  have hcall := ih y hsz w' L' ix' st' (.iface pt pu) nm o x.val hpre
  rw [hH.pv, hM.val] at hcall
  refine hcall.mono ?_
  rintro e w2 ⟨rfl, y', hn, hT, ha⟩
  refine .inl ⟨rfl, y', hn, hT.sel, ?_⟩
  have hAC : ∀ k, k ∈ A ∨ k ∈ C → k ≠ L'.blk → w2.heap[k]? = w'.heap[k]? := fun k hk hne => hT.kept.2 k (hlt k (hin k hk)) (by
    simp only [List.mem_cons, not_or]
    exact ⟨fun e => hb1 (e ▸ hin k hk), hne, hdis k hk⟩)
  have hbs := hH.blocks y' hT.sel
  have hgr : Grows w.heap.size x.blocks (fill y').blocks := fun k hk => by
    rw [hbs] at hk
    simp only [List.mem_append] at hk
    rcases hk with (hk | hk) | hk
    · exact hM.grow k (hin k (.inl hk))
    · rcases hT.grow k hk with h | h
      · exact hM.grow k (hiy k h)
      · exact .inr (Nat.le_trans hM'.kept.1 h)
    · exact hM.grow k (hin k (.inr hk))
  refine ⟨ha, hH.put w' w2 y' hM.nodup hM'.inn hT.inn hT.sel hAC hT.cell, (hH.val y').trans hM.val, hM'.kept.trans hT.kept (fun k hk => ?_), fun e he => ?_, hgr, ?_⟩
  · simp only [List.mem_cons] at hk ⊢
    rcases hk with hk | hk | hk
    · exact .inl (.inl hk)
    · rcases hM.grow k (hk ▸ hin _ (.inl (hH.blks _ L'.blk_mem))) with h | h
      · exact .inl (.inr h)
      · exact .inr h
    · rcases hM.grow k (hiy k hk) with h | h
      · exact .inl (.inr h)
      · exact .inr h
  · obtain ⟨h1, h2, h3⟩ := hM'.sav e he
    refine ⟨hT.kept.blk h1 ?_, fun hm => ?_, h3⟩
    · simp only [List.mem_cons, not_or]
      exact ⟨h3, fun e2 => h2 (e2 ▸ hin _ (.inl (hH.blks _ L'.blk_mem))), fun h => h2 (hiy _ h)⟩
    · rw [hbs] at hm
      simp only [List.mem_append] at hm
      rcases hm with (hm | hm) | hm
      · exact h2 (hin _ (.inl hm))
      · rcases hT.grow _ hm with h | h
        · exact h2 (hiy _ h)
        · have := h1.lt; omega
      · exact h2 (hin _ (.inr hm))
  · rw [hbs]
    exact nodup_swap hnd hT.nodup hT.grow (fun k hk => hlt k (hin k hk))
end
end Go.Proofs.YtgimbgpebpippaaGreatDoor
namespace Go.Proofs.YtgimbgpebpippaaGreatDoor
open Go.RowKit
set_option maxRecDepth 100000
theorem val_ident {x : AE} {b : Nat} {nm : ByteArray} (h : x.val = (AE.ident b nm).val) : ∃ nm', x = .ident b nm' := by
  cases x with
  | ident c n =>
    simp only [AE.val, Value.iface.injEq, Value.pointer.injEq, Option.some.injEq, Addr.mk.injEq] at h
    obtain ⟨_, rfl, _⟩ := h
    exact ⟨n, rfl⟩
  | _ => exact absurd h (by simp [AE.val])
theorem kind_name {x : AE} (h : ∀ b nm, x ≠ .ident b nm) : x.node.kind ≠ sName := fun e => by
  obtain ⟨b, nm, e⟩ := kind_ident e
  exact h b nm e
section
variable {rp : Bool → Node → Node} {fv : Value} {ba : Nat} {cb : List Nat} {Q : World → Prop} {fp fq : Value} {w : World} {L : Loc} {x : AE} {ix st : Int} {pv0 : Value} {nm0 : ByteArray} {o0 : Option Addr} {nv0 : Value}
/-- Behind the client's function. -/
def RFin (ba : Nat) (fp fq : Value) (L : Loc) (x : AE) (ix st : Int) (sv : Array Value) (w : World) (n : Node) (w2 : World) : Prop :=
  ∃ y : AE, y.node = n ∧ RTurn ba L x y w w2 ∧ ba ∉ y.blocks ∧ Blk w2 w.heap.size 119 sv ∧ ∃ a b c d, App w2 ba fp fq a b c d ix st
theorem RFin.heapy {sv : Array Value} {n : Node} : Heapy (RFin ba fp fq L x ix st sv w n) := fun w1 w2 e h => by
  obtain ⟨y, h1, h2, h3, h4, a, b, c, d, h5⟩ := h
  exact ⟨y, h1, ⟨AE.In.same y (fun b _ => by rw [e.1]) h2.inn, h2.kept.heapy e, fun T cs hb => (h2.cell T cs hb).same (by rw [e.1]), h2.grow, h2.nodup, h2.sel⟩, h3, h4.same (by rw [e.1]), a, b, c, d, Blk.same h5 (by rw [e.1])⟩
theorem RFin.fr {sv : Array Value} {n : Node} {w2 : World} (h : RFin ba fp fq L x ix st sv w n w2) : Fr ba w.heap.size fp fq sv w2 := by
  obtain ⟨y, h1, h2, h3, h4, a, b, c, d, h5⟩ := h
  exact ⟨⟨_, _, _, _, _, _, h5⟩, h4⟩
theorem RMid.fr {pv : Value} {nm : ByteArray} {it : Value} {sv : Array Value} {x1 : AE} {w1 : World} (h : RMid ba fp fq pv nm it ix st [(w.heap.size, 119, sv)] w x x1 w1) : Fr ba w.heap.size fp fq sv w1 :=
  ⟨⟨_, _, _, _, _, _, h.app⟩, (h.sav _ List.mem_cons_self).1⟩
/-- The start. -/
theorem RMid.start (hP : RPre cb Q w ba fp fq L x ix st pv0 nm0 o0 nv0) (sv : Array Value) : RMid ba fp fq L.pv L.nm (L.it ba) ix st [(w.heap.size, 119, sv)] w x x (W7 w ba L.pv L.nm (L.it ba) x.val sv) where
  app := W7_app hP.app _ _ _ _ _
  inn := hP.inn.kept (W7_kept w ba L.pv L.nm (L.it ba) x.val sv) (fun b hb hm => by rw [List.mem_singleton] at hm; exact hP.abx (hm ▸ hb))
  val := rfl
  kept := (W7_kept w ba L.pv L.nm (L.it ba) x.val sv).more (fun b hb => by rw [List.mem_singleton] at hb; subst hb; exact List.mem_cons_self)
  sav := fun e he => by
    rw [List.mem_singleton] at he
    subst he
    exact ⟨W7_saved w ba L.pv L.nm (L.it ba) x.val sv, fun h => Nat.lt_irrefl _ (AE.In.lt x hP.inn _ h), fun h => by have := Blk.lt hP.app; simp only at h; omega⟩
  grow := Grows.refl _ _
  nodup := hP.nodup
theorem RMid.loc (hP : RPre cb Q w ba fp fq L x ix st pv0 nm0 o0 nv0) {pv : Value} {nm : ByteArray} {it : Value} {ix' st' : Int} {sv : Saved} {x1 : AE} {w1 : World} (hM : RMid ba fp fq pv nm it ix' st' sv w x x1 w1) : ∀ k ∈ L.blks, w1.heap[k]? = w.heap[k]? :=
  fun k hk => hM.kept.2 k (hP.loc k hk).2.2.2 (by simp [(hP.loc k hk).1, (hP.loc k hk).2.1])
theorem RMid.at (hP : RPre cb Q w ba fp fq L x ix st pv0 nm0 o0 nv0) {sv : Saved} {x1 : AE} {w1 : World} (hM : RMid ba fp fq L.pv L.nm (L.it ba) ix st sv w x x1 w1) : AtLoc w1 ba fp fq L x1 ix st where
  app := by rw [hM.val]; exact hM.app
  inn := hM.inn
  ix := hP.ix
  row := hP.row.same (hM.loc hP)
  cell := by
    obtain ⟨T, cs, h1, h2⟩ := hP.cell
    exact ⟨T, cs, h1.same (hM.loc hP _ L.blk_mem), by rw [hM.val]; exact h2⟩
  sel := fun h => by
    obtain ⟨b, nm, e⟩ := hP.sel h
    have hv := hM.val
    rw [e] at hv
    obtain ⟨nm', e'⟩ := val_ident hv
    exact ⟨b, nm', e'⟩
  apart := hM.grow.not (hP.loc _ L.blk_mem).1 (hP.loc _ L.blk_mem).2.2.2
  nodup := hM.nodup
theorem RMid.fin_stay (hP : RPre cb Q w ba fp fq L x ix st pv0 nm0 o0 nv0) {sv : Array Value} {x1 : AE} {w1 : World} (hM : RMid ba fp fq L.pv L.nm (L.it ba) ix st [(w.heap.size, 119, sv)] w x x1 w1) : RFin ba fp fq L x ix st sv w x1.node w1 := by
  have hA := hM.at hP
  refine ⟨x1, rfl, ⟨hM.inn, hM.kept.more (fun b hb => by simp only [List.mem_cons] at hb ⊢; rcases hb with h | h <;> simp [h]), fun T cs hb => ?_, hM.grow, hM.nodup, hA.sel⟩, hM.grow.not hP.abx (Blk.lt hP.app), (hM.sav _ List.mem_cons_self).1, _, _, _, _, hM.app⟩
  have hs := hA.stay ⟨rfl, rfl, rfl, rfl⟩
  exact hs.cell T cs (hb.same (hM.loc hP _ L.blk_mem))
theorem RMid.fin (hP : RPre cb Q w ba fp fq L x ix st pv0 nm0 o0 nv0) {sv : Array Value} {x1 y : AE} {w1 w2 : World} (hM : RMid ba fp fq L.pv L.nm (L.it ba) ix st [(w.heap.size, 119, sv)] w x x1 w1) (hT : Turn L x1 y w1 w2) : RFin ba fp fq L x ix st sv w y.node w2 := by
  have hbl : ba < w.heap.size := Blk.lt hP.app
  have hbn : ba ≠ L.blk := fun e => (hP.loc _ L.blk_mem).2.1 e.symm
  have hsz : L.blk < w.heap.size := (hP.loc _ L.blk_mem).2.2.2
  refine ⟨y, rfl, ⟨hT.inn, (hM.kept.more (own' := ba :: L.blk :: x.blocks) (fun b hb => by simp only [List.mem_cons] at hb ⊢; rcases hb with h | h <;> simp [h])).trans hT.kept (fun b hb => .inl (by rw [List.mem_singleton] at hb; simp [hb])), fun T cs hb => hT.cell T cs (hb.same (hM.loc hP _ L.blk_mem)), hM.grow.trans hT.grow hM.kept.1, hT.nodup, hT.sel⟩, ?_, hT.kept.blk (hM.sav _ List.mem_cons_self).1 (by rw [List.mem_singleton]; omega), _, _, _, _, hT.kept.blk hM.app (by rw [List.mem_singleton]; exact hbn)⟩
  exact (hM.grow.trans hT.grow hM.kept.1).not hP.abx hbl
/-- A turn that turns nothing. -/
theorem Turn.none {w1 w2 : World} (hA : AtLoc w1 ba fp fq L x ix st) (hT : Turn L x x w1 w2) : Kept [] w1 w2 := by
  obtain ⟨T, cs, h1, h2⟩ := hA.cell
  refine ⟨hT.kept.1, fun k hk _ => ?_, hT.kept.os, hT.kept.tape, hT.kept.output⟩
  by_cases he : k = L.blk
  · subst he
    have h3 := hT.cell T cs h1
    rw [set_same h2] at h3
    exact Eq.trans h3 h1.symm
  · exact hT.kept.2 k hk (by rw [List.mem_singleton]; exact he)
theorem RMid.next {pv : Value} {nm : ByteArray} {it : Value} {sv : Saved} {x1 : AE} {w1 w2 : World} (hM : RMid ba fp fq pv nm it ix st sv w x x1 w1) (hk : Kept [] w1 w2) : RMid ba fp fq pv nm it ix st sv w x x1 w2 where
  app := hk.blk hM.app (by simp)
  inn := hM.inn.kept hk (by simp)
  val := hM.val
  kept := hM.kept.trans hk (fun b hb => by cases hb)
  sav := hM.sav.same (fun k hk1 _ _ => hk.2 k hk1 (by simp))
  grow := hM.grow
  nodup := hM.nodup
theorem RFin.out (hP : RPre cb Q w ba fp fq L x ix st pv0 nm0 o0 nv0) {sv : Array Value} {n : Node} {w1 : World} (h : RFin ba fp fq L x ix st sv w n w1) :
    ∃ y, y.node = n ∧ RTurn ba L x y w (R4 w1 ba pv0 nm0 (.pointer o0) nv0) ∧ App (R4 w1 ba pv0 nm0 (.pointer o0) nv0) ba fp fq pv0 nm0 (.pointer o0) nv0 ix st := by
  obtain ⟨y, h1, h2, h3, h4, a, b, c, d, h5⟩ := h
  have hm : ba ∈ [ba] := List.mem_cons_self
  have hk4 : Kept [ba] w1 (R4 w1 ba pv0 nm0 (.pointer o0) nv0) := ((((Kept.refl [ba] w1).set (p := ⟨ba, 2, none⟩) (.inl hm) pv0).set (p := ⟨ba, 3, none⟩) (.inl hm) (.string nm0)).set (p := ⟨ba, 4, none⟩) (.inl hm) (.pointer o0)).set (p := ⟨ba, 5, none⟩) (.inl hm) nv0
  have hbn : L.blk ≠ ba := (hP.loc _ L.blk_mem).2.1
  refine ⟨y, h1, ⟨h2.inn.kept hk4 (fun b hb hm => by rw [List.mem_singleton] at hm; exact h3 (hm ▸ hb)), h2.kept.trans hk4 (fun b hb => .inl (by rw [List.mem_singleton] at hb; simp [hb])), fun T cs hb => hk4.blk (h2.cell T cs hb) (by rw [List.mem_singleton]; exact hbn), h2.grow, h2.nodup, h2.sel⟩, ?_⟩
  exact (((Blk.set_ h5 2 pv0).set_ 3 (.string nm0)).set_ 4 (.pointer o0)).set_ 5 nv0
end
end Go.Proofs.YtgimbgpebpippaaGreatDoor
