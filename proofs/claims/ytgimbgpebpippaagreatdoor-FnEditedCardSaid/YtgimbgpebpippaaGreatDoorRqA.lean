/- Lists of nodes that a call makes, in memory: nil, or a row; its nodes are older than the call, or new. -/
import Derived.Test.YtgimbgpebpippaaGreatDoorWalkG
import Derived.Test.YtgimbgpebpippaaGreatDoorApLst
import Derived.BigRegion
import Derived.Deep.CutBlock
import Derived.Deep.RegionLaw
namespace Go.Proofs.YtgimbgpebpippaaGreatDoor
open Go.RowKit
set_option maxRecDepth 100000
/-! the blocks that a node reaches -/
def hdBlk (A : Option Addr) : List ANode → List Nat
  | [] => []
  | _ :: _ => addrBlk A
theorem hdBlk_sub {A : Option Addr} {ns : List ANode} {b : Nat} (h : b ∈ hdBlk A ns) : b ∈ addrBlk A := by
  cases ns with
  | nil => cases h
  | cons m ms => exact h
mutual
def ANode.rb : ANode → List Nat
  | .mk _ _ A _ ks => hdBlk A ks ++ rbL ks
def rbL : List ANode → List Nat
  | [] => []
  | n :: ns => n.rb ++ rbL ns
end
mutual
theorem ANode.rb_blks : ∀ (n : ANode) (b : Nat), b ∈ n.rb → b ∈ n.blks
  | .mk _ _ _ _ ks, b, h => by
    rw [ANode.rb, List.mem_append] at h
    rw [ANode.blks, List.mem_append]
    exact h.imp hdBlk_sub (rbL_blks ks b)
theorem rbL_blks : ∀ (ns : List ANode) (b : Nat), b ∈ rbL ns → b ∈ blksL ns
  | [], _, h => by cases h
  | n :: ns, b, h => by
    rw [rbL, List.mem_append] at h
    rw [blksL, List.mem_append]
    exact h.imp (ANode.rb_blks n b) (rbL_blks ns b)
end
mutual
theorem ANode.In.rb_lt {w : World} {L : Nat} : ∀ n : ANode, n.In w L → ∀ b ∈ n.rb, b < L
  | .mk k t A c ks, h, b, hb => by
    rw [ANode.rb, List.mem_append] at hb
    rcases hb with hb | hb
    · exact KidsIn.hd_lt ks h.2.2.2.2 b hb
    · exact KidsIn.rb_lt ks h.2.2.2.2 b hb
theorem KidsIn.hd_lt {w : World} {L : Nat} {A : Option Addr} {i : Nat} : ∀ ns : List ANode, KidsIn w L A i ns → ∀ b ∈ hdBlk A ns, b < L
  | [], _, _, hb => by cases hb
  | m :: ms, h, b, hb => by
    obtain ⟨b', off, rfl, hlt, _⟩ := h.1
    have e : b = b' := List.mem_singleton.1 hb
    rw [e]; exact hlt
theorem KidsIn.rb_lt {w : World} {L : Nat} {A : Option Addr} {i : Nat} : ∀ ns : List ANode, KidsIn w L A i ns → ∀ b ∈ rbL ns, b < L
  | [], _, _, hb => by cases hb
  | n :: ns, h, b, hb => by
    rw [rbL, List.mem_append] at hb
    rcases hb with hb | hb
    · exact ANode.In.rb_lt n h.2.1 b hb
    · exact KidsIn.rb_lt ns h.2.2 b hb
end
mutual
theorem ANode.In.samer {w w' : World} {L : Nat} : ∀ n : ANode, (∀ b ∈ n.rb, w'.heap[b]? = w.heap[b]?) → n.In w L → n.In w' L
  | .mk k t A cap ks, hb, h => ⟨h.1, h.2.1, h.2.2.1, h.2.2.2.1, KidsIn.samer ks (fun b hm => hb b (by rw [ANode.rb]; exact List.mem_append_left _ hm)) (fun b hm => hb b (by rw [ANode.rb]; exact List.mem_append_right _ hm)) h.2.2.2.2⟩
theorem KidsIn.samer {w w' : World} {L : Nat} {A : Option Addr} {i : Nat} : ∀ ns : List ANode, (∀ b ∈ hdBlk A ns, w'.heap[b]? = w.heap[b]?) → (∀ b ∈ rbL ns, w'.heap[b]? = w.heap[b]?) → KidsIn w L A i ns → KidsIn w' L A i ns
  | [], _, _, _ => trivial
  | n :: ns, hA, hb, h => by
    refine ⟨?_, ANode.In.samer n (fun b hm => hb b (by rw [rbL]; exact List.mem_append_left _ hm)) h.2.1, KidsIn.samer ns (fun b hm => hA b (hdBlk_sub hm)) (fun b hm => hb b (by rw [rbL]; exact List.mem_append_right _ hm)) h.2.2⟩
    obtain ⟨b, off, rfl, hbL, h0, h1, h2⟩ := h.1
    have e : w'.heap[b]? = w.heap[b]? := hA b (by simp [hdBlk, addrBlk])
    exact ⟨b, off, rfl, hbL, (World.cell?_of_block (w := w) e).trans h0, (World.cell?_of_block (w := w) e).trans h1, (World.cell?_of_block (w := w) e).trans h2⟩
end
theorem rbL_append (l m : List ANode) : rbL (l ++ m) = rbL l ++ rbL m := by
  induction l with
  | nil => rfl
  | cons a l ih => simp [rbL, ih]
theorem mem_rbL {k : ANode} {ns : List ANode} (hk : k ∈ ns) {b : Nat} (hb : b ∈ k.rb) : b ∈ rbL ns := by
  induction ns with
  | nil => cases hk
  | cons a l ih =>
    simp only [rbL, List.mem_append]
    rcases List.mem_cons.1 hk with rfl | hk
    · exact .inl hb
    · exact .inr (ih hk)
theorem of_mem_rbL {ns : List ANode} {b : Nat} (hb : b ∈ rbL ns) : ∃ k ∈ ns, b ∈ k.rb := by
  induction ns with
  | nil => cases hb
  | cons a l ih =>
    rw [rbL, List.mem_append] at hb
    rcases hb with hb | hb
    · exact ⟨a, List.mem_cons_self, hb⟩
    · obtain ⟨k, hk, h⟩ := ih hb
      exact ⟨k, List.mem_cons_of_mem _ hk, h⟩
/-- The call made a node, perhaps of nodes that were there (below B0). -/
def MadeO (B0 : Nat) (m : Node) (w : World) (e : Ending) (w' : World) : Prop := ∃ n : ANode, e = .returned n.val ∧ n.In w' w'.heap.size ∧ n.erase = m ∧ (∀ b ∈ n.rb, b < B0 ∨ w.heap.size ≤ b) ∧ Below w.heap.size w w'
/-- Nodes in a list of the call's own, from block lo on. -/
structure NsO (B0 lo : Nat) (ms : List Node) (wr : World) (v : Value) (ns : List ANode) : Prop where
  lst : LstS wr lo 24 3 ms.length v (cellsN ns)
  inn : ∀ n ∈ ns, n.In wr wr.heap.size
  node : eraseL ns = ms
  rb : ∀ b ∈ rbL ns, b < B0 ∨ lo ≤ b
  out : ∀ g, v.ownBlock = some g → g ∉ rbL ns
def NLst (B0 lo : Nat) (ms : List Node) (wr : World) (v : Value) : Prop := ∃ ns, NsO B0 lo ms wr v ns
theorem NLst.nil (B0 lo : Nat) (wr : World) : NLst B0 lo [] wr (.slice none 0 0) :=
  ⟨[], .inl ⟨rfl, rfl, rfl⟩, fun n hn => (by cases hn), rfl, fun b hb => (by cases hb), fun g hg => (by cases hg)⟩
section
variable {B0 lo : Nat} {ms : List Node} {wr wr' : World} {v : Value} {ns : List ANode}
theorem NsO.len (h : NsO B0 lo ms wr v ns) : ns.length = ms.length := by rw [← h.node, eraseL_length]
theorem NsO.same (h : NsO B0 lo ms wr v ns) (hsz : wr.heap.size ≤ wr'.heap.size) (hb : ∀ b, b < wr.heap.size → (b < B0 ∨ lo ≤ b) → wr'.heap[b]? = wr.heap[b]?) : NsO B0 lo ms wr' v ns where
  lst := h.lst.same (fun g hg => hb g (h.lst.lt g hg).1 (.inr (h.lst.lt g hg).2))
  inn := fun n hn => ANode.In.samer n (fun b hm => hb b (ANode.In.rb_lt n (h.inn n hn) b hm) (h.rb b (mem_rbL hn hm))) (ANode.In.more hsz n (h.inn n hn))
  node := h.node
  rb := h.rb
  out := h.out
theorem NLst.same (h : NLst B0 lo ms wr v) (hsz : wr.heap.size ≤ wr'.heap.size) (hb : ∀ b, b < wr.heap.size → (b < B0 ∨ lo ≤ b) → wr'.heap[b]? = wr.heap[b]?) : NLst B0 lo ms wr' v := by
  obtain ⟨ns, h⟩ := h
  exact ⟨ns, h.same hsz hb⟩
theorem NsO.more (h : NsO B0 lo ms wr v ns) (hb : Below wr.heap.size wr wr') : NsO B0 lo ms wr' v ns := h.same hb.size (fun b hlt _ => hb.block b hlt)
theorem NLst.more (h : NLst B0 lo ms wr v) (hb : Below wr.heap.size wr wr') : NLst B0 lo ms wr' v := h.same hb.size (fun b hlt _ => hb.block b hlt)
theorem NLst.set (h : NLst B0 lo ms wr v) {p : Addr} (hp : B0 ≤ p.block) (hl : p.block < lo) (u : Value) : NLst B0 lo ms (wr.setCell p u) v :=
  h.same (by simp) (fun b _ hb => Below.heap_setCell wr p u b (by omega))
/-- One node more. -/
theorem NsO.step {w2 w2' w3 : World} {g' cap' : Nat} {n : ANode} {m : Node} (h : NsO B0 lo ms wr v ns) (h0 : B0 ≤ lo) (hlo : lo ≤ wr.heap.size) (hin : n.In w2 w2.heap.size) (hn : n.erase = m)
    (hnew : ∀ b ∈ n.rb, b < B0 ∨ wr.heap.size ≤ b) (h2 : Below wr.heap.size wr w2) (h2' : Below w2.heap.size w2 w2') (hg : w2'.grownBy w3 v.ownBlock) (hg' : v.ownBlock = some g' ∨ g' = w2'.heap.size)
    (hrow : Row w3 g' 24 3 (ms.length + 1) (cellsN ns ++ cellsN [n]) cap') : NsO B0 lo (ms ++ [m]) w3 (.slice (some ⟨g', 0, none⟩) (ms.length + 1) cap') (ns ++ [n]) := by
  have s2 := h2.size
  have s2' := h2'.size
  have s3 := hg.size
  have hown : ∀ b, v.ownBlock = some b → b < wr.heap.size ∧ lo ≤ b := h.lst.lt
  have hnlt : ∀ b ∈ n.rb, b < w2.heap.size := ANode.In.rb_lt n hin
  have hold : ∀ b ∈ rbL ns, b < wr.heap.size := fun b hb => by
    obtain ⟨k, hk, hb⟩ := of_mem_rbL hb
    exact ANode.In.rb_lt k (h.inn k hk) b hb
  refine ⟨.inr ⟨g', cap', by rw [List.length_append]; rfl, ?_, ?_⟩, fun k hk => ?_, ?_, fun b hb => ?_, fun g e hm => ?_⟩
  · rw [cellsN_append, List.length_append]; exact hrow
  · rcases hg' with e | e
    · exact (hown _ e).2
    · omega
  · rcases List.mem_append.1 hk with hk | hk
    · refine ANode.In.samer k (fun b hm => ?_) (ANode.In.more (by omega) k (h.inn k hk))
      have hlt := ANode.In.rb_lt k (h.inn k hk) b hm
      rw [hg.block b (by omega) (fun e => h.out b e.symm (mem_rbL hk hm)), h2'.block b (by omega), h2.block b hlt]
    · cases List.mem_singleton.1 hk
      refine ANode.In.samer n (fun b hm => ?_) (ANode.In.more (by omega) n hin)
      have hlt := hnlt b hm
      rw [hg.block b (by omega) (fun e => ?_), h2'.block b hlt]
      have h1 := hown b e.symm
      rcases hnew b hm with h | h <;> omega
  · rw [eraseL_append, h.node, eraseL, hn, eraseL]
  · rw [rbL_append, List.mem_append] at hb
    rcases hb with hb | hb
    · exact h.rb b hb
    · rw [rbL, rbL, List.append_nil] at hb
      exact (hnew b hb).imp id (fun h => by omega)
  · simp only [Value.ownBlock, Option.some.injEq] at e
    subst e
    rw [rbL_append, rbL, rbL, List.append_nil, List.mem_append] at hm
    rcases hg' with e | e
    · rcases hm with hm | hm
      · exact h.out _ e hm
      · have h1 := hown _ e
        rcases hnew _ hm with h | h <;> omega
    · rcases hm with hm | hm
      · have := hold _ hm; omega
      · have := hnlt _ hm; omega
/-- The whole list in a node of the call's own. -/
theorem NsO.made {kd tx : ByteArray} (h : NsO B0 lo ms wr v ns) (hk : kd.size ≤ maxLen) (ht : tx.size ≤ maxLen) : ∃ n : ANode, n.val = .agg #[.string kd, .string tx, v] ∧ n.In wr wr.heap.size ∧ n.erase = .mk kd tx ms ∧ ∀ b ∈ n.rb, b < B0 ∨ lo ≤ b := by
  have hl := h.len
  have hrb := h.rb
  have hnode := h.node
  rcases h.lst with ⟨rfl, hc, h0⟩ | ⟨g, cap, rfl, hr, hg⟩
  · obtain rfl : ns = [] := List.eq_nil_of_length_eq_zero (by omega)
    exact ⟨.mk kd tx none 0 [], rfl, ⟨hk, ht, Nat.le_refl _, Nat.zero_le _, trivial⟩, by rw [ANode.erase, hnode], fun b hb => (by cases hb)⟩
  · rw [← hl] at hr ⊢
    refine ⟨.mk kd tx (some ⟨g, 0, none⟩) cap ns, rfl, ⟨hk, ht, hr.2.1, hr.2.2.1, Row.kids (ms := []) hr hr.lt h.inn⟩, by rw [ANode.erase, hnode], fun b hb => ?_⟩
    rw [ANode.rb, List.mem_append] at hb
    rcases hb with hb | hb
    · have e : b = g := List.mem_singleton.1 (hdBlk_sub hb)
      exact .inr (by omega)
    · exact hrb b hb
end
end Go.Proofs.YtgimbgpebpippaaGreatDoor
namespace Go.Proofs.YtgimbgpebpippaaGreatDoor
open Go.RowKit
set_option maxRecDepth 100000
set_option maxHeartbeats 4000000
/-- A function that makes of each node what S says; Q is what it reads. -/
structure RbFn (B0 : Nat) (S : Node → Node) (Q : World → Prop) (F : FuncId) (cps : Array Value) (kids : List ANode) : Prop where
  run : ∀ args w, (callFunc F args).run Tryz.prog w = .ok (.enter F args) w
  keep : ∀ w w', Below w.heap.size w w' → Q w → Q w'
  go : ∀ c ∈ kids, ∀ w : World, c.In w B0 → B0 ≤ w.heap.size → Q w → Calls Tryz.prog F (#[c.val] ++ cps) w (MadeO B0 (S c.erase) w)
theorem belowSm2 {B : Nat} {w w1 w2 : World} (h : Below B w w1) (e : Sm w1 w2) : Below B w w2 := ⟨e.2.1.trans h.os, e.2.2.1.trans h.tape, e.2.2.2.trans h.output, by rw [e.1]; exact h.size, fun k hk => by rw [e.1]; exact h.block k hk⟩
theorem NLst.slice {B0 lo : Nat} {ms : List Node} {wr : World} {v : Value} (h : NLst B0 lo ms wr v) : ∃ A n c, v = .slice A n c := by
  obtain ⟨ns, h⟩ := h
  rcases h.lst with ⟨rfl, _⟩ | ⟨g, cap, rfl, _⟩ <;> exact ⟨_, _, _, rfl⟩
theorem MadeO.stored {B0 : Nat} {w w2 : World} {m : ANode} {M : Node} {r : Nat} (hr : w.heap.size ≤ r) (hB : B0 ≤ w.heap.size) (h1 : m.In w2 w2.heap.size) (h2 : m.erase = M) (h3 : ∀ b ∈ m.rb, b < B0 ∨ r < b) (h4 : Below w.heap.size w w2) (x y z : Value) :
    MadeO B0 M w (.returned m.val) (((w2.setCell ⟨r, 0, none⟩ x).setCell ⟨r, 1, none⟩ y).setCell ⟨r, 2, none⟩ z) := by
  refine ⟨m, rfl, ?_, h2, fun b hb => (h3 b hb).imp id (fun h => by omega), ((h4.setCell (p := ⟨r, 0, none⟩) hr x).setCell (p := ⟨r, 1, none⟩) hr y).setCell (p := ⟨r, 2, none⟩) hr z⟩
  simp only [World.size_setCell]
  exact ANode.In.samer m (fun b hb => store3 _ _ _ _ _ b (by have := h3 b hb; omega)) h1
theorem rebuilt_any {S : Node → Node} {Q : World → Prop} {F : FuncId} {cps : Array Value} (n : ANode) (w : World) (B0 : Nat) (hin : n.In w B0) (hB : B0 ≤ w.heap.size) (hlen : n.kids.length ≤ 1000) (hq : Q w) (hf : RbFn B0 S Q F cps n.kids) :
    Calls Tryz.prog 42 #[n.val, .func (.func F) #[] cps] w (MadeO B0 (.mk n.kind n.text ((eraseL n.kids).map S)) w) := by
  obtain ⟨i0, hi0, hz0, hz1, hz2⟩ := info_parts Tryz.infoNode
  obtain ⟨kd, tx, A, cp, ks⟩ := n
  have HIN := Lib.hid (And.intro hin (And.intro hq hf))
  have HI := Lib.hid (And.intro hi0 (And.intro hz0 (And.intro hz1 hz2)))
  have hrun := hf.run
  clear hi0 hz0 hz1 hz2 hin hq hf
  unfold ANode.val
  simp only [ANode.kind, ANode.text, ANode.kids, ANode.addr, ANode.cap] at hlen ⊢
  go_enter Tryz.func42, Tryz.ntmps42
  go_wp2_with fail
  go_loopw [16] (fun i wr => ∃ (j : Nat) (v : Value), j ≤ ks.length ∧ i = .int .i64 j ∧ Hid (NLst B0 (w.heap.size + 1 + 1 + 1) (((eraseL ks).take j).map S) wr v ∧ Blk wr (w.heap.size + 1 + 1) 24 #[.string kd, .string tx, v] ∧ Blk wr (w.heap.size + 1) 24 #[.string ⟨#[]⟩, .string ⟨#[]⟩, .slice none 0 0] ∧ Q wr ∧ Below w.heap.size w wr ∧ w.heap.size + 3 ≤ wr.heap.size)) (fun i _ => ks.length - (intOf i).toNat)
  case atStart =>
    refine ⟨0, .slice none 0 0, Nat.zero_le _, rfl, Lib.hid ⟨NLst.nil _ _ _, ?_, ?_, HIN.out.2.2.keep _ _ (by go_grown) HIN.out.2.1, by go_grown, by simp only [World.size_alloc]; omega⟩⟩
    · have h := Blk.new ((w.alloc (.cells #[.string kd, .string tx, .slice A ks.length cp] 24)).alloc (.cells #[.string ⟨#[]⟩, .string ⟨#[]⟩, .slice none 0 0] 24)) 24 #[.string kd, .string tx, .slice none 0 0]
      simpa only [World.size_alloc] using h
    · have h := (Blk.new (w.alloc (.cells #[.string kd, .string tx, .slice A ks.length cp] 24)) 24 #[.string ⟨#[]⟩, .string ⟨#[]⟩, .slice none 0 0]).alloc (.cells #[.string kd, .string tx, .slice none 0 0] 24)
      simpa only [World.size_alloc] using h
  case round =>
    obtain ⟨j, v, hj, rfl, hso⟩ := hrel
    by_cases hjl : j < ks.length
    · obtain ⟨c, hc⟩ : ∃ c, ks[j]? = some c := ⟨ks[j], List.getElem?_eq_getElem hjl⟩
      obtain ⟨⟨b, off, hA, hbL, k0, k1, k2⟩, hcin⟩ := HIN.out.1.kid (i := j) (kid := c) hc
      have hA2 : A = some ⟨b, off, none⟩ := hA
      clear hA
      subst hA2
      have hbw := hso.out.2.2.2.2.1
      have k0' := (hbw.cell (p := ⟨b, off + j * 3, none⟩) (by show b < _; omega)).trans k0
      have k1' := (hbw.cell (p := ⟨b, off + j * 3 + 1, none⟩) (by show b < _; omega)).trans k1
      have k2' := (hbw.cell (p := ⟨b, off + j * 3 + 2, none⟩) (by show b < _; omega)).trans k2
      have c2 : wr.cell? ⟨w.heap.size + 1 + 1, 2, none⟩ = some v := hso.out.2.1.cell 2
      have zz := hso.out.2.2.2.2.2
      have zq : w.heap.size + 1 + 1 < wr.heap.size := by omega
      have q1 : (0 : Int) ≤ (j : Int) := by omega
      have q2 : (j : Int) < (ks.length : Int) := by omega
      have hmem := List.mem_of_getElem? hc
      have hms : (((eraseL ks).take j).map S).length = j := by rw [List.length_map, List.length_take, eraseL_length]; omega
      have hnext : ((eraseL ks).take (j + 1)).map S = ((eraseL ks).take j).map S ++ [S c.erase] := by rw [take_erase hc, List.map_append]; rfl
      obtain ⟨ns, hns⟩ := hso.out.1
      have HF : Hid (∀ w2, Below wr.heap.size wr w2 → Calls Tryz.prog F (#[.agg #[.string c.kind, .string c.text, .slice c.addr c.kids.length c.cap]] ++ cps) w2 (fun e w3 => ∃ m : ANode, e = .returned m.val ∧ m.In w3 w3.heap.size ∧ m.erase = S c.erase ∧ (∀ b ∈ m.rb, b < B0 ∨ wr.heap.size ≤ b) ∧ Below wr.heap.size wr w3)) := fun w2 h2 => by
        refine (HIN.out.2.2.go c hmem w2 (hcin.below (hbw.trans (h2.mono hbw.size)) hB) (Nat.le_trans hB (Nat.le_trans hbw.size h2.size)) (HIN.out.2.2.keep w w2 (hbw.trans (h2.mono hbw.size)) HIN.out.2.1)).mono ?_
        rintro e w3 ⟨m, rfl, h3, h4, h5, h6⟩
        exact ⟨m, rfl, h3, h4, fun b hb => (h5 b hb).imp id (fun h => Nat.le_trans h2.size h), h2.trans (h6.mono h2.size)⟩
      have HLs : Hid (∀ w', Below wr.heap.size wr w' → LstS w' (w.heap.size + 1 + 1 + 1) 24 3 j v (cellsN ns)) := fun w' h => by
        have := (hns.more h).lst
        rwa [hms] at this
      have HBK : Hid (∀ w1 w3 o, Below wr.heap.size wr w1 → (w1.alloc o).grownBy w3 v.ownBlock → Blk w3 (w.heap.size + 1 + 1) 24 #[.string kd, .string tx, v] ∧ Blk w3 (w.heap.size + 1) 24 #[.string ⟨#[]⟩, .string ⟨#[]⟩, .slice none 0 0]) := fun w1 w3 o h hg => by
        have hl := hns.lst.lt
        have h1 := hso.out.2.1.below h (by omega)
        have h2 := hso.out.2.2.1.below h (by omega)
        have s1 := h.size
        exact ⟨(h1.alloc o).same (hg.block _ (by rw [World.size_alloc]; omega) (fun e => by have := (hl _ e.symm).2; omega)), (h2.alloc o).same (hg.block _ (by rw [World.size_alloc]; omega) (fun e => by have := (hl _ e.symm).2; omega))⟩
      have HFin : Hid (∀ (w1 w3 : World) (o : Obj) (g' cap' : Nat) (m : ANode), m.In w1 w1.heap.size → m.erase = S c.erase → (∀ b ∈ m.rb, b < B0 ∨ wr.heap.size ≤ b) → Below wr.heap.size wr w1 → (w1.alloc o).grownBy w3 v.ownBlock → (v.ownBlock = some g' ∨ g' = (w1.alloc o).heap.size) → Row w3 g' 24 3 (j + 1) (cellsN ns ++ cellsN [m]) cap' →
          ∀ w', Sm (w3.setCell ⟨w.heap.size + 1 + 1, 2, none⟩ (.slice (some ⟨g', 0, none⟩) (j + 1) cap')) w' → NLst B0 (w.heap.size + 1 + 1 + 1) (((eraseL ks).take (j + 1)).map S) w' (.slice (some ⟨g', 0, none⟩) (j + 1) cap') ∧ Blk w' (w.heap.size + 1 + 1) 24 #[.string kd, .string tx, .slice (some ⟨g', 0, none⟩) (j + 1) cap'] ∧
            Blk w' (w.heap.size + 1) 24 #[.string ⟨#[]⟩, .string ⟨#[]⟩, .slice none 0 0] ∧ Q w' ∧ Below w.heap.size w w' ∧ w.heap.size + 3 ≤ w'.heap.size) := fun w1 w3 o g' cap' m h1 h2 h3 h4 hg hg' hrow w' hw => by
        have hbk := HBK.out w1 w3 o h4 hg
        have s1 := h4.size
        have sg := hg.size
        rw [World.size_alloc] at sg
        have hst := hns.step (n := m) (m := S c.erase) (by omega) (by omega) h1 h2 h3 h4 ((Below.refl _ _).alloc (Nat.le_refl _) o) hg hg' (by rw [hms]; exact hrow)
        rw [hms, ← hnext] at hst
        have hb3 : Below w.heap.size w w3 := by
          have := (hbw.trans ((h4.trans ((Below.refl _ _).alloc s1 o)).mono hbw.size)).grown hg (by rw [World.size_alloc]; have := hbw.size; omega) (fun k hk => by have := (hns.lst.lt k hk).2; omega)
          exact this
        have hb4 : Below w.heap.size w w' := belowSm2 (hb3.setCell (p := ⟨w.heap.size + 1 + 1, 2, none⟩) (by show w.heap.size ≤ w.heap.size + 1 + 1; omega) _) hw
        have h5 : NLst B0 (w.heap.size + 1 + 1 + 1) (((eraseL ks).take (j + 1)).map S) w3 (.slice (some ⟨g', 0, none⟩) (j + 1) cap') := ⟨_, hst⟩
        have hsz : w'.heap.size = w3.heap.size := by rw [hw.1, World.size_setCell]
        exact ⟨(h5.set (p := ⟨w.heap.size + 1 + 1, 2, none⟩) (by show B0 ≤ w.heap.size + 1 + 1; omega) (by show w.heap.size + 1 + 1 < _; omega) (.slice (some ⟨g', 0, none⟩) (j + 1) cap')).same (by rw [hw.1]; exact Nat.le_refl _) (fun b _ _ => by rw [hw.1]), (hbk.1.set_ 2 _).same (by rw [hw.1]), (hbk.2.far (p := ⟨w.heap.size + 1 + 1, 2, none⟩) (by show w.heap.size + 1 ≠ w.heap.size + 1 + 1; omega) _).same (by rw [hw.1]), HIN.out.2.2.keep w w' hb4 HIN.out.2.1, hb4, by omega⟩
      have hjb : j ≤ 1000 := by omega
      have i0' := HI.out.1
      have f2 := hso.out.2.1.frozen 2
      clear hso hbw k0 k1 k2 hcin hc hns hms hnext hmem
      go_wp2_with fail
      go_region_law
        (first
          | (go_simp; refine (HF.out _ (by go_grown)).mono ?_; rintro e w1 ⟨m, rfl, h1, h2, h3, h4⟩; unfold ANode.val; have d2 := (h4.cell (p := ⟨w.heap.size + 1 + 1, 2, none⟩) (by show w.heap.size + 1 + 1 < _; omega)).trans c2; have zd := h4.size; have zdq := Nat.lt_of_lt_of_le zq h4.size; have HM := Lib.hid (And.intro h1 (And.intro h2 (And.intro h3 h4))); clear h1 h2 h3 h4)
          | (refine step_append_lsts _ (by rfl) _ _ _ (by rfl) 24 i0 _ 3 56 Tryz.underlying22 HI.out.1 HI.out.2.1 HI.out.2.2.1 HI.out.2.2.2 rfl (by decide) (w.heap.size + 1 + 1 + 1) j v (cellsN ns) rfl (HLs.out _ (HM.out.2.2.2.alloc zd _)) ⟨w1.heap.size, 0, none⟩ 1 1 [.string m.kind, .string m.text, .slice m.addr m.kids.length m.cap] rfl rfl (by decide) (cells_new rfl _ rfl) (fun u hu => cellsN_one (l := [m]) hu) (by unfold maxLen; omega) (by omega) ?_; intro g' cap' w3 hrow hg hg'; have hbk := (HBK.out _ w3 _ HM.out.2.2.2 hg).1; have m0 : w3.cell? ⟨w.heap.size + 1 + 1, 2, none⟩ = some v := hbk.cell 2; have m1 := hbk.frozen 2; have zm := hbk.lt; have HE := Lib.hid (HFin.out w1 w3 _ g' cap' m HM.out.1 HM.out.2.1 HM.out.2.2.1 HM.out.2.2.2 hg hg' hrow); clear hbk hrow hg hg'))
      all_goals
        go_wp2_with fail
        go_roundw
        case rel => exact ⟨j + 1, _, by omega, by go_num, Lib.hid (HE.out _ (by exact ⟨rfl, rfl, rfl, rfl⟩))⟩
        case measure => simp [intOf]; omega
    · obtain rfl : j = ks.length := by omega
      obtain ⟨A', n', c', rfl⟩ := NLst.slice hso.out.1
      have HL := Lib.hid hso.out
      have c0 : wr.cell? ⟨w.heap.size + 1 + 1, 0, none⟩ = some (.string kd) := hso.out.2.1.cell 0
      have c1 : wr.cell? ⟨w.heap.size + 1 + 1, 1, none⟩ = some (.string tx) := hso.out.2.1.cell 1
      have c2 : wr.cell? ⟨w.heap.size + 1 + 1, 2, none⟩ = some (.slice A' n' c') := hso.out.2.1.cell 2
      have r0 : wr.cell? ⟨w.heap.size + 1, 0, none⟩ = some (.string ⟨#[]⟩) := hso.out.2.2.1.cell 0
      have r1 : wr.cell? ⟨w.heap.size + 1, 1, none⟩ = some (.string ⟨#[]⟩) := hso.out.2.2.1.cell 1
      have r2 : wr.cell? ⟨w.heap.size + 1, 2, none⟩ = some (.slice none 0 0) := hso.out.2.2.1.cell 2
      have f0 := hso.out.2.2.1.frozen 0
      have f1 := hso.out.2.2.1.frozen 1
      have f2 := hso.out.2.2.1.frozen 2
      clear hso
      go_wp2_with fail
      have hms : (((eraseL ks).take ks.length).map S) = (eraseL ks).map S := by rw [← eraseL_length ks, List.take_length]
      obtain ⟨ns, hns⟩ := HL.out.1
      obtain ⟨m, hm1, hm2, hm3, hm4⟩ := hns.made HIN.out.1.1 HIN.out.1.2.1
      rw [hms] at hm3
      refine bodyPost_ret (results_struct rfl rfl (load_node (((HL.out.2.2.1.set_ 0 (.string kd)).set_ 1 (.string tx)).set_ 2 (.slice A' n' c')) rfl rfl rfl)) rfl ?_
      have h := MadeO.stored (r := w.heap.size + 1) (Nat.le_add_right _ _) hB hm2 hm3 (fun b hb => (hm4 b hb).imp id (fun h => by omega)) HL.out.2.2.2.2.1 (.string kd) (.string tx) (.slice A' n' c')
      rw [hm1] at h
      exact h
end Go.Proofs.YtgimbgpebpippaaGreatDoor
