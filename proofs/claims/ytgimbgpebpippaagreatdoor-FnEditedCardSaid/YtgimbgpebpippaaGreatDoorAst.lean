/- Trees of Go's expressions as they lie in memory. -/
import Derived.Test.YtgimbgpebpippaaGreatDoorPure
import Derived.Test.YtgimbgpebpippaaGreatDoorMem
namespace Go.Proofs.YtgimbgpebpippaaGreatDoor
open Go.RowKit

/-! the words of the tokens -/
def toksL : List (List UInt8) := [[73, 76, 76, 69, 71, 65, 76], [69, 79, 70], [67, 79, 77, 77, 69, 78, 84], [], [73, 68, 69, 78, 84], [73, 78, 84], [70, 76, 79, 65, 84], [73, 77, 65, 71], [67, 72, 65, 82], [83, 84, 82, 73, 78, 71], [], [], [43], [45], [42], [47], [37], [38], [124], [94], [60, 60], [62, 62], [38, 94], [43, 61], [45, 61], [42, 61], [47, 61], [37, 61], [38, 61], [124, 61], [94, 61], [60, 60, 61], [62, 62, 61], [38, 94, 61], [38, 38], [124, 124], [60, 45], [43, 43], [45, 45], [61, 61], [60], [62], [61], [33], [33, 61], [60, 61], [62, 61], [58, 61], [46, 46, 46], [40], [91], [123], [44], [46], [41], [93], [125], [59], [58], [], [], [98, 114, 101, 97, 107], [99, 97, 115, 101], [99, 104, 97, 110], [99, 111, 110, 115, 116], [99, 111, 110, 116, 105, 110, 117, 101], [100, 101, 102, 97, 117, 108, 116], [100, 101, 102, 101, 114], [101, 108, 115, 101], [102, 97, 108, 108, 116, 104, 114, 111, 117, 103, 104], [102, 111, 114], [102, 117, 110, 99], [103, 111], [103, 111, 116, 111], [105, 102], [105, 109, 112, 111, 114, 116], [105, 110, 116, 101, 114, 102, 97, 99, 101], [109, 97, 112], [112, 97, 99, 107, 97, 103, 101], [114, 97, 110, 103, 101], [114, 101, 116, 117, 114, 110], [115, 101, 108, 101, 99, 116], [115, 116, 114, 117, 99, 116], [115, 119, 105, 116, 99, 104], [116, 121, 112, 101], [118, 97, 114], [], [], [126]]
def tok (i : Nat) : ByteArray := ⟨(toksL.getD i []).toArray⟩
def TokTab (w : World) : Prop := ∀ i, i < 89 → w.cell? ⟨0, i, none⟩ = some (.string (tok i))
/-- A token with a word. -/
def OpOk (op : Nat) : Prop := op < 89 ∧ (toksL.getD op []).isEmpty = false
theorem TokTab.below {w w' : World} {B : Nat} (h : TokTab w) (hb : Below B w w') (hB : 0 < B) : TokTab w' :=
  fun i hi => (hb.cell (p := ⟨_, i, none⟩) hB).trans (h i hi)
theorem opOk_range : ∀ i, i < 59 → 12 ≤ i → OpOk i := by
  have h : ∀ i, i < 59 → 12 ≤ i → (toksL.getD i []).isEmpty = false := by decide
  exact fun i h1 h2 => ⟨by omega, h i h1 h2⟩
theorem op_of_un {t : ByteArray} (h : t ∈ unOps) : ∃ op, 12 ≤ op ∧ op < 59 ∧ tok op = t := by
  simp only [unOps, List.mem_cons, List.not_mem_nil, or_false] at h
  rcases h with rfl | rfl | rfl | rfl | rfl | rfl
  · exact ⟨14, by omega, by omega, rfl⟩
  · exact ⟨13, by omega, by omega, rfl⟩
  · exact ⟨12, by omega, by omega, rfl⟩
  · exact ⟨43, by omega, by omega, rfl⟩
  · exact ⟨19, by omega, by omega, rfl⟩
  · exact ⟨17, by omega, by omega, rfl⟩
theorem op_of_bin {t : ByteArray} (h : t ∈ binOps) : ∃ op, 12 ≤ op ∧ op < 59 ∧ tok op = t := by
  simp only [binOps, List.mem_cons, List.not_mem_nil, or_false] at h
  rcases h with rfl | rfl | rfl | rfl | rfl | rfl | rfl | rfl | rfl | rfl
  · exact ⟨12, by omega, by omega, rfl⟩
  · exact ⟨13, by omega, by omega, rfl⟩
  · exact ⟨14, by omega, by omega, rfl⟩
  · exact ⟨15, by omega, by omega, rfl⟩
  · exact ⟨16, by omega, by omega, rfl⟩
  · exact ⟨17, by omega, by omega, rfl⟩
  · exact ⟨18, by omega, by omega, rfl⟩
  · exact ⟨19, by omega, by omega, rfl⟩
  · exact ⟨40, by omega, by omega, rfl⟩
  · exact ⟨41, by omega, by omega, rfl⟩

/-- An expression as it lies in memory: each node with its block. -/
inductive AE where
  | ident (b : Nat) (nm : ByteArray)
  | lit (b : Nat) (tx : ByteArray)
  | paren (b : Nat) (x : AE)
  | sel (b : Nat) (x : AE) (sb : Nat) (nm : ByteArray)
  | star (b : Nat) (x : AE)
  | unary (b op : Nat) (x : AE)
  | binary (b op : Nat) (x y : AE)
  | index (b : Nat) (x y : AE)
  | call (b : Nat) (f : AE) (g cap : Nat) (args : List AE)

namespace AE
def val : AE → Value
  | ident b _ => .iface 79 (.pointer (some ⟨b, 0, none⟩))
  | lit b _ => .iface 125 (.pointer (some ⟨b, 0, none⟩))
  | paren b _ => .iface 71 (.pointer (some ⟨b, 0, none⟩))
  | sel b _ _ _ => .iface 129 (.pointer (some ⟨b, 0, none⟩))
  | star b _ => .iface 132 (.pointer (some ⟨b, 0, none⟩))
  | unary b _ _ => .iface 135 (.pointer (some ⟨b, 0, none⟩))
  | binary b _ _ _ => .iface 139 (.pointer (some ⟨b, 0, none⟩))
  | index b _ _ => .iface 142 (.pointer (some ⟨b, 0, none⟩))
  | call b _ _ _ _ => .iface 87 (.pointer (some ⟨b, 0, none⟩))
end AE
theorem AE.val_one (x : AE) : ∃ t v, x.val = .iface t v := by cases x <;> exact ⟨_, _, rfl⟩

/-- The block of a name. -/
def IdentAt (w : World) (b : Nat) (nm : ByteArray) : Prop := nm.size ≤ maxLen ∧ Blk w b 83 #[.int .i64 0, .string nm, .pointer none]

mutual
def AE.In (w : World) : AE → Prop
  | .ident b nm => IdentAt w b nm
  | .lit b tx => tx.size ≤ maxLen ∧ Blk w b 128 #[.int .i64 0, .int .i64 0, .int .i64 5, .string tx]
  | .paren b x => Blk w b 77 #[.int .i64 0, x.val, .int .i64 0] ∧ x.In w
  | .sel b x sb nm => Blk w b 131 #[x.val, .pointer (some ⟨sb, 0, none⟩)] ∧ IdentAt w sb nm ∧ x.In w
  | .star b x => Blk w b 134 #[.int .i64 0, x.val] ∧ x.In w
  | .unary b op x => OpOk op ∧ Blk w b 138 #[.int .i64 0, .int .i64 op, x.val] ∧ x.In w
  | .binary b op x y => OpOk op ∧ Blk w b 141 #[x.val, .int .i64 0, .int .i64 op, y.val] ∧ x.In w ∧ y.In w
  | .index b x y => Blk w b 144 #[x.val, .int .i64 0, y.val, .int .i64 0] ∧ x.In w ∧ y.In w
  | .call b f g cap args => Blk w b 91 #[f.val, .int .i64 0, .slice (some ⟨g, 0, none⟩) args.length cap, .int .i64 0, .int .i64 0] ∧ f.In w ∧
      (Row w g 62 1 args.length (args.map AE.val) cap ∧ args.length ≤ 1000) ∧ AEInL w args
def AEInL (w : World) : List AE → Prop
  | [] => True
  | x :: xs => x.In w ∧ AEInL w xs
end
/-! the blocks of an expression -/
mutual
def AE.blocks : AE → List Nat
  | .ident b _ => [b]
  | .lit b _ => [b]
  | .paren b x => b :: x.blocks
  | .sel b x sb _ => b :: sb :: x.blocks
  | .star b x => b :: x.blocks
  | .unary b _ x => b :: x.blocks
  | .binary b _ x y => b :: (x.blocks ++ y.blocks)
  | .index b x y => b :: (x.blocks ++ y.blocks)
  | .call b f g _ args => b :: g :: (f.blocks ++ blocksL args)
def blocksL : List AE → List Nat
  | [] => []
  | x :: xs => x.blocks ++ blocksL xs
end
/-! the node that an expression stands for -/
mutual
def AE.node : AE → Node
  | .ident _ nm => .mk sName nm []
  | .lit _ tx => .mk sInt tx []
  | .paren _ x => .mk sParen sEmpty [x.node]
  | .sel _ x _ nm => .mk sSel nm [x.node]
  | .star _ x => .mk sUn ⟨#[42]⟩ [x.node]
  | .unary _ op x => .mk sUn (tok op) [x.node]
  | .binary _ op x y => .mk sBin (tok op) [x.node, y.node]
  | .index _ x y => .mk sIndex sEmpty [x.node, y.node]
  | .call _ f _ _ args => .mk sCall sEmpty (f.node :: nodeL args)
def nodeL : List AE → List Node
  | [] => []
  | x :: xs => x.node :: nodeL xs
end
theorem nodeL_eq (l : List AE) : nodeL l = l.map AE.node := by
  induction l with
  | nil => rfl
  | cons a l ih => simp [nodeL, ih]
theorem AEInL_iff (w : World) (l : List AE) : AEInL w l ↔ ∀ x ∈ l, x.In w := by
  induction l with
  | nil => simp [AEInL]
  | cons a l ih => simp [AEInL, ih]

/-! a tree stays where its blocks stay -/
mutual
theorem AE.In.same {w w' : World} : ∀ x : AE, (∀ b ∈ x.blocks, w'.heap[b]? = w.heap[b]?) → x.In w → x.In w'
  | .ident b nm, hb, h => ⟨h.1, h.2.same (hb b (by simp [AE.blocks]))⟩
  | .lit b tx, hb, h => ⟨h.1, h.2.same (hb b (by simp [AE.blocks]))⟩
  | .paren b x, hb, h => ⟨h.1.same (hb b (by simp [AE.blocks])), AE.In.same x (fun c hc => hb c (by simp [AE.blocks, hc])) h.2⟩
  | .sel b x sb nm, hb, h => ⟨h.1.same (hb b (by simp [AE.blocks])), ⟨h.2.1.1, h.2.1.2.same (hb sb (by simp [AE.blocks]))⟩, AE.In.same x (fun c hc => hb c (by simp [AE.blocks, hc])) h.2.2⟩
  | .star b x, hb, h => ⟨h.1.same (hb b (by simp [AE.blocks])), AE.In.same x (fun c hc => hb c (by simp [AE.blocks, hc])) h.2⟩
  | .unary b op x, hb, h => ⟨h.1, h.2.1.same (hb b (by simp [AE.blocks])), AE.In.same x (fun c hc => hb c (by simp [AE.blocks, hc])) h.2.2⟩
  | .binary b op x y, hb, h => ⟨h.1, h.2.1.same (hb b (by simp [AE.blocks])), AE.In.same x (fun c hc => hb c (by simp [AE.blocks, hc])) h.2.2.1, AE.In.same y (fun c hc => hb c (by simp [AE.blocks, hc])) h.2.2.2⟩
  | .index b x y, hb, h => ⟨h.1.same (hb b (by simp [AE.blocks])), AE.In.same x (fun c hc => hb c (by simp [AE.blocks, hc])) h.2.1, AE.In.same y (fun c hc => hb c (by simp [AE.blocks, hc])) h.2.2⟩
  | .call b f g cap args, hb, h => ⟨h.1.same (hb b (by simp [AE.blocks])), AE.In.same f (fun c hc => hb c (by simp [AE.blocks, hc])) h.2.1, ⟨h.2.2.1.1.same (hb g (by simp [AE.blocks])), h.2.2.1.2⟩, AEInL.same args (fun c hc => hb c (by simp [AE.blocks, hc])) h.2.2.2⟩
theorem AEInL.same {w w' : World} : ∀ l : List AE, (∀ b ∈ blocksL l, w'.heap[b]? = w.heap[b]?) → AEInL w l → AEInL w' l
  | [], _, _ => trivial
  | x :: xs, hb, h => ⟨AE.In.same x (fun c hc => hb c (by simp [blocksL, hc])) h.1, AEInL.same xs (fun c hc => hb c (by simp [blocksL, hc])) h.2⟩
end
mutual
theorem AE.In.lt {w : World} : ∀ x : AE, x.In w → ∀ b ∈ x.blocks, b < w.heap.size
  | .ident b nm, h, c, hc => by simp [AE.blocks] at hc; subst hc; exact h.2.lt
  | .lit b tx, h, c, hc => by simp [AE.blocks] at hc; subst hc; exact h.2.lt
  | .paren b x, h, c, hc => by
    simp [AE.blocks] at hc; rcases hc with rfl | hc
    · exact h.1.lt
    · exact AE.In.lt x h.2 c hc
  | .sel b x sb nm, h, c, hc => by
    simp [AE.blocks] at hc; rcases hc with rfl | rfl | hc
    · exact h.1.lt
    · exact h.2.1.2.lt
    · exact AE.In.lt x h.2.2 c hc
  | .star b x, h, c, hc => by
    simp [AE.blocks] at hc; rcases hc with rfl | hc
    · exact h.1.lt
    · exact AE.In.lt x h.2 c hc
  | .unary b op x, h, c, hc => by
    simp [AE.blocks] at hc; rcases hc with rfl | hc
    · exact h.2.1.lt
    · exact AE.In.lt x h.2.2 c hc
  | .binary b op x y, h, c, hc => by
    simp [AE.blocks] at hc; rcases hc with rfl | hc | hc
    · exact h.2.1.lt
    · exact AE.In.lt x h.2.2.1 c hc
    · exact AE.In.lt y h.2.2.2 c hc
  | .index b x y, h, c, hc => by
    simp [AE.blocks] at hc; rcases hc with rfl | hc | hc
    · exact h.1.lt
    · exact AE.In.lt x h.2.1 c hc
    · exact AE.In.lt y h.2.2 c hc
  | .call b f g cap args, h, c, hc => by
    simp [AE.blocks] at hc; rcases hc with rfl | rfl | hc | hc
    · exact h.1.lt
    · exact h.2.2.1.1.lt
    · exact AE.In.lt f h.2.1 c hc
    · exact AEInL.lt args h.2.2.2 c hc
theorem AEInL.lt {w : World} : ∀ l : List AE, AEInL w l → ∀ b ∈ blocksL l, b < w.heap.size
  | [], _, c, hc => by simp [blocksL] at hc
  | x :: xs, h, c, hc => by
    simp [blocksL] at hc; rcases hc with hc | hc
    · exact AE.In.lt x h.1 c hc
    · exact AEInL.lt xs h.2 c hc
end
theorem AE.In.below {w w' : World} {x : AE} {B : Nat} (h : x.In w) (hb : Below B w w') (hB : w.heap.size ≤ B) : x.In w' :=
  AE.In.same x (fun b hx => hb.block b (by have := AE.In.lt x h b hx; omega)) h
theorem AEInL.below {w w' : World} {l : List AE} {B : Nat} (h : AEInL w l) (hb : Below B w w') (hB : w.heap.size ≤ B) : AEInL w' l :=
  AEInL.same l (fun b hx => hb.block b (by have := AEInL.lt l h b hx; omega)) h
theorem AE.oneCell (x : AE) : x.val.oneCell' = true := by cases x <;> rfl
/-- Blocks from B on, none of them twice. -/
def Fresh (B : Nat) (l : List Nat) : Prop := (∀ b ∈ l, B ≤ b) ∧ l.Nodup
theorem Fresh.nil (B : Nat) : Fresh B [] := ⟨(fun _ h => by cases h), List.nodup_nil⟩
theorem Fresh.cons {B b : Nat} {l : List Nat} (h : Fresh B l) (hb : B ≤ b) (hn : b ∉ l) : Fresh B (b :: l) :=
  ⟨fun c hc => by
    rcases List.mem_cons.1 hc with rfl | hc
    · exact hb
    · exact h.1 c hc, List.nodup_cons.2 ⟨hn, h.2⟩⟩
theorem Fresh.append {B : Nat} {l m : List Nat} (h : Fresh B l) (k : Fresh B m) (hd : ∀ b ∈ l, b ∉ m) : Fresh B (l ++ m) :=
  ⟨fun c hc => by
    rcases List.mem_append.1 hc with hc | hc
    · exact h.1 c hc
    · exact k.1 c hc, List.nodup_append.2 ⟨h.2, k.2, fun a ha b hb e => hd a ha (e ▸ hb)⟩⟩
theorem Fresh.mono {B B' : Nat} {l : List Nat} (h : Fresh B l) (hB : B' ≤ B) : Fresh B' l := ⟨fun c hc => Nat.le_trans hB (h.1 c hc), h.2⟩
/-- A tree of new blocks, none of them twice. -/
def AE.New (B : Nat) (x : AE) : Prop := Fresh B x.blocks
def NewL (B : Nat) (l : List AE) : Prop := Fresh B (blocksL l)
theorem blocksL_append (l m : List AE) : blocksL (l ++ m) = blocksL l ++ blocksL m := by
  induction l with
  | nil => rfl
  | cons a l ih => simp [blocksL, ih]
theorem nodeL_append (l m : List AE) : nodeL (l ++ m) = nodeL l ++ nodeL m := by simp [nodeL_eq]
theorem AEInL_append {w : World} {l m : List AE} (h : AEInL w l) (k : AEInL w m) : AEInL w (l ++ m) := by
  rw [AEInL_iff] at *
  intro x hx
  rcases List.mem_append.1 hx with hx | hx
  · exact h x hx
  · exact k x hx
/-- What the walks want of the package's own variables. -/
def Glob (w : World) : Prop := TokTab w ∧ 0 < w.heap.size
theorem Glob.below {w w' : World} {B : Nat} (h : Glob w) (hb : Below B w w') (hB : w.heap.size ≤ B) : Glob w' :=
  ⟨h.1.below hb (Nat.lt_of_lt_of_le h.2 hB), Nat.lt_of_lt_of_le h.2 hb.size⟩
/-- The call made the tree of a node. -/
def MadeE (n : Node) (w : World) (e : Ending) (w' : World) : Prop := ∃ x : AE, e = .returned x.val ∧ x.In w' ∧ x.node = n ∧ x.New w.heap.size ∧ Below w.heap.size w w'
/-- A list of trees of the call's own, in a row of its own. -/
structure ListSo (ns : List Node) (w wr : World) (g cap : Nat) (xs : List AE) : Prop where
  row : Row wr g 62 1 xs.length (xs.map AE.val) cap
  inn : AEInL wr xs
  node : nodeL xs = ns
  new : NewL w.heap.size xs
  lo : w.heap.size ≤ g
  out : g ∉ blocksL xs
  below : Below w.heap.size w wr
/-- The call made the trees of nodes. -/
def MadeL (ns : List Node) (w : World) (e : Ending) (w' : World) : Prop := ∃ (g cap : Nat) (xs : List AE), e = .returned (.slice (some ⟨g, 0, none⟩) xs.length cap) ∧ ListSo ns w w' g cap xs
theorem ListSo.start (w w1 : World) (hb : Below w.heap.size w w1) (hs : w.heap.size ≤ w1.heap.size) : ListSo [] w (w1.alloc (.cells #[] 62)) w1.heap.size 0 [] where
  row := Row.new w1 _ 1 #[] 0 rfl (Nat.zero_le _)
  inn := trivial
  node := rfl
  new := Fresh.nil _
  lo := hs
  out := by simp [blocksL]
  below := hb.alloc hs _
theorem ListSo.step {ns : List Node} {w wr w1 w2 w3 : World} {g cap g' cap' : Nat} {xs : List AE} {x : AE} {n : Node} {vs : List Value} (h : ListSo ns w wr g cap xs) (h1 : Below wr.heap.size wr w1) (hx : x.In w2) (hn : x.node = n) (hnew : x.New w1.heap.size)
    (h2 : Below w1.heap.size w1 w2) (w2' : World) (h2' : Below w2.heap.size w2 w2') (hv : vs = [x.val]) (hrow : Row w3 g' 62 1 (xs.length + 1) (xs.map AE.val ++ vs) cap') (hg : w2'.grownBy w3 (some g)) (hg' : g' = g ∨ g' = w2'.heap.size) :
    ListSo (ns ++ [n]) w w3 g' cap' (xs ++ [x]) := by
  subst hv
  have s1 := h1.size
  have s2 := h2.size
  have s2' := h2'.size
  have hglt := h.row.lt
  have hxs := AEInL.lt xs h.inn
  have hxl := AE.In.lt x hx
  have hall : Below wr.heap.size wr w2' := (h1.trans (h2.mono s1)).trans (h2'.mono (by omega))
  refine ⟨?_, ?_, ?_, ?_, ?_, ?_, ?_⟩
  · simpa using hrow
  · refine AEInL_append (AEInL.same xs (fun b hb => ?_) h.inn) ⟨AE.In.same x (fun b hb => ?_) hx, trivial⟩
    · have hlt := hxs b hb
      rw [hg.block b (by omega) (fun e => h.out (by cases e; exact hb)), hall.block b hlt]
    · have hlt := hxl b hb
      have hge := hnew.1 b hb
      rw [hg.block b (by omega) (fun e => by cases e; omega), h2'.block b hlt]
  · rw [nodeL_append, h.node, nodeL, hn, nodeL]
  · rw [NewL, blocksL_append, blocksL, blocksL, List.append_nil]
    have := h.below.size
    exact Fresh.append h.new (hnew.mono (by omega)) (fun b hb hb2 => by have := hxs b hb; have := hnew.1 b hb2; omega)
  · have := h.lo
    have := h.below.size
    rcases hg' with rfl | rfl <;> omega
  · rw [blocksL_append, blocksL, blocksL, List.append_nil, List.mem_append]
    rcases hg' with rfl | rfl
    · rintro (hb | hb)
      · exact h.out hb
      · have := hnew.1 _ hb; omega
    · rintro (hb | hb)
      · have := hxs _ hb; omega
      · have := hxl _ hb; omega
  · have hlo := h.lo
    refine (h.below.trans (hall.mono h.below.size)).grown hg (by have := h.below.size; omega) (fun k hk => by cases hk; exact hlo)

/-! nodes that a call made -/
def addrBlk : Option Addr → List Nat
  | some a => [a.block]
  | none => []
mutual
def ANode.blks : ANode → List Nat
  | .mk _ _ A _ ks => addrBlk A ++ blksL ks
def blksL : List ANode → List Nat
  | [] => []
  | n :: ns => n.blks ++ blksL ns
end
mutual
theorem ANode.In.same {w w' : World} {L : Nat} : ∀ n : ANode, (∀ b ∈ n.blks, w'.heap[b]? = w.heap[b]?) → n.In w L → n.In w' L
  | .mk k t A cap ks, hb, h => ⟨h.1, h.2.1, h.2.2.1, h.2.2.2.1, KidsIn.same (fun b hm => hb b (by simp [ANode.blks, hm])) ks (fun b hm => hb b (by simp [ANode.blks, hm])) h.2.2.2.2⟩
theorem KidsIn.same {w w' : World} {L : Nat} {A : Option Addr} (hA : ∀ b ∈ addrBlk A, w'.heap[b]? = w.heap[b]?) {i : Nat} : ∀ ns : List ANode, (∀ b ∈ blksL ns, w'.heap[b]? = w.heap[b]?) → KidsIn w L A i ns → KidsIn w' L A i ns
  | [], _, _ => trivial
  | n :: ns, hb, h => by
    refine ⟨?_, ANode.In.same n (fun b hm => hb b (by simp [blksL, hm])) h.2.1, KidsIn.same hA ns (fun b hm => hb b (by simp [blksL, hm])) h.2.2⟩
    obtain ⟨b, off, rfl, hbL, h0, h1, h2⟩ := h.1
    have e : w'.heap[b]? = w.heap[b]? := hA b (by simp [addrBlk])
    exact ⟨b, off, rfl, hbL, (World.cell?_of_block (w := w) e).trans h0, (World.cell?_of_block (w := w) e).trans h1, (World.cell?_of_block (w := w) e).trans h2⟩
end
theorem blksL_append (l m : List ANode) : blksL (l ++ m) = blksL l ++ blksL m := by
  induction l with
  | nil => rfl
  | cons a l ih => simp [blksL, ih]
theorem eraseL_append (l m : List ANode) : eraseL (l ++ m) = eraseL l ++ eraseL m := by simp [eraseL_eq]
/-- The cells of nodes in a row. -/
def cellsN : List ANode → List Value
  | [] => []
  | n :: ns => .string n.kind :: .string n.text :: .slice n.addr n.kids.length n.cap :: cellsN ns
theorem cellsN_append (l m : List ANode) : cellsN (l ++ m) = cellsN l ++ cellsN m := by
  induction l with
  | nil => rfl
  | cons a l ih => simp [cellsN, ih]
theorem cellsN_length (l : List ANode) : (cellsN l).length = l.length * 3 := by
  induction l with
  | nil => rfl
  | cons a l ih => simp only [cellsN, List.length_cons, ih]; omega
theorem cellsN_get : ∀ {l : List ANode} {i : Nat} {n : ANode}, l[i]? = some n → (cellsN l)[i * 3]? = some (.string n.kind) ∧ (cellsN l)[i * 3 + 1]? = some (.string n.text) ∧ (cellsN l)[i * 3 + 2]? = some (.slice n.addr n.kids.length n.cap)
  | [], _, _, h => by simp at h
  | m :: ns, 0, n, h => by simp at h; subst h; exact ⟨rfl, rfl, rfl⟩
  | m :: ns, i + 1, n, h => by
    have := cellsN_get (l := ns) (i := i) (n := n) (by simpa using h)
    rw [Nat.add_mul]
    exact this
theorem Row.kids {w : World} {g cap L : Nat} {T : TypeId} : ∀ {ns ms : List ANode}, Row w g T 3 (ms ++ ns).length (cellsN (ms ++ ns)) cap → g < L → (∀ n ∈ ns, n.In w L) → KidsIn w L (some ⟨g, 0, none⟩) ms.length ns
  | [], _, _, _, _ => trivial
  | n :: ns, ms, h, hg, hin => by
    refine ⟨?_, hin n (by simp), ?_⟩
    · have hget := cellsN_get (l := ms ++ n :: ns) (i := ms.length) (n := n) (by simp)
      refine ⟨g, 0, rfl, hg, ?_, ?_, ?_⟩
      · rw [Nat.zero_add]; exact h.cell hget.1
      · rw [Nat.zero_add]; exact h.cell hget.2.1
      · rw [Nat.zero_add]; exact h.cell hget.2.2
    · have := Row.kids (w := w) (g := g) (cap := cap) (L := L) (T := T) (ns := ns) (ms := ms ++ [n]) (by simpa using h) hg (fun m hm => hin m (by simp [hm]))
      simpa using this
/-- The call made a node. -/
def MadeN (m : Node) (w : World) (e : Ending) (w' : World) : Prop := ∃ n : ANode, e = .returned n.val ∧ n.In w' w'.heap.size ∧ n.erase = m ∧ (∀ b ∈ n.blks, w.heap.size ≤ b ∧ b < w'.heap.size) ∧ Below w.heap.size w w'
theorem ANode.In.blksL_lt {w : World} {L : Nat} : ∀ n : ANode, n.In w L → n.kids ≠ [] → ∀ a, n.addr = some a → a.block < L
  | .mk k t A cap (m :: ks), h, _, a, ha => by
    obtain ⟨b, off, hA, hb, _⟩ := h.2.2.2.2.1
    simp only [ANode.addr] at ha
    rw [ha] at hA
    cases hA
    exact hb
  | .mk k t A cap [], _, hne, _, _ => absurd rfl hne
/-- Nodes of the call's own, in a row of its own. -/
structure NodesSo (ms : List Node) (w wr : World) (g cap : Nat) (ns : List ANode) : Prop where
  row : Row wr g 24 3 ns.length (cellsN ns) cap
  inn : ∀ n ∈ ns, n.In wr wr.heap.size
  lt : ∀ b ∈ blksL ns, b < wr.heap.size
  node : eraseL ns = ms
  lo : w.heap.size ≤ g
  new : ∀ b ∈ blksL ns, w.heap.size ≤ b
  out : g ∉ blksL ns
  below : Below w.heap.size w wr
def MadeNs (ms : List Node) (w : World) (e : Ending) (w' : World) : Prop := ∃ (g cap : Nat) (ns : List ANode), e = .returned (.slice (some ⟨g, 0, none⟩) ns.length cap) ∧ NodesSo ms w w' g cap ns
theorem NodesSo.start (w w1 : World) (hb : Below w.heap.size w w1) (hs : w.heap.size ≤ w1.heap.size) : NodesSo [] w (w1.alloc (.cells #[] 24)) w1.heap.size 0 [] where
  row := Row.new w1 _ 3 #[] 0 rfl (Nat.zero_le _)
  inn := fun n hn => by cases hn
  lt := fun b hb => by cases hb
  node := rfl
  lo := hs
  new := fun b hb => by cases hb
  out := by simp [blksL]
  below := hb.alloc hs _
theorem mem_blksL {k : ANode} {ns : List ANode} (hk : k ∈ ns) {b : Nat} (hb : b ∈ k.blks) : b ∈ blksL ns := by
  induction ns with
  | nil => cases hk
  | cons a l ih =>
    simp only [blksL, List.mem_append]
    rcases List.mem_cons.1 hk with rfl | hk
    · exact .inl hb
    · exact .inr (ih hk)
theorem NodesSo.step {ms : List Node} {w wr w2 w2' w3 : World} {g cap g' cap' : Nat} {ns : List ANode} {n : ANode} {m : Node} {vs : List Value} (h : NodesSo ms w wr g cap ns) (hin : n.In w2 w2.heap.size) (hn : n.erase = m)
    (hnew : ∀ b ∈ n.blks, wr.heap.size ≤ b ∧ b < w2.heap.size) (h2 : Below wr.heap.size wr w2) (h2' : Below w2.heap.size w2 w2') (hv : vs = cellsN [n]) (hrow : Row w3 g' 24 3 (ns.length + 1) (cellsN ns ++ vs) cap')
    (hg : w2'.grownBy w3 (some g)) (hg' : g' = g ∨ g' = w2'.heap.size) : NodesSo (ms ++ [m]) w w3 g' cap' (ns ++ [n]) := by
  subst hv
  have s2 := h2.size
  have s2' := h2'.size
  have s3 := hg.size
  have hglt := h.row.lt
  have hall : Below wr.heap.size wr w2' := h2.trans (h2'.mono s2)
  have hw : w.heap.size ≤ wr.heap.size := h.below.size
  refine ⟨?_, ?_, ?_, ?_, ?_, ?_, ?_, ?_⟩
  · rw [cellsN_append]; simpa using hrow
  · intro k hk
    rcases List.mem_append.1 hk with hk | hk
    · have hb : ∀ b ∈ k.blks, b ∈ blksL ns := fun b hb => mem_blksL hk hb
      refine ANode.In.same k (fun b hm => ?_) (ANode.In.more (by omega) k (h.inn k hk))
      have hlt := h.lt b (hb b hm)
      rw [hg.block b (by omega) (fun e => h.out (by cases e; exact hb _ hm)), hall.block b hlt]
    · cases List.mem_singleton.1 hk
      refine ANode.In.same n (fun b hm => ?_) (ANode.In.more (by omega) n hin)
      have := hnew b hm
      rw [hg.block b (by omega) (fun e => by cases e; omega), h2'.block b this.2]
  · intro b hb
    rw [blksL_append, List.mem_append] at hb
    rcases hb with hb | hb
    · have := h.lt b hb; omega
    · rw [blksL, blksL, List.append_nil] at hb; have := hnew b hb; omega
  · rw [eraseL_append, h.node, eraseL, hn, eraseL]
  · have := h.lo
    rcases hg' with rfl | rfl <;> omega
  · intro b hb
    rw [blksL_append, List.mem_append] at hb
    rcases hb with hb | hb
    · exact h.new b hb
    · rw [blksL, blksL, List.append_nil] at hb; have := hnew b hb; omega
  · rw [blksL_append, blksL, blksL, List.append_nil, List.mem_append]
    rintro (hb | hb)
    · rcases hg' with rfl | rfl
      · exact h.out hb
      · have := h.lt _ hb; omega
    · have := hnew _ hb
      rcases hg' with rfl | rfl <;> omega
  · have hlo := h.lo
    refine (h.below.trans (hall.mono hw)).grown hg (by omega) (fun k hk => by cases hk; exact hlo)
theorem take_node {xs : List AE} {j : Nat} {x : AE} (h : xs[j]? = some x) : (nodeL xs).take (j + 1) = (nodeL xs).take j ++ [x.node] := by
  have hlt : j < xs.length := by
    rcases Nat.lt_or_ge j xs.length with h1 | h1
    · exact h1
    · rw [List.getElem?_eq_none h1] at h; cases h
  have e : xs[j] = x := by rw [List.getElem?_eq_getElem hlt] at h; exact Option.some.inj h
  rw [nodeL_eq, List.take_succ_eq_append_getElem (by simpa using hlt)]
  simp [e]
theorem iface_cell {w : World} {W : World} {T tx : TypeId} {vx : Value} {x : AE} (hx : x.val = .iface tx vx) (hw : w = W.alloc (.cells #[.iface tx vx] T)) (n : Nat) (hn : n = W.heap.size) : ∀ i y, ([x] : List AE)[i]? = some y → w.cell? ⟨n, i, none⟩ = some y.val := by
  subst hw; subst hn
  intro i y hy
  rw [World.cell?_alloc_new]
  match i, hy with
  | 0, hy => simp at hy; subst hy; simp [hx]
/-- A node stored into the result's own block. -/
theorem MadeN.of_store {w W w1 wf : World} {ms : List Node} {kind text : ByteArray} {g cap : Nat} {ns : List ANode} (h : NodesSo ms W w1 g cap ns) (hW : w.heap.size < W.heap.size) (hk : kind.size ≤ maxLen) (ht : text.size ≤ maxLen)
    (hf : ∀ b, b ≠ w.heap.size → wf.heap[b]? = w1.heap[b]?) (hsz : wf.heap.size = w1.heap.size) (hb : Below w.heap.size w wf) : MadeN (.mk kind text ms) w (.returned (ANode.mk kind text (some ⟨g, 0, none⟩) cap ns).val) wf := by
  have hlo := h.lo
  have hgl := h.row.lt
  have hrow : Row wf g 24 3 ns.length (cellsN ns) cap := h.row.same (hf g (by omega))
  have hin : ∀ n ∈ ns, n.In wf wf.heap.size := by
    intro n hn
    rw [hsz]
    exact ANode.In.same n (fun b hm => hf b (by have := h.new b (mem_blksL hn hm); omega)) (h.inn n hn)
  refine ⟨_, rfl, ⟨hk, ht, h.row.2.1, h.row.2.2.1, ?_⟩, ?_, ?_, hb⟩
  · exact Row.kids (ms := []) hrow (by omega) hin
  · rw [ANode.erase, h.node]
  · intro b hm
    rw [ANode.blks, addrBlk, List.mem_append] at hm
    rcases hm with hm | hm
    · have e : b = g := List.mem_singleton.1 hm
      omega
    · have := h.new b hm
      have := h.lt b hm
      omega
theorem store3 (w1 : World) (g : Nat) (a b c : Value) : ∀ x, x ≠ g → (((w1.setCell ⟨g, 0, none⟩ a).setCell ⟨g, 1, none⟩ b).setCell ⟨g, 2, none⟩ c).heap[x]? = w1.heap[x]? := by
  intro x hx
  rw [Below.heap_setCell _ _ _ _ (by exact hx), Below.heap_setCell _ _ _ _ (by exact hx), Below.heap_setCell _ _ _ _ (by exact hx)]
theorem tok_size (op : Nat) (h : op < 89) : (tok op).size ≤ maxLen := by
  have : ∀ i, i < 89 → (toksL.getD i []).length ≤ 20 := by decide
  have h2 := this op h
  show (toksL.getD op []).toArray.size ≤ _
  simp only [List.size_toArray, maxLen]
  omega
theorem iface_cell1 {w : World} {tx : TypeId} {vx : Value} {x : AE} (hx : x.val = .iface tx vx) (n : Nat) (hc : w.cell? ⟨n, 0, none⟩ = some (.iface tx vx)) : ∀ i y, ([x] : List AE)[i]? = some y → w.cell? ⟨n, i, none⟩ = some y.val := by
  intro i y hy
  match i, hy with
  | 0, hy => simp at hy; subst hy; rw [hx]; exact hc
theorem iface_cell2 {w : World} {tx ty : TypeId} {vx vy : Value} {x y : AE} (hx : x.val = .iface tx vx) (hy : y.val = .iface ty vy) (n : Nat) (hc : w.cell? ⟨n, 0, none⟩ = some (.iface tx vx)) (hc2 : w.cell? ⟨n, 1, none⟩ = some (.iface ty vy)) :
    ∀ i z, ([x, y] : List AE)[i]? = some z → w.cell? ⟨n, i, none⟩ = some z.val := by
  intro i z hz
  match i, hz with
  | 0, hz => simp at hz; subst hz; rw [hx]; exact hc
  | 1, hz => simp at hz; subst hz; rw [hy]; exact hc2
theorem cellsN_one : ∀ {l : List ANode} {u : Value}, u ∈ cellsN l → u.oneCell' = true
  | [], u, h => by cases h
  | n :: ns, u, h => by
    simp only [cellsN, List.mem_cons] at h
    rcases h with rfl | rfl | rfl | h
    · rfl
    · rfl
    · rfl
    · exact cellsN_one h
theorem add_zero_block (g j : Nat) : (⟨g, 0, none⟩ : Addr).add j = ⟨g, j, none⟩ := by
  unfold Addr.add; split <;> simp_all
theorem NodesSo.join {ms ms2 : List Node} {W w1 w2 w3 : World} {g c g2 c2 g' cap' : Nat} {ns ns2 : List ANode} (h : NodesSo ms W w1 g c ns) (h2 : NodesSo ms2 w1 w2 g2 c2 ns2)
    (hrow : Row w3 g' 24 3 (ns.length + ns2.length) (cellsN ns ++ cellsN ns2) cap') (hg : w2.grownBy w3 (some g)) (hg' : g' = g ∨ g' = w2.heap.size) : NodesSo (ms ++ ms2) W w3 g' cap' (ns ++ ns2) := by
  have s1 := h.below.size
  have s2 := h2.below.size
  have s3 := hg.size
  have hglt := h.row.lt
  refine ⟨?_, ?_, ?_, ?_, ?_, ?_, ?_, ?_⟩
  · rw [cellsN_append, List.length_append]; exact hrow
  · intro k hk
    rcases List.mem_append.1 hk with hk | hk
    · refine ANode.In.same k (fun b hm => ?_) (ANode.In.more (by omega) k (h.inn k hk))
      have hlt := h.lt b (mem_blksL hk hm)
      rw [hg.block b (by omega) (fun e => h.out (by cases e; exact mem_blksL hk hm)), h2.below.block b hlt]
    · refine ANode.In.same k (fun b hm => ?_) (ANode.In.more (by omega) k (h2.inn k hk))
      have hlt := h2.lt b (mem_blksL hk hm)
      have hge := h2.new b (mem_blksL hk hm)
      rw [hg.block b (by omega) (fun e => by cases e; omega)]
  · intro b hb
    rw [blksL_append, List.mem_append] at hb
    rcases hb with hb | hb
    · have := h.lt b hb; omega
    · have := h2.lt b hb; omega
  · rw [eraseL_append, h.node, h2.node]
  · have := h.lo
    rcases hg' with rfl | rfl <;> omega
  · intro b hb
    rw [blksL_append, List.mem_append] at hb
    rcases hb with hb | hb
    · exact h.new b hb
    · have := h2.new b hb; omega
  · rw [blksL_append, List.mem_append]
    rintro (hb | hb)
    · rcases hg' with rfl | rfl
      · exact h.out hb
      · have := h.lt _ hb; omega
    · have := h2.new _ hb
      have := h2.lt _ hb
      rcases hg' with rfl | rfl <;> omega
  · have hlo := h.lo
    exact (h.below.trans (h2.below.mono s1)).grown hg (by omega) (fun k hk => by cases hk; exact hlo)
theorem MadeN.of_store2 {w W w1 wf : World} {ms : List Node} {kind text : ByteArray} {g cap len : Nat} {ns : List ANode} (h : NodesSo ms W w1 g cap ns) (hl : len = ns.length) (hW : w.heap.size < W.heap.size) (hk : kind.size ≤ maxLen) (ht : text.size ≤ maxLen)
    (hf : ∀ b, b ≠ w.heap.size → wf.heap[b]? = w1.heap[b]?) (hsz : wf.heap.size = w1.heap.size) (hb : Below w.heap.size w wf) : MadeN (.mk kind text ms) w (.returned (.agg #[.string kind, .string text, .slice (some ⟨g, 0, none⟩) len cap])) wf := by
  subst hl
  exact MadeN.of_store h hW hk ht hf hsz hb
end Go.Proofs.YtgimbgpebpippaaGreatDoor
