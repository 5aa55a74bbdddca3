/- What a call of Apply leaves alone: all blocks but some. -/
import Derived.Test.YtgimbgpebpippaaGreatDoorAst
import Derived.Test.YtgimbgpebpippaaGreatDoorApPure
namespace Go.Proofs.YtgimbgpebpippaaGreatDoor
open Go.RowKit

/-- The same world but for the count of draws. -/
abbrev Sm (w w' : World) : Prop := w'.heap = w.heap ∧ w'.os = w.os ∧ w'.tape = w.tape ∧ w'.output = w.output
/-- All that was there stays, but for some blocks. -/
structure Kept (own : List Nat) (w w' : World) : Prop where
  size : w.heap.size ≤ w'.heap.size
  block : ∀ k, k < w.heap.size → k ∉ own → w'.heap[k]? = w.heap[k]?
  os : w'.os = w.os
  tape : w'.tape = w.tape
  output : w'.output = w.output
/-- What is owned behind a call was owned ahead of it, or is new. -/
def Grows (B : Nat) (own own' : List Nat) : Prop := ∀ b ∈ own', b ∈ own ∨ B ≤ b
theorem Kept.refl (own : List Nat) (w : World) : Kept own w w := ⟨Nat.le_refl _, fun _ _ _ => rfl, rfl, rfl, rfl⟩
theorem Kept.of {own : List Nat} {w w' : World} (h : Below w.heap.size w w') : Kept own w w' := ⟨h.size, fun k hk _ => h.block k hk, h.os, h.tape, h.output⟩
theorem Kept.more {own own' : List Nat} {w w' : World} (h : Kept own w w') (hs : ∀ b ∈ own, b ∈ own') : Kept own' w w' := ⟨h.1, fun k hk hn => h.2 k hk (fun hm => hn (hs k hm)), h.os, h.tape, h.output⟩
theorem Kept.trans {own own2 : List Nat} {w w1 w2 : World} (h : Kept own w w1) (h2 : Kept own2 w1 w2) (hg : Grows w.heap.size own own2) : Kept own w w2 :=
  ⟨Nat.le_trans h.1 h2.1, fun k hk hn => (h2.2 k (Nat.lt_of_lt_of_le hk h.1) (fun hm => by
    rcases hg k hm with h | h
    · exact hn h
    · omega)).trans (h.2 k hk hn), h2.os.trans h.os, h2.tape.trans h.tape, h2.output.trans h.output⟩
theorem Kept.blk {own : List Nat} {w w' : World} {g : Nat} {t : TypeId} {cs : Array Value} (h : Kept own w w') (hb : Blk w g t cs) (hn : g ∉ own) : Blk w' g t cs := hb.same (h.2 g hb.lt hn)
theorem Kept.set {own : List Nat} {w w' : World} (h : Kept own w w') {p : Addr} (hp : p.block ∈ own ∨ w.heap.size ≤ p.block) (u : Value) : Kept own w (w'.setCell p u) := by
  refine ⟨by have := h.1; simpa using this, fun k hk hn => ?_, h.os, h.tape, h.output⟩
  have hne : k ≠ p.block := by
    intro e
    rcases hp with hp | hp
    · exact hn (e ▸ hp)
    · omega
  exact (Below.heap_setCell _ _ _ _ hne).trans (h.2 k hk hn)
theorem Kept.alloc {own : List Nat} {w w' : World} (h : Kept own w w') (o : Obj) : Kept own w (w'.alloc o) :=
  ⟨by rw [World.size_alloc]; have := h.1; omega, fun k hk hn => (Below.heap_alloc w' o k (Nat.lt_of_lt_of_le hk h.1)).trans (h.2 k hk hn), h.os, h.tape, h.output⟩
theorem Kept.drew {own : List Nat} {w w' : World} (h : Kept own w w') : Kept own w w'.drew := ⟨h.1, h.2, h.3, h.4, h.5⟩
theorem Kept.heapy {own : List Nat} {w w1 w2 : World} (h : Kept own w w1) (e : Sm w1 w2) : Kept own w w2 := ⟨by rw [e.1]; exact h.1, fun k hk hn => by rw [e.1]; exact h.2 k hk hn, e.2.1.trans h.os, e.2.2.1.trans h.tape, e.2.2.2.trans h.output⟩
theorem Kept.below {own : List Nat} {w w' : World} {B : Nat} (h : Kept own w w') (hB : B ≤ w.heap.size) (ho : ∀ k ∈ own, B ≤ k) : Below B w w' :=
  ⟨h.os, h.tape, h.output, h.1, fun k hk => h.2 k (by omega) (fun hm => by have := ho k hm; omega)⟩
theorem Grows.refl (B : Nat) (own : List Nat) : Grows B own own := fun _ hb => .inl hb
theorem Grows.trans {B B' : Nat} {a b c : List Nat} (h : Grows B a b) (h2 : Grows B' b c) (hB : B ≤ B') : Grows B a c := fun k hk => by
  rcases h2 k hk with h' | h'
  · exact h k h'
  · exact .inr (by omega)
theorem Grows.cons {B x : Nat} {a b : List Nat} (h : Grows B a b) : Grows B (x :: a) (x :: b) := fun k hk => by
  rcases List.mem_cons.1 hk with rfl | hk
  · exact .inl (by simp)
  · rcases h k hk with h | h
    · exact .inl (by simp [h])
    · exact .inr h
theorem Grows.not {B x : Nat} {a b : List Nat} (h : Grows B a b) (hx : x ∉ a) (hB : x < B) : x ∉ b := fun hm => by
  rcases h x hm with h | h
  · exact hx h
  · omega
theorem AE.In.kept {own : List Nat} {w w' : World} {x : AE} (h : x.In w) (hk : Kept own w w') (hn : ∀ b ∈ x.blocks, b ∉ own) : x.In w' :=
  AE.In.same x (fun b hb => hk.2 b (AE.In.lt x h b hb) (hn b hb)) h
theorem AEInL.kept {own : List Nat} {w w' : World} {l : List AE} (h : AEInL w l) (hk : Kept own w w') (hn : ∀ b ∈ blocksL l, b ∉ own) : AEInL w' l :=
  AEInL.same l (fun b hb => hk.2 b (AEInL.lt l h b hb) (hn b hb)) h
theorem Glob.kept {own : List Nat} {w w' : World} (h : Glob w) (hk : Kept own w w') (hn : 0 ∉ own) : Glob w' := by
  refine ⟨fun i hi => ?_, Nat.lt_of_lt_of_le h.2 hk.1⟩
  have := h.1 i hi
  exact (World.cell?_of_block (hk.2 _ h.2 hn)).trans this
/-- A block that is apart from what is owned stays apart. -/
theorem apart_next {B : Nat} {own own' l : List Nat} (h : ∀ b ∈ l, b ∉ own) (hg : Grows B own own') (hl : ∀ b ∈ l, b < B) : ∀ b ∈ l, b ∉ own' := fun b hb => hg.not (h b hb) (hl b hb)
end Go.Proofs.YtgimbgpebpippaaGreatDoor
