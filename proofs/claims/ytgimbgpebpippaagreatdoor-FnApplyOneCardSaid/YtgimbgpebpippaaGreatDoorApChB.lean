/- The nodes below a node as spec.children lays them in memory. -/
import Derived.Test.YtgimbgpebpippaaGreatDoorProg
import Derived.Test.YtgimbgpebpippaaGreatDoorApLst
import Derived.Test.YtgimbgpebpippaaGreatDoorApKids
import Derived.WalkKit
import Derived.KernelRfl
namespace Go.Proofs.YtgimbgpebpippaaGreatDoor
open Go.RowKit
set_option maxRecDepth 100000
def cellsC : List (ANode × Spot) → List Value
  | [] => []
  | c :: l => [.string c.1.kind, .string c.1.text, .slice c.1.addr c.1.kids.length c.1.cap, .string c.2.field, .int .i64 c.2.index, .string c.2.parent] ++ cellsC l
theorem cellsC_append (l m : List (ANode × Spot)) : cellsC (l ++ m) = cellsC l ++ cellsC m := by
  induction l with
  | nil => rfl
  | cons a l ih => simp [cellsC, ih]
theorem cellsC_length (l : List (ANode × Spot)) : (cellsC l).length = l.length * 6 := by
  induction l with
  | nil => rfl
  | cons a l ih => simp only [cellsC, List.length_append, List.length_cons, ih, List.length_nil]; omega
theorem cellsC_get : ∀ {l : List (ANode × Spot)} {i : Nat} {c : ANode × Spot} (k : Nat), k < 6 → l[i]? = some c → (cellsC l)[i * 6 + k]? = (cellsC [c])[k]?
  | [], _, _, _, _, h => by simp at h
  | m :: ns, 0, v, k, hk, h => by
    simp at h; subst h
    simp only [Nat.zero_mul, Nat.zero_add, cellsC, List.append_nil]
    rw [List.getElem?_append_left (by simpa using hk)]
  | m :: ns, i + 1, v, k, hk, h => by
    have := cellsC_get (l := ns) (i := i) (c := v) k hk (by simpa using h)
    rw [cellsC, List.getElem?_append_right (by simp; omega), ← this]
    congr 1
    simp; omega
theorem cellsC_one (c : ANode × Spot) : ∀ u ∈ cellsC [c], u.oneCell' = true := by
  intro u hu
  simp only [cellsC, List.append_nil, List.mem_cons, List.not_mem_nil, or_false] at hu
  rcases hu with rfl | rfl | rfl | rfl | rfl | rfl <;> rfl
theorem kidsFrom_append (k : ByteArray) : ∀ (i : Nat) (a c : List ANode), kidsFrom k i (a ++ c) = kidsFrom k i a ++ kidsFrom k (i + a.length) c
  | i, [], c => rfl
  | i, n :: a, c => by
    rw [List.cons_append, kidsFrom, kidsFrom, kidsFrom_append k (i + 1) a c, List.cons_append, List.length_cons]
    congr 3
    omega
theorem kidsFrom_length (k : ByteArray) : ∀ (i : Nat) (a : List ANode), (kidsFrom k i a).length = a.length
  | i, [] => rfl
  | i, n :: a => by rw [kidsFrom, List.length_cons, kidsFrom_length k (i + 1) a, List.length_cons]
theorem kidsFrom_take {k : ByteArray} {ns : List ANode} {j : Nat} {kid : ANode} (h : ns[j]? = some kid) : j < ns.length ∧ kidsFrom k 0 (ns.take (j + 1)) = kidsFrom k 0 (ns.take j) ++ [(kid, spotOf k j)] := by
  have hj : j < ns.length := by
    rcases Nat.lt_or_ge j ns.length with h1 | h1
    · exact h1
    · rw [List.getElem?_eq_none h1] at h; cases h
  have h1 : ns[j] = kid := by rw [List.getElem?_eq_getElem hj] at h; exact Option.some.inj h
  refine ⟨hj, ?_⟩
  rw [List.take_succ_eq_append_getElem hj, h1, kidsFrom_append, List.length_take, Nat.zero_add, Nat.min_eq_left (by omega)]
  rfl
theorem spot_bin {j : Nat} (h : ¬ j = 1) : spotOf sBin j = ⟨fX, -1, sBin⟩ := by
  unfold spotOf
  rw [if_neg (fun e => h e.2), if_neg (fun e => absurd e.1 (by decide)), if_neg (fun e => absurd e.1 (by decide)), if_neg (by decide)]
theorem spot_index {j : Nat} (h : ¬ j = 1) : spotOf sIndex j = ⟨fX, -1, sIndex⟩ := by
  unfold spotOf
  rw [if_neg (fun e => absurd e.1 (by decide)), if_neg (fun e => h e.2), if_neg (fun e => absurd e.1 (by decide)), if_neg (by decide)]
theorem spot_call {j : Nat} (h : ¬ j = 0) : spotOf sCall j = ⟨fArgs, (j : Int) - 1, sCall⟩ := by
  unfold spotOf
  rw [if_neg (fun e => absurd e.1 (by decide)), if_neg (fun e => absurd e.1 (by decide)), if_neg (fun e => h e.2), if_pos rfl]
theorem spot_oth {k : ByteArray} (h1 : k ≠ sBin) (h2 : k ≠ sIndex) (h3 : k ≠ sCall) (j : Nat) : spotOf k j = ⟨fX, -1, k⟩ := by
  unfold spotOf
  rw [if_neg (fun e => h1 e.1), if_neg (fun e => h2 e.1), if_neg (fun e => h3 e.1), if_neg h3]
theorem spot_sel (j : Nat) : spotOf sSel j = ⟨fX, -1, sSel⟩ := spot_oth (by decide) (by decide) (by decide) j
theorem Tryz.infoChild : (Tryz.prog.info? 151).map (fun i => (i.zero, i.size, i.bytes)) = some (some (.agg #[.string ⟨#[]⟩, .string ⟨#[]⟩, .slice none 0 0, .string ⟨#[]⟩, .int .i64 0, .string ⟨#[]⟩]), 6, 96) := by kernel_rfl
/-- The children so far. -/
structure ChSo (kd tx : ByteArray) (A : Option Addr) (cp : Nat) (ns : List ANode) (w wr : World) (j g cap : Nat) : Prop where
  row : Row wr g 151 6 j (cellsC (kidsFrom kd 0 (ns.take j))) cap
  lo : w.heap.size < g
  box : Blk wr w.heap.size 24 #[.string kd, .string tx, .slice A ns.length cp]
  below : Below w.heap.size w wr
theorem ChSo.start (kd tx : ByteArray) (A : Option Addr) (cp : Nat) (ns : List ANode) (w : World) : ChSo kd tx A cp ns w ((w.alloc (.cells #[.string kd, .string tx, .slice A ns.length cp] 24)).alloc (.cells #[] 151)) 0 (w.heap.size + 1) 0 where
  row := by
    have := Row.new (w.alloc (.cells #[.string kd, .string tx, .slice A ns.length cp] 24)) 151 6 #[] 0 rfl (Nat.zero_le _)
    rwa [World.size_alloc] at this
  lo := by omega
  box := (Blk.new w _ _).alloc _
  below := ((Below.refl _ _).alloc (Nat.le_refl _) _).alloc (by rw [World.size_alloc]; omega) _
theorem ChSo.step {kd tx : ByteArray} {A : Option Addr} {cp : Nat} {ns : List ANode} {w wr w2 w3 : World} {j g cap g' cap' : Nat} {kid : ANode} {vs : List Value} (h : ChSo kd tx A cp ns w wr j g cap) (hk : ns[j]? = some kid) (h2 : Below wr.heap.size wr w2)
    (hrow : Row w3 g' 151 6 (j + 1) (cellsC (kidsFrom kd 0 (ns.take j)) ++ vs) cap') (hvs : vs = cellsC [(kid, spotOf kd j)]) (hg : w2.grownBy w3 (some g)) (hg' : g' = g ∨ g' = w2.heap.size) : ChSo kd tx A cp ns w w3 (j + 1) g' cap' := by
  subst hvs
  have s1 := h.below.size
  have s2 := h2.size
  have hb := h.box.lt
  have hlo := h.lo
  refine ⟨?_, ?_, ?_, ?_⟩
  · rw [(kidsFrom_take hk).2, cellsC_append]; exact hrow
  · rcases hg' with rfl | rfl <;> omega
  · exact (h.box.below h2 hb).same (hg.block _ (by omega) (fun e => by cases e; omega))
  · refine (h.below.trans (h2.mono s1)).grown hg (by omega) (fun k hk => by cases hk; omega)
/-- What spec.children answers: a row of its own. -/
def MadeC (cs : List (ANode × Spot)) (w : World) (e : Ending) (w' : World) : Prop := ∃ g cap, e = .returned (.slice (some ⟨g, 0, none⟩) cs.length cap) ∧ Row w' g 151 6 cs.length (cellsC cs) cap ∧ w.heap.size ≤ g ∧ Below w.heap.size w w'
end Go.Proofs.YtgimbgpebpippaaGreatDoor
