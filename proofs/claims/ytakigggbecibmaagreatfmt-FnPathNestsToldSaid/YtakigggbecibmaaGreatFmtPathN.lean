/- What the closure of PathEnclosingInterval holds; is[tokenNode]. -/
import Derived.Test.YtakigggbecibmaaGreatFmtPathH
namespace Go.Proofs.YtakigggbecibmaaGreatFmt
open Go.RowKit
set_option maxRecDepth 100000
set_option maxHeartbeats 4000000

theorem Tryz.tokHit (v : Value) (w : World) : (Instr.typeAssert (.iface 62 v) 20 62 true).run Tryz.prog w = .ok (.tuple #[v, .bool true]) w := by
  simp [Instr.typeAssert, run_underlying Tryz.underlying62]
theorem Tryz.tokMiss (v : Value) (t : TypeId) (w : World) (h : t ≠ 62) : (Instr.typeAssert (.iface t v) 20 62 true).run Tryz.prog w = .ok (.tuple #[.agg #[.int .i64 0, .int .i64 0], .bool false]) w := by
  have hz : ∀ w, (zeroValue 62).run Tryz.prog w = .ok (.agg #[.int .i64 0, .int .i64 0]) w := fun _ => by kernel_rfl
  simp [Instr.typeAssert, run_underlying Tryz.underlying62, h, hz]
attribute [local go_sem] Tryz.tokHit Tryz.tokMiss Tryz.taMissFuncDecl
theorem isTok_yes (w : World) (a b : Int) : Calls Tryz.prog 27 #[tokV a b] w fun e w' => e = .returned (.bool true) ∧ Below w.heap.size w w' := by
  go_enter Tryz.func27, Tryz.ntmps27
  go_wp2_with fail
  go_ret
  exact ⟨rfl, by go_grown⟩
theorem isTok_no (w : World) (t : TypeId) (u : Value) (h : t ≠ 62) : Calls Tryz.prog 27 #[.iface t u] w fun e w' => e = .returned (.bool false) ∧ Below w.heap.size w w' := by
  go_enter Tryz.func27, Tryz.ntmps27
  go_wp2_with fail
  go_ret
  exact ⟨rfl, by go_grown⟩

abbrev visFn (bp bs be bv : Nat) : Value := .func (.func 25) #[] #[ptr bp, ptr bs, ptr be, ptr bv]
/-- The path so far, the interval, the closure itself. -/
structure PathSt (w : World) (B bp bs be bv : Nat) (a b : Int) (v : Value) (xs : List Value) : Prop where
  pbox : Blk w bp 45 #[v]
  sbox : Blk w bs 50 #[.int .i64 a]
  ebox : Blk w be 50 #[.int .i64 b]
  vbox : Blk w bv 57 #[visFn bp bs be bv]
  lst : Lst w B 52 v xs
  far : v.ownBlock ≠ some bp ∧ v.ownBlock ≠ some bs ∧ v.ownBlock ≠ some be ∧ v.ownBlock ≠ some bv
  lo : B ≤ bp ∧ B ≤ bs ∧ B ≤ be ∧ B ≤ bv
  ne : bp ≠ bs ∧ bp ≠ be ∧ bp ≠ bv ∧ bs ≠ be ∧ bs ≠ bv ∧ be ≠ bv
theorem PathSt.below {w w' : World} {B bp bs be bv : Nat} {a b : Int} {v : Value} {xs : List Value} (h : PathSt w B bp bs be bv a b v xs) (hb : Below w.heap.size w w') : PathSt w' B bp bs be bv a b v xs :=
  ⟨h.pbox.below hb h.pbox.lt, h.sbox.below hb h.sbox.lt, h.ebox.below hb h.ebox.lt, h.vbox.below hb h.vbox.lt, h.lst.below hb, h.far, h.lo, h.ne⟩
theorem Lst.set_far {w : World} {B : Nat} {t : TypeId} {v : Value} {xs : List Value} (h : Lst w B t v xs) {k : Nat} (hk : v.ownBlock ≠ some k) (u : Value) : Lst (w.setCell ⟨k, 0, none⟩ u) B t v xs := by
  rcases h with h | ⟨g, cap, rfl, hr, hb⟩
  · exact .inl h
  · refine .inr ⟨g, cap, rfl, hr.same (Below.heap_setCell _ _ _ _ ?_), hb⟩
    intro e
    exact hk (by simp [Value.ownBlock, e])
theorem PathSt.setS {w : World} {B bp bs be bv : Nat} {a b : Int} {v : Value} {xs : List Value} (h : PathSt w B bp bs be bv a b v xs) (a' : Int) : PathSt (w.setCell ⟨bs, 0, none⟩ (.int .i64 a')) B bp bs be bv a' b v xs := by
  obtain ⟨n1, n2, n3, n4, n5, n6⟩ := h.ne
  exact ⟨h.pbox.far (by exact n1) _, by simpa using h.sbox.set_ 0 (.int .i64 a'), h.ebox.far (by exact n4.symm) _, h.vbox.far (by exact n5.symm) _, h.lst.set_far h.far.2.1 _, h.far, h.lo, h.ne⟩
theorem PathSt.setE {w : World} {B bp bs be bv : Nat} {a b : Int} {v : Value} {xs : List Value} (h : PathSt w B bp bs be bv a b v xs) (b' : Int) : PathSt (w.setCell ⟨be, 0, none⟩ (.int .i64 b')) B bp bs be bv a b' v xs := by
  obtain ⟨n1, n2, n3, n4, n5, n6⟩ := h.ne
  exact ⟨h.pbox.far (by exact n2) _, h.sbox.far (by exact n4) _, by simpa using h.ebox.set_ 0 (.int .i64 b'), h.vbox.far (by exact n6.symm) _, h.lst.set_far h.far.2.2.1 _, h.far, h.lo, h.ne⟩
theorem PathSt.app {w w2 w3 : World} {B bp bs be bv : Nat} {a b : Int} {v u : Value} {xs : List Value} {g' cap' : Nat} (h : PathSt w B bp bs be bv a b v xs) (hB : B ≤ w.heap.size) (h0 : Below w.heap.size w w2)
    (hrow : Row w3 g' 52 1 (xs.length + 1) (xs ++ [u]) cap') (hg : w2.grownBy w3 v.ownBlock) (hg' : v.ownBlock = some g' ∨ g' = w2.heap.size) : w3.cell? ⟨bp, 0, none⟩ = some v ∧ w3.frozen? ⟨bp, 0, none⟩ = false ∧
      PathSt (w3.setCell ⟨bp, 0, none⟩ (.slice (some ⟨g', 0, none⟩) (xs.length + 1) cap')) B bp bs be bv a b (.slice (some ⟨g', 0, none⟩) (xs.length + 1) cap') (xs ++ [u]) ∧ Below B w (w3.setCell ⟨bp, 0, none⟩ (.slice (some ⟨g', 0, none⟩) (xs.length + 1) cap')) := by
  obtain ⟨n1, n2, n3, n4, n5, n6⟩ := h.ne
  obtain ⟨f1, f2, f3, f4⟩ := h.far
  have s0 := h0.size
  have l1 := h.pbox.lt
  have l2 := h.sbox.lt
  have l3 := h.ebox.lt
  have l4 := h.vbox.lt
  have hk : ∀ k, k < w.heap.size → v.ownBlock ≠ some k → g' ≠ k := by
    intro k hk hv e
    rcases hg' with e2 | e2
    · exact hv (by rw [e2, e])
    · omega
  have hs : ∀ k, k < w.heap.size → v.ownBlock ≠ some k → w3.heap[k]? = w.heap[k]? := fun k hk hv => (hg.block k (by omega) (fun e => hv e.symm)).trans (h0.block k hk)
  have hBg : B ≤ g' := by
    rcases hg' with e | e
    · rcases h.lst with ⟨hv, _⟩ | ⟨g, cap, hv, _, hb⟩
      · rw [hv] at e; cases e
      · rw [hv] at e
        have : g = g' := by simpa [Value.ownBlock] using e
        omega
    · omega
  have hb := h.pbox.same (hs bp l1 f1)
  refine ⟨hb.cell 0, hb.frozen 0, ⟨?_, (h.sbox.same (hs bs l2 f2)).far (by exact n1.symm) _, (h.ebox.same (hs be l3 f3)).far (by exact n2.symm) _, (h.vbox.same (hs bv l4 f4)).far (by exact n3.symm) _, .inr ⟨g', cap', by simp, ?_, hBg⟩, ?_, h.lo, h.ne⟩, ?_⟩
  · simpa using hb.set_ 0 (.slice (some ⟨g', 0, none⟩) (xs.length + 1) cap')
  · have hr : Row (w3.setCell ⟨bp, 0, none⟩ (.slice (some ⟨g', 0, none⟩) (xs.length + 1) cap')) g' 52 1 (xs.length + 1) (xs ++ [u]) cap' := hrow.same (Below.heap_setCell _ _ _ _ (by exact hk bp l1 f1))
    simpa using hr
  · exact ⟨by simpa [Value.ownBlock] using hk bp l1 f1, by simpa [Value.ownBlock] using hk bs l2 f2, by simpa [Value.ownBlock] using hk be l3 f3, by simpa [Value.ownBlock] using hk bv l4 f4⟩
  · refine Below.setCell ?_ (by exact h.lo.1) _
    refine (h0.mono hB).grown hg (by omega) ?_
    intro k hk
    rcases h.lst with ⟨hv, _⟩ | ⟨g, cap, hv, _, hb⟩
    · rw [hv] at hk; cases hk
    · rw [hv] at hk
      have : g = k := by simpa [Value.ownBlock] using hk
      omega
end Go.Proofs.YtakigggbecibmaaGreatFmt
