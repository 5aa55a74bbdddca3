/- The clients of FnApply and FnApplyOne: the functions that note the calls. -/
import Derived.Test.YtgimbgpebpippaaGreatDoorApLst
import Derived.Test.YtgimbgpebpippaaGreatDoorApL
import Derived.Test.YtgimbgpebpippaaGreatDoorFrLs
import Derived.Deep.RegionLaw
namespace Go.Proofs.YtgimbgpebpippaaGreatDoor
open Go.RowKit
set_option maxRecDepth 100000
set_option maxHeartbeats 4000000

/-- What visitOf tells of a cursor. -/
theorem visit_any {w : World} {ba : Nat} {fp fq : Value} {own : List Nat} {x : AE} {p : Option AE} {pv : Value} {nm : ByteArray} {it : Value} {ix st idx : Int} (post : Bool) (h : AtCur w ba fp fq own x p pv nm it ix st idx) :
    Calls Tryz.prog 32 #[cur ba, .bool post] w fun e w' => e = .returned (Vst.agg ⟨post, x.node.kind, x.node.text, spotAt p nm idx⟩) ∧ Below w.heap.size w w' := by
  have hp := h.pin
  cases p with
  | none =>
    obtain ⟨u, rfl⟩ := hp
    exact (visitRoot_any x post h.app h.xin h.glob).mono (fun e w' hs => hs)
  | some P =>
    obtain ⟨rfl, hP⟩ := hp
    exact (visitIn_any x P post h.app h.idx h.xin hP h.glob).mono (fun e w' hs => hs)
theorem Tryz.infoVisit : (Tryz.prog.info? 54).map (fun i => (i.zero, i.size, i.bytes)) = some (some (.agg #[.bool false, .string ⟨#[]⟩, .string ⟨#[]⟩, .string ⟨#[]⟩, .int .i64 0, .string ⟨#[]⟩]), 6, 80) := by kernel_rfl
theorem info_parts {i : Option TypeInfo} {z : Option Value} {s b : Nat} (h : i.map (fun i => (i.zero, i.size, i.bytes)) = some (z, s, b)) : ∃ j, i = some j ∧ j.zero = z ∧ j.size = s ∧ j.bytes = b := by
  cases i with
  | none => cases h
  | some j =>
    simp only [Option.map_some, Option.some.injEq, Prod.mk.injEq] at h
    exact ⟨j, rfl, h.1, h.2.1, h.2.2⟩
theorem LstS.kept {w w' : World} {B : Nat} {t : TypeId} {size n : Nat} {v : Value} {xs : List Value} (h : LstS w B t size n v xs) (hb : Kept [] w w') : LstS w' B t size n v xs :=
  h.same (fun g hg => hb.2 g (h.lt g hg).1 (by simp))
theorem beq_decide (a b : ByteArray) : (a.toList == b.toList) = decide (a = b) := by
  by_cases h : a = b
  · rw [beq_of_eq h]; simp [h]
  · rw [beq_of_ne h]; simp [h]
/-- The list of visits in its box. -/
structure Outs (w : World) (bo : Nat) (v : Value) (vs : List Vst) : Prop where
  box : Blk w bo 27 #[v]
  lst : LstS w 0 54 6 vs.length v (cellsV vs)
  far : v.ownBlock ≠ some bo
abbrev rowOf (v : Value) : List Nat := v.ownBlock.toList
theorem mem_rowOf {v : Value} {b : Nat} : b ∈ rowOf v ↔ v.ownBlock = some b := by
  unfold rowOf
  cases v.ownBlock <;> simp [eq_comm]
/-- Behind an append of one visit, and the store into the box. -/
theorem Outs.next {w w2 w3 : World} {bo : Nat} {v : Value} {vs : List Vst} {x : Vst} {g' cap' : Nat} (h : Outs w bo v vs) (h0 : Kept [] w w2) (hrow : Row w3 g' 54 6 (vs.length + 1) (cellsV vs ++ x.cells) cap') (hg : w2.grownBy w3 v.ownBlock) (hg' : v.ownBlock = some g' ∨ g' = w2.heap.size) :
    w3.cell? ⟨bo, 0, none⟩ = some v ∧ w3.frozen? ⟨bo, 0, none⟩ = false ∧ Outs (w3.setCell ⟨bo, 0, none⟩ (.slice (some ⟨g', 0, none⟩) (vs.length + 1) cap')) bo (.slice (some ⟨g', 0, none⟩) (vs.length + 1) cap') (vs ++ [x]) ∧
      Kept (bo :: rowOf v) w (w3.setCell ⟨bo, 0, none⟩ (.slice (some ⟨g', 0, none⟩) (vs.length + 1) cap')) ∧ Kept (rowOf v) w w3 ∧ (g' ∈ rowOf v ∨ w.heap.size ≤ g') := by
  have hb := h.box.lt
  have s0 := h0.1
  have sg := hg.size
  have hk : Kept (rowOf v) w w3 := ⟨by omega, fun k hk hn => (hg.block k (by omega) (fun e => hn (mem_rowOf.2 e.symm))).trans (h0.2 k hk (by simp)), hg.os.trans h0.os, hg.tape.trans h0.tape, hg.output.trans h0.output⟩
  have hbox := h.box.same (hk.2 bo hb (fun hm => h.far (mem_rowOf.1 hm)))
  have hne : g' ≠ bo := by
    intro e
    rcases hg' with h1 | h1
    · exact h.far (by rw [h1, e])
    · omega
  refine ⟨hbox.cell 0, hbox.frozen 0, ⟨by simpa using hbox.set_ 0 _, ?_, ?_⟩, ?_, hk, ?_⟩
  · refine .inr ⟨g', cap', by simp, ?_, Nat.zero_le _⟩
    have : cellsV (vs ++ [x]) = cellsV vs ++ x.cells := by simp [cellsV_append, cellsV]
    rw [this, List.length_append, List.length_singleton]
    exact hrow.same (Below.heap_setCell _ _ _ _ (by exact hne))
  · simpa [Value.ownBlock] using hne
  · exact Kept.set (p := ⟨bo, 0, none⟩) (hk.more (own' := bo :: rowOf v) (fun b hb => List.mem_cons_of_mem _ hb)) (.inl List.mem_cons_self) _
  · rcases hg' with h1 | h1
    · exact .inl (mem_rowOf.2 h1)
    · exact .inr (by omega)
/-- What the two functions of Applied hold. -/
structure ClA (q : Ask) (bo be bs bt : Nat) (s : VSt) (w : World) (own : List Nat) : Prop where
  ex : ∃ v, own = bo :: be :: bs :: bt :: rowOf v ∧ Outs w bo v s.calls ∧ be ∉ rowOf v ∧ bs ∉ rowOf v ∧ bt ∉ rowOf v
  cnt : Blk w be 2 #[.int .i64 s.ends]
  skip : Blk w bs 9 #[.string q.skip]
  stop : Blk w bt 2 #[.int .i64 q.stop]
  ne : bo ≠ be ∧ bo ≠ bs ∧ bo ≠ bt ∧ be ≠ bs ∧ be ≠ bt
theorem Outs.same {w w' : World} {bo : Nat} {v : Value} {vs : List Vst} (h : Outs w bo v vs) (hb : w'.heap[bo]? = w.heap[bo]?) (hr : ∀ g ∈ rowOf v, w'.heap[g]? = w.heap[g]?) : Outs w' bo v vs :=
  ⟨h.box.same hb, h.lst.same (fun g hg => hr g (mem_rowOf.2 hg)), h.far⟩
theorem AtCur.heapy {w w' : World} {ba : Nat} {fp fq : Value} {own : List Nat} {x : AE} {p : Option AE} {pv : Value} {nm : ByteArray} {it : Value} {ix st idx : Int} (h : AtCur w ba fp fq own x p pv nm it ix st idx) (e : Sm w w') : AtCur w' ba fp fq own x p pv nm it ix st idx where
  app := Blk.same h.app (by rw [e.1])
  xin := AE.In.same x (fun b _ => by rw [e.1]) h.xin
  pin := by
    have h1 := h.pin
    cases p with
    | none => exact h1
    | some P => exact ⟨h1.1, AE.In.same P (fun b _ => by rw [e.1]) h1.2⟩
  idx := h.idx
  glob := ⟨fun i hi => (World.cell?_of_block (by rw [e.1])).trans (h.glob.1 i hi), by rw [e.1]; exact h.glob.2⟩
  aw := h.aw
  ax := h.ax
  ap := h.ap
theorem Kept.nil_of {w w' w2 : World} (h : Below w'.heap.size w' w2) (e : Sm w w') : Kept [] w w2 := ⟨by rw [← e.1]; exact h.size, fun k hk _ => by rw [h.block k (by rw [e.1]; exact hk), e.1], h.os.trans e.2.1, h.tape.trans e.2.2.1, h.output.trans e.2.2.2⟩
theorem Kept.nil_cell {w w2 : World} (h : Kept [] w w2) {p : Addr} (hp : p.block < w.heap.size) : w2.cell? p = w.cell? p := World.cell?_of_block (h.2 _ hp (by simp))
section
variable {q : Ask} {bo be bs bt : Nat}
theorem ClA.same {s : VSt} {w w' : World} {own : List Nat} (h : ClA q bo be bs bt s w own) (hk : ∀ k ∈ own, w'.heap[k]? = w.heap[k]?) : ClA q bo be bs bt s w' own := by
  obtain ⟨v, rfl, ho, h1, h2, h3⟩ := h.ex
  exact ⟨⟨v, rfl, ho.same (hk _ (by simp)) (fun g hg => hk g (by simp only [List.mem_cons]; exact .inr (.inr (.inr (.inr hg))))), h1, h2, h3⟩, h.cnt.same (hk _ (by simp)), h.skip.same (hk _ (by simp)), h.stop.same (hk _ (by simp)), h.ne⟩
theorem ClA.lt {s : VSt} {w : World} {own : List Nat} (h : ClA q bo be bs bt s w own) : ∀ b ∈ own, b < w.heap.size := by
  obtain ⟨v, rfl, ho, h1, h2, h3⟩ := h.ex
  intro b hb
  simp only [List.mem_cons] at hb
  rcases hb with rfl | rfl | rfl | rfl | hb
  · exact ho.box.lt
  · exact h.cnt.lt
  · exact h.skip.lt
  · exact h.stop.lt
  · exact (ho.lst.lt b (mem_rowOf.1 hb)).1
/-- Behind a note of one of the functions of Applied. -/
theorem ClA.noted {s s' : VSt} {w w4 : World} {v : Value} {g' n' cap' : Nat} {x : Vst} (hC : ClA q bo be bs bt s w (bo :: be :: bs :: bt :: rowOf v)) (h1 : be ∉ rowOf v) (h2 : bs ∉ rowOf v) (h3 : bt ∉ rowOf v) (hs : s'.calls = s.calls ++ [x])
    (n2 : Outs w4 bo (.slice (some ⟨g', 0, none⟩) n' cap') (s.calls ++ [x])) (n3 : Kept (bo :: be :: rowOf v) w w4) (hcnt : Blk w4 be 2 #[.int .i64 s'.ends]) (n5 : g' ∈ rowOf v ∨ w.heap.size ≤ g') :
    ClA q bo be bs bt s' w4 (bo :: be :: bs :: bt :: rowOf (.slice (some ⟨g', 0, none⟩) n' cap')) ∧ Kept (bo :: be :: bs :: bt :: rowOf v) w w4 ∧ Grows w.heap.size (bo :: be :: bs :: bt :: rowOf v) (bo :: be :: bs :: bt :: rowOf (.slice (some ⟨g', 0, none⟩) n' cap')) := by
  have lb := hC.cnt.lt
  have ls := hC.skip.lt
  have lt := hC.stop.lt
  obtain ⟨e1, e2, e3, e4, e5⟩ := hC.ne
  have hr : rowOf (.slice (some ⟨g', 0, none⟩) n' cap') = [g'] := rfl
  have hne : ∀ k, k ∉ rowOf v → k < w.heap.size → k ∉ [g'] := fun k hk hlt hm => by
    rw [List.mem_singleton] at hm
    subst hm
    rcases n5 with h | h
    · exact hk h
    · omega
  refine ⟨⟨⟨_, rfl, by rw [hs]; exact n2, by rw [hr]; exact hne _ h1 lb, by rw [hr]; exact hne _ h2 ls, by rw [hr]; exact hne _ h3 lt⟩, hcnt, ?_, ?_, hC.ne⟩, n3.more (fun b hb => ?_), fun b hb => ?_⟩
  · exact hC.skip.same (n3.2 bs ls (by simp only [List.mem_cons, not_or]; exact ⟨fun e => e2 e.symm, fun e => e4 e.symm, h2⟩))
  · exact hC.stop.same (n3.2 bt lt (by simp only [List.mem_cons, not_or]; exact ⟨fun e => e3 e.symm, fun e => e5 e.symm, h3⟩))
  · simp only [List.mem_cons] at hb ⊢
    rcases hb with h | h | h
    · exact .inl h
    · exact .inr (.inl h)
    · exact .inr (.inr (.inr (.inr h)))
  · simp only [hr, List.mem_cons, List.not_mem_nil, or_false] at hb ⊢
    rcases hb with h | h | h | h | h
    · exact .inl (.inl h)
    · exact .inl (.inr (.inl h))
    · exact .inl (.inr (.inr (.inl h)))
    · exact .inl (.inr (.inr (.inr (.inl h))))
    · subst h
      rcases n5 with h | h
      · exact .inl (.inr (.inr (.inr (.inr h))))
      · exact .inr h
theorem applied1_any (hq : q.pre = true) {w : World} {ba : Nat} {fp fq : Value} {own : List Nat} {x : AE} {p : Option AE} {pv : Value} {nm : ByteArray} {it : Value} {ix st idx : Int} {s : VSt} (hC : ClA q bo be bs bt s w own) (hl : s.calls.length ≤ 40000) (h : AtCur w ba fp fq own x p pv nm it ix st idx) :
    Calls Tryz.prog 31 #[cur ba, .pointer (some ⟨bo, 0, none⟩), .pointer (some ⟨bs, 0, none⟩)] w (CbSo (ClA q bo be bs bt) own w (preV q x.node.kind x.node.text (spotAt p nm idx) s) (decide (x.node.kind ≠ q.skip))) := by
  obtain ⟨v, rfl, ho, h1, h2, h3⟩ := hC.ex
  obtain ⟨i0, hi0, hz0, hz1, hz2⟩ := info_parts Tryz.infoVisit
  have HV := Lib.hid (visit_any false h)
  have HI := Lib.hid (And.intro hi0 (And.intro hz0 (And.intro hz1 hz2)))
  have H := Lib.hid (And.intro hC (And.intro ho (And.intro h1 (And.intro h2 (And.intro h3 hl)))))
  have c0 : w.cell? ⟨bo, 0, none⟩ = some v := ho.box.cell 0
  have c1 : w.cell? ⟨bs, 0, none⟩ = some (.string q.skip) := hC.skip.cell 0
  have zo := ho.box.lt
  have zs := hC.skip.lt
  obtain ⟨kd, hkd⟩ : ∃ k, x.node.kind = k := ⟨_, rfl⟩
  obtain ⟨tx, htx⟩ : ∃ k, x.node.text = k := ⟨_, rfl⟩
  obtain ⟨sp, hsp⟩ : ∃ k, spotAt p nm idx = k := ⟨_, rfl⟩
  rw [hkd, htx, hsp] at HV ⊢
  clear hi0 hz0 hz1 hz2 hC ho h1 h2 h3 hl h hkd htx hsp
  go_enter Tryz.func31, Tryz.ntmps31
  go_wp2_with fail
  refine HV.out.mono ?_
  rintro e w1 ⟨rfl, hb1⟩
  have d0 := (hb1.cell (p := ⟨bo, 0, none⟩) zo).trans c0
  have d1 := (hb1.cell (p := ⟨bs, 0, none⟩) zs).trans c1
  have zo1 := Nat.lt_of_lt_of_le zo hb1.size
  have zs1 := Nat.lt_of_lt_of_le zs hb1.size
  have HB := Lib.hid hb1
  clear c0 c1 hb1 zo zs
  unfold Vst.agg
  go_wp2_with (at_builtin; refine wpList_append_lsts _ rfl (.tmp 8) (.tmp 10) 27 rfl 54 i0 _ 6 80 Tryz.underlying27 HI.out.1 HI.out.2.1 HI.out.2.2.1 HI.out.2.2.2 rfl (by decide) 0 s.calls.length v (cellsV s.calls) rfl ?c1 ⟨w1.heap.size + 1, 0, none⟩ 1 1 (Vst.cells ⟨false, kd, tx, sp⟩) rfl rfl (by decide) ?c3 ?c4 ?c5 ?c6 ?_)
  case c1 => exact H.out.2.1.lst.kept (.of <| (HB.out.alloc HB.out.size _).alloc (by rw [World.size_alloc]; have := HB.out.size; omega) _)
  case c3 => exact cells_new rfl _ (by rw [World.size_alloc])
  case c4 => exact Vst.cells_one _
  case c5 => have := H.out.2.2.2.2.2; unfold maxLen; omega
  case c6 => have := H.out.2.2.2.2.2; omega
  intro g' cap' w3 hrow hg hg'
  have hsz := HB.out.size
  have hb2 : Below w.heap.size w ((w1.alloc (.cells #[.bool false, .string kd, .string tx, .string sp.field, .int .i64 sp.index, .string sp.parent] 54)).alloc (.cells #[.bool false, .string kd, .string tx, .string sp.field, .int .i64 sp.index, .string sp.parent] 54)) := (HB.out.alloc HB.out.size _).alloc (by rw [World.size_alloc]; omega) _
  obtain ⟨n0, n1, n2, n3, n4, n5⟩ := H.out.2.1.next (x := ⟨false, kd, tx, sp⟩) (.of hb2) hrow hg (by rw [World.size_alloc, World.size_alloc]; exact hg')
  have vb : Blk w3 w1.heap.size 54 #[.bool false, .string kd, .string tx, .string sp.field, .int .i64 sp.index, .string sp.parent] := ((Blk.new w1 _ _).alloc _).same (hg.block _ (by rw [World.size_alloc, World.size_alloc]; omega) (fun e => by have := (H.out.2.1.lst.lt _ e.symm).1; omega))
  have v1 : w3.cell? ⟨w1.heap.size, 1, none⟩ = some (.string kd) := vb.cell 1
  have sk3 : w3.cell? ⟨bs, 0, none⟩ = some (.string q.skip) := (H.out.1.skip.same (n4.2 bs H.out.1.skip.lt H.out.2.2.2.1)).cell 0
  have zo3 := lt_of_cell n0
  have zs3 := lt_of_cell sk3
  have hbs : bs ≠ bo := fun e => H.out.1.ne.2.1 e.symm
  have hvo : w1.heap.size ≠ bo := by have := H.out.2.1.box.lt; omega
  have HN := Lib.hid (And.intro n2 (And.intro n3 n5))
  clear n2 n3 n4 n5 hrow hg hg' hb2 hsz vb
  go_wp2_with fail
  go_ret
  have hcnt := H.out.1.cnt.same (HN.out.2.1.2 be H.out.1.cnt.lt (by simp only [List.mem_cons, not_or]; exact ⟨fun e => H.out.1.ne.1 e.symm, H.out.2.2.1⟩))
  obtain ⟨r1, r2, r3⟩ := H.out.1.noted (s' := preV q kd tx sp s) H.out.2.2.1 H.out.2.2.2.1 H.out.2.2.2.2.1 (by unfold preV; rw [if_pos hq]) HN.out.1 (HN.out.2.1.more (fun b hb => by simp only [List.mem_cons] at hb ⊢; rcases hb with h | h; exact .inl h; exact .inr (.inr h))) (by rw [← (preV_ge q kd tx sp s).2]; exact hcnt) HN.out.2.2
  exact ⟨_, by rw [beq_decide]; simp, r1, r2, r3⟩
end
end Go.Proofs.YtgimbgpebpippaaGreatDoor
