/- impl.AppliedOne: the visits of the walk. -/
import Derived.Test.YtgimbgpebpippaaGreatDoorApT
import Derived.Test.YtgimbgpebpippaaGreatDoorApQ
namespace Go.Proofs.YtgimbgpebpippaaGreatDoor
open Go.RowKit
set_option maxRecDepth 100000
set_option maxHeartbeats 8000000
/-- What the function of AppliedOne holds. -/
structure ClO (q : Ask) (bp bo bt bs : Nat) (s : VSt) (w : World) (own : List Nat) : Prop where
  ex : ∃ v, own = bo :: bp :: bt :: bs :: rowOf v ∧ Outs w bo v s.calls ∧ bp ∉ rowOf v ∧ bt ∉ rowOf v ∧ bs ∉ rowOf v
  post : Blk w bp 4 #[.bool q.post]
  stop : Blk w bt 2 #[.int .i64 q.stop]
  skip : Blk w bs 9 #[.string q.skip]
  ne : bo ≠ bp ∧ bo ≠ bt ∧ bo ≠ bs
  cnt : q.post = true → s.ends = s.calls.length
section
variable {q : Ask} {bp bo bt bs : Nat}
theorem ClO.same {s : VSt} {w w' : World} {own : List Nat} (h : ClO q bp bo bt bs s w own) (hk : ∀ k ∈ own, w'.heap[k]? = w.heap[k]?) : ClO q bp bo bt bs s w' own := by
  obtain ⟨v, rfl, ho, h1, h2, h3⟩ := h.ex
  exact ⟨⟨v, rfl, ho.same (hk _ (by simp)) (fun g hg => hk g (by simp only [List.mem_cons]; exact .inr (.inr (.inr (.inr hg))))), h1, h2, h3⟩, h.post.same (hk _ (by simp)), h.stop.same (hk _ (by simp)), h.skip.same (hk _ (by simp)), h.ne, h.cnt⟩
theorem ClO.lt {s : VSt} {w : World} {own : List Nat} (h : ClO q bp bo bt bs s w own) : ∀ b ∈ own, b < w.heap.size := by
  obtain ⟨v, rfl, ho, h1, h2, h3⟩ := h.ex
  intro b hb
  simp only [List.mem_cons] at hb
  rcases hb with rfl | rfl | rfl | rfl | hb
  · exact ho.box.lt
  · exact h.post.lt
  · exact h.stop.lt
  · exact h.skip.lt
  · exact (ho.lst.lt b (mem_rowOf.1 hb)).1
theorem ClO.noted {s s' : VSt} {w w4 : World} {v : Value} {g' n' cap' : Nat} {x : Vst} (hC : ClO q bp bo bt bs s w (bo :: bp :: bt :: bs :: rowOf v)) (h1 : bp ∉ rowOf v) (h2 : bt ∉ rowOf v) (h3 : bs ∉ rowOf v) (hs : s'.calls = s.calls ++ [x]) (he : q.post = true → s'.ends = s.ends + 1)
    (n2 : Outs w4 bo (.slice (some ⟨g', 0, none⟩) n' cap') (s.calls ++ [x])) (n3 : Kept (bo :: rowOf v) w w4) (n5 : g' ∈ rowOf v ∨ w.heap.size ≤ g') :
    ClO q bp bo bt bs s' w4 (bo :: bp :: bt :: bs :: rowOf (.slice (some ⟨g', 0, none⟩) n' cap')) ∧ Kept (bo :: bp :: bt :: bs :: rowOf v) w w4 ∧ Grows w.heap.size (bo :: bp :: bt :: bs :: rowOf v) (bo :: bp :: bt :: bs :: rowOf (.slice (some ⟨g', 0, none⟩) n' cap')) := by
  have lp := hC.post.lt
  have lt := hC.stop.lt
  have ls := hC.skip.lt
  obtain ⟨e1, e2, e3⟩ := hC.ne
  have hr : rowOf (.slice (some ⟨g', 0, none⟩) n' cap') = [g'] := rfl
  have hne : ∀ k, k ∉ rowOf v → k < w.heap.size → k ∉ [g'] := fun k hk hlt hm => by
    rw [List.mem_singleton] at hm
    subst hm
    rcases n5 with h | h
    · exact hk h
    · omega
  have hkeep : ∀ k, k < w.heap.size → bo ≠ k → k ∉ rowOf v → w4.heap[k]? = w.heap[k]? := fun k hk hn hm => n3.2 k hk (by simp only [List.mem_cons, not_or]; exact ⟨fun e => hn e.symm, hm⟩)
  refine ⟨⟨⟨_, rfl, by rw [hs]; exact n2, by rw [hr]; exact hne _ h1 lp, by rw [hr]; exact hne _ h2 lt, by rw [hr]; exact hne _ h3 ls⟩, hC.post.same (hkeep _ lp e1 h1), hC.stop.same (hkeep _ lt e2 h2), hC.skip.same (hkeep _ ls e3 h3), hC.ne, fun hq => ?_⟩, n3.more (fun b hb => ?_), fun b hb => ?_⟩
  · rw [he hq, hC.cnt hq, hs]; simp
  · simp only [List.mem_cons] at hb ⊢
    rcases hb with h | h
    · exact .inl h
    · exact .inr (.inr (.inr (.inr h)))
  · simp only [hr, List.mem_cons, List.not_mem_nil, or_false] at hb ⊢
    rcases hb with h | h | h | h | h
    · exact .inl (.inl h)
    · exact .inl (.inr (.inl h))
    · exact .inl (.inr (.inr (.inl h)))
    · exact .inl (.inr (.inr (.inr (.inl h))))
    · subst h
      rcases n5 with h | h
      · exact .inl (.inr (.inr (.inr (.inr h))))
      · exact .inr h
theorem note_any {w : World} {ba : Nat} {fp fq : Value} {own : List Nat} {x : AE} {p : Option AE} {pv : Value} {nm : ByteArray} {it : Value} {ix st idx : Int} {s s' : VSt} {r : Bool} (hC : ClO q bp bo bt bs s w own) (hl : s.calls.length ≤ 40000) (h : AtCur w ba fp fq own x p pv nm it ix st idx)
    (hs : s'.calls = s.calls ++ [⟨q.post, x.node.kind, x.node.text, spotAt p nm idx⟩]) (he : q.post = true → s'.ends = s.ends + 1) (hr : r = if q.post = true then decide ((s.calls.length : Int) + 1 ≠ q.stop) else decide (x.node.kind ≠ q.skip)) :
    Calls Tryz.prog 37 #[cur ba, .pointer (some ⟨bp, 0, none⟩), .pointer (some ⟨bo, 0, none⟩), .pointer (some ⟨bt, 0, none⟩), .pointer (some ⟨bs, 0, none⟩)] w (CbSo (ClO q bp bo bt bs) own w s' r) := by
  obtain ⟨v, rfl, ho, h1, h2, h3⟩ := hC.ex
  obtain ⟨i0, hi0, hz0, hz1, hz2⟩ := info_parts Tryz.infoVisit
  obtain ⟨pb, hpb⟩ : ∃ b, q.post = b := ⟨_, rfl⟩
  have HV := Lib.hid (visit_any pb h)
  have HI := Lib.hid (And.intro hi0 (And.intro hz0 (And.intro hz1 hz2)))
  have H := Lib.hid (And.intro hC (And.intro ho (And.intro h1 (And.intro h2 (And.intro h3 hl)))))
  have c0 : w.cell? ⟨bo, 0, none⟩ = some v := ho.box.cell 0
  have c1 : w.cell? ⟨bs, 0, none⟩ = some (.string q.skip) := hC.skip.cell 0
  have c2 : w.cell? ⟨bp, 0, none⟩ = some (.bool pb) := by rw [← hpb]; exact hC.post.cell 0
  have c3 : w.cell? ⟨bt, 0, none⟩ = some (.int .i64 q.stop) := hC.stop.cell 0
  have zo := ho.box.lt
  have zs := hC.skip.lt
  have zp := hC.post.lt
  have zt := hC.stop.lt
  obtain ⟨kd, hkd⟩ : ∃ k, x.node.kind = k := ⟨_, rfl⟩
  obtain ⟨tx, htx⟩ : ∃ k, x.node.text = k := ⟨_, rfl⟩
  obtain ⟨sp, hsp⟩ : ∃ k, spotAt p nm idx = k := ⟨_, rfl⟩
  rw [hkd, htx, hsp] at HV hs
  rw [hkd] at hr
  rw [hpb] at hs hr
  have HS := Lib.hid (And.intro hs (And.intro he (And.intro hr hpb)))
  clear hi0 hz0 hz1 hz2 hC ho h1 h2 h3 hl h hkd htx hsp hs he hr hpb
  go_enter Tryz.func37, Tryz.ntmps37
  go_wp2_with fail
  refine HV.out.mono ?_
  rintro e w1 ⟨rfl, hb1⟩
  have d0 := (hb1.cell (p := ⟨bo, 0, none⟩) zo).trans c0
  have d1 := (hb1.cell (p := ⟨bs, 0, none⟩) zs).trans c1
  have d2 := (hb1.cell (p := ⟨bp, 0, none⟩) zp).trans c2
  have d3 := (hb1.cell (p := ⟨bt, 0, none⟩) zt).trans c3
  have zo1 := Nat.lt_of_lt_of_le zo hb1.size
  have zs1 := Nat.lt_of_lt_of_le zs hb1.size
  have HB := Lib.hid hb1
  clear c0 c1 c2 c3 hb1 zo zs
  unfold Vst.agg
  go_wp2_with (at_builtin; refine wpList_append_lsts _ rfl (.tmp 11) (.tmp 13) 27 rfl 54 i0 _ 6 80 Tryz.underlying27 HI.out.1 HI.out.2.1 HI.out.2.2.1 HI.out.2.2.2 rfl (by decide) 0 s.calls.length v (cellsV s.calls) rfl ?c1 ⟨w1.heap.size + 1, 0, none⟩ 1 1 (Vst.cells ⟨pb, kd, tx, sp⟩) rfl rfl (by decide) ?c3 ?c4 ?c5 ?c6 ?_)
  case c1 => exact H.out.2.1.lst.kept (.of <| (HB.out.alloc HB.out.size _).alloc (by rw [World.size_alloc]; have := HB.out.size; omega) _)
  case c3 => exact cells_new rfl _ (by rw [World.size_alloc])
  case c4 => exact Vst.cells_one _
  case c5 => have := H.out.2.2.2.2.2; unfold maxLen; omega
  case c6 => have := H.out.2.2.2.2.2; omega
  intro g' cap' w3 hrow hg hg'
  have hsz := HB.out.size
  have hb2 : Below w.heap.size w ((w1.alloc (.cells #[.bool pb, .string kd, .string tx, .string sp.field, .int .i64 sp.index, .string sp.parent] 54)).alloc (.cells #[.bool pb, .string kd, .string tx, .string sp.field, .int .i64 sp.index, .string sp.parent] 54)) := (HB.out.alloc HB.out.size _).alloc (by rw [World.size_alloc]; omega) _
  obtain ⟨n0, n1, n2, n3, n4, n5⟩ := H.out.2.1.next (x := ⟨pb, kd, tx, sp⟩) (.of hb2) hrow hg (by rw [World.size_alloc, World.size_alloc]; exact hg')
  have vb : Blk w3 w1.heap.size 54 #[.bool pb, .string kd, .string tx, .string sp.field, .int .i64 sp.index, .string sp.parent] := ((Blk.new w1 _ _).alloc _).same (hg.block _ (by rw [World.size_alloc, World.size_alloc]; omega) (fun e => by have := (H.out.2.1.lst.lt _ e.symm).1; omega))
  have v1 : w3.cell? ⟨w1.heap.size, 1, none⟩ = some (.string kd) := vb.cell 1
  have sk3 : w3.cell? ⟨bs, 0, none⟩ = some (.string q.skip) := (H.out.1.skip.same (n4.2 bs H.out.1.skip.lt H.out.2.2.2.2.1)).cell 0
  have sp3 : w3.cell? ⟨bp, 0, none⟩ = some (.bool pb) := ((H.out.1.post.same (n4.2 bp H.out.1.post.lt H.out.2.2.1)).cell 0).trans (by rw [HS.out.2.2.2]; rfl)
  have st3 : w3.cell? ⟨bt, 0, none⟩ = some (.int .i64 q.stop) := (H.out.1.stop.same (n4.2 bt H.out.1.stop.lt H.out.2.2.2.1)).cell 0
  have zo3 := lt_of_cell n0
  have zs3 := lt_of_cell sk3
  have zp3 := lt_of_cell sp3
  have zt3 := lt_of_cell st3
  have hbs : bs ≠ bo := fun e => H.out.1.ne.2.2 e.symm
  have hbp : bp ≠ bo := fun e => H.out.1.ne.1 e.symm
  have hbt : bt ≠ bo := fun e => H.out.1.ne.2.1 e.symm
  have hvo : w1.heap.size ≠ bo := by have := H.out.2.1.box.lt; omega
  have HN := Lib.hid (And.intro n2 (And.intro n3 n5))
  clear n2 n3 n4 n5 hrow hg hg' hb2 hsz vb d0 d1 d2 d3
  obtain ⟨r1, r2, r3⟩ := H.out.1.noted (s' := s') H.out.2.2.1 H.out.2.2.2.1 H.out.2.2.2.2.1 HS.out.1 HS.out.2.1 HN.out.1 HN.out.2.1 HN.out.2.2
  have HR := Lib.hid (And.intro r1 (And.intro r2 r3))
  clear r1 r2 r3
  cases pb
  · go_wp2_with fail
    go_ret
    exact ⟨_, by rw [HS.out.2.2.1, beq_decide]; simp, HR.out.1, HR.out.2.1, HR.out.2.2⟩
  · go_wp2_with fail
    go_ret
    exact ⟨_, by rw [HS.out.2.2.1]; by_cases h : (s.calls.length : Int) + 1 = q.stop <;> simp [h], HR.out.1, HR.out.2.1, HR.out.2.2⟩
end
end Go.Proofs.YtgimbgpebpippaaGreatDoor
namespace Go.Proofs.YtgimbgpebpippaaGreatDoor
open Go.RowKit
set_option maxRecDepth 100000
set_option maxHeartbeats 8000000
theorem Tryz.calls3 (args : Array Value) (w : World) : (callFunc 37 args).run Tryz.prog w = .ok (.enter 37 args) w := by kernel_rfl
abbrev fnO (bp bo bt bs : Nat) : Value := .func (.func 37) #[] #[.pointer (some ⟨bp, 0, none⟩), .pointer (some ⟨bo, 0, none⟩), .pointer (some ⟨bt, 0, none⟩), .pointer (some ⟨bs, 0, none⟩)]
theorem clientO {q : Ask} (h : q.pre = !q.post) (ba bp bo bt bs : Nat) : Client q ba (if q.pre then fnO bp bo bt bs else .nilFunc) (if q.post then fnO bp bo bt bs else .nilFunc) (ClO q bp bo bt bs) where
  kept := fun s w w' own h _ hb => h.same hb
  lt := fun s w own h => h.lt
  pre := fun hp => by
    rw [if_pos hp]
    refine ⟨_, _, rfl, Tryz.calls3, fun w s own x p pv nm it ix st idx hC hl hat => ?_⟩
    have hq : q.post = false := by cases hq : q.post <;> simp_all
    refine note_any (q := q) hC hl hat ?_ (fun e => by rw [hq] at e; cases e) (by rw [if_neg (by rw [hq]; simp)])
    unfold preV; rw [if_pos hp, hq]
  nopre := fun hp => by rw [if_neg (by rw [hp]; simp)]
  post := fun hp => by
    rw [if_pos hp]
    refine ⟨_, _, rfl, Tryz.calls3, fun w s own x p pv nm it ix st idx hC hl _ _ hat => ?_⟩
    refine note_any (q := q) hC hl hat ?_ (fun _ => ?_) ?_
    · unfold postV; rw [if_pos hp, hp]
    · unfold postV; rw [if_pos hp]
    · unfold postV; rw [if_pos hp, if_pos hp, hC.cnt hp]
  nopost := fun hp => by rw [if_neg (by rw [hp]; simp)]
theorem appliedOne_any (n : ANode) (skip : ByteArray) (stop : Int) (post : Bool) (w : World) (L : Nat) (hin : n.In w L) (hL : L ≤ w.heap.size) (hG : Glob w) (hV : V n.erase) (hS : Small n.erase) :
    Calls Tryz.prog 15 #[n.val, .string skip, .int .i64 stop, .bool post] w (MadeV (walkN ⟨skip, stop, !post, post⟩ n.erase top s0).1.calls w) := by
  have HIN := Lib.hid (And.intro hin (And.intro hG (And.intro hV hS)))
  have hmf : ∀ (fn : Fn) (first cap : Array Value) (w : World), (Instr.makeFunc fn first cap).run Tryz.prog w = .ok (.func fn first cap) w := fun _ _ _ _ => rfl
  unfold ANode.val
  clear hin hG hV hS
  have hci : ClO ⟨skip, stop, !post, post⟩ (w.heap.size + 1 + 1 + 1) (w.heap.size + 1 + 1 + 1 + 1 + 1) (w.heap.size + 1 + 1) (w.heap.size + 1) s0 ((((((w.alloc (.cells #[.string n.kind, .string n.text, .slice n.addr n.kids.length n.cap] 24)).alloc (.cells #[.string skip] 9)).alloc (.cells #[.int .i64 stop] 2)).alloc (.cells #[.bool post] 4)).alloc (.cells #[] 54)).alloc (.cells #[.slice (some ⟨w.heap.size + 1 + 1 + 1 + 1, 0, none⟩) 0 0] 27)) [w.heap.size + 1 + 1 + 1 + 1 + 1, w.heap.size + 1 + 1 + 1, w.heap.size + 1 + 1, w.heap.size + 1, w.heap.size + 1 + 1 + 1 + 1] := by
    have b1 : Blk ((((((w.alloc (.cells #[.string n.kind, .string n.text, .slice n.addr n.kids.length n.cap] 24)).alloc (.cells #[.string skip] 9)).alloc (.cells #[.int .i64 stop] 2)).alloc (.cells #[.bool post] 4)).alloc (.cells #[] 54)).alloc (.cells #[.slice (some ⟨w.heap.size + 1 + 1 + 1 + 1, 0, none⟩) 0 0] 27)) (w.heap.size + 1) 9 #[.string skip] := by
      have := ((((Blk.new (w.alloc (.cells #[.string n.kind, .string n.text, .slice n.addr n.kids.length n.cap] 24)) 9 #[.string skip]).alloc (.cells #[.int .i64 stop] 2)).alloc (.cells #[.bool post] 4)).alloc (.cells #[] 54)).alloc (.cells #[.slice (some ⟨w.heap.size + 1 + 1 + 1 + 1, 0, none⟩) 0 0] 27)
      simpa only [World.size_alloc] using this
    have b2 : Blk ((((((w.alloc (.cells #[.string n.kind, .string n.text, .slice n.addr n.kids.length n.cap] 24)).alloc (.cells #[.string skip] 9)).alloc (.cells #[.int .i64 stop] 2)).alloc (.cells #[.bool post] 4)).alloc (.cells #[] 54)).alloc (.cells #[.slice (some ⟨w.heap.size + 1 + 1 + 1 + 1, 0, none⟩) 0 0] 27)) (w.heap.size + 1 + 1) 2 #[.int .i64 stop] := by
      have := (((Blk.new ((w.alloc (.cells #[.string n.kind, .string n.text, .slice n.addr n.kids.length n.cap] 24)).alloc (.cells #[.string skip] 9)) 2 #[.int .i64 stop]).alloc (.cells #[.bool post] 4)).alloc (.cells #[] 54)).alloc (.cells #[.slice (some ⟨w.heap.size + 1 + 1 + 1 + 1, 0, none⟩) 0 0] 27)
      simpa only [World.size_alloc] using this
    have b6 : Blk ((((((w.alloc (.cells #[.string n.kind, .string n.text, .slice n.addr n.kids.length n.cap] 24)).alloc (.cells #[.string skip] 9)).alloc (.cells #[.int .i64 stop] 2)).alloc (.cells #[.bool post] 4)).alloc (.cells #[] 54)).alloc (.cells #[.slice (some ⟨w.heap.size + 1 + 1 + 1 + 1, 0, none⟩) 0 0] 27)) (w.heap.size + 1 + 1 + 1) 4 #[.bool post] := by
      have := ((Blk.new (((w.alloc (.cells #[.string n.kind, .string n.text, .slice n.addr n.kids.length n.cap] 24)).alloc (.cells #[.string skip] 9)).alloc (.cells #[.int .i64 stop] 2)) 4 #[.bool post]).alloc (.cells #[] 54)).alloc (.cells #[.slice (some ⟨w.heap.size + 1 + 1 + 1 + 1, 0, none⟩) 0 0] 27)
      simpa only [World.size_alloc] using this
    have b3 : Row ((((((w.alloc (.cells #[.string n.kind, .string n.text, .slice n.addr n.kids.length n.cap] 24)).alloc (.cells #[.string skip] 9)).alloc (.cells #[.int .i64 stop] 2)).alloc (.cells #[.bool post] 4)).alloc (.cells #[] 54)).alloc (.cells #[.slice (some ⟨w.heap.size + 1 + 1 + 1 + 1, 0, none⟩) 0 0] 27)) (w.heap.size + 1 + 1 + 1 + 1) 54 6 0 [] 0 := by
      have h0 := Row.new ((((w.alloc (.cells #[.string n.kind, .string n.text, .slice n.addr n.kids.length n.cap] 24)).alloc (.cells #[.string skip] 9)).alloc (.cells #[.int .i64 stop] 2)).alloc (.cells #[.bool post] 4)) 54 6 #[] 0 rfl (Nat.zero_le _)
      have h1 := h0.same ((Below.heap_alloc _ (.cells #[.slice (some ⟨w.heap.size + 1 + 1 + 1 + 1, 0, none⟩) 0 0] 27) _ h0.lt))
      simpa only [World.size_alloc] using h1
    have b4 : Blk ((((((w.alloc (.cells #[.string n.kind, .string n.text, .slice n.addr n.kids.length n.cap] 24)).alloc (.cells #[.string skip] 9)).alloc (.cells #[.int .i64 stop] 2)).alloc (.cells #[.bool post] 4)).alloc (.cells #[] 54)).alloc (.cells #[.slice (some ⟨w.heap.size + 1 + 1 + 1 + 1, 0, none⟩) 0 0] 27)) (w.heap.size + 1 + 1 + 1 + 1 + 1) 27 #[.slice (some ⟨w.heap.size + 1 + 1 + 1 + 1, 0, none⟩) 0 0] := by
      have := Blk.new (((((w.alloc (.cells #[.string n.kind, .string n.text, .slice n.addr n.kids.length n.cap] 24)).alloc (.cells #[.string skip] 9)).alloc (.cells #[.int .i64 stop] 2)).alloc (.cells #[.bool post] 4)).alloc (.cells #[] 54)) 27 #[.slice (some ⟨w.heap.size + 1 + 1 + 1 + 1, 0, none⟩) 0 0]
      simpa only [World.size_alloc] using this
    have hr : rowOf (.slice (some ⟨w.heap.size + 1 + 1 + 1 + 1, 0, none⟩) 0 0) = [w.heap.size + 1 + 1 + 1 + 1] := rfl
    refine ⟨⟨.slice (some ⟨w.heap.size + 1 + 1 + 1 + 1, 0, none⟩) 0 0, rfl, ⟨b4, .inr ⟨_, 0, rfl, b3, Nat.zero_le _⟩, ?_⟩, ?_, ?_, ?_⟩, b6, b2, b1, ?_, fun _ => rfl⟩
    · simp only [Value.ownBlock, ne_eq, Option.some.injEq]; omega
    · rw [hr, List.mem_singleton]; omega
    · rw [hr, List.mem_singleton]; omega
    · rw [hr, List.mem_singleton]; omega
    · refine ⟨?_, ?_, ?_⟩ <;> omega
  have hb6 : Below w.heap.size w ((((((w.alloc (.cells #[.string n.kind, .string n.text, .slice n.addr n.kids.length n.cap] 24)).alloc (.cells #[.string skip] 9)).alloc (.cells #[.int .i64 stop] 2)).alloc (.cells #[.bool post] 4)).alloc (.cells #[] 54)).alloc (.cells #[.slice (some ⟨w.heap.size + 1 + 1 + 1 + 1, 0, none⟩) 0 0] 27)) := by go_grown
  have hs6 : ((((((w.alloc (.cells #[.string n.kind, .string n.text, .slice n.addr n.kids.length n.cap] 24)).alloc (.cells #[.string skip] 9)).alloc (.cells #[.int .i64 stop] 2)).alloc (.cells #[.bool post] 4)).alloc (.cells #[] 54)).alloc (.cells #[.slice (some ⟨w.heap.size + 1 + 1 + 1 + 1, 0, none⟩) 0 0] 27)).heap.size = w.heap.size + 1 + 1 + 1 + 1 + 1 + 1 := by simp only [World.size_alloc]
  have H6 := Lib.hid (And.intro hci (And.intro hb6 hs6))
  clear hci hb6 hs6
  have HE : Hid (∀ w6, ClO ⟨skip, stop, !post, post⟩ (w.heap.size + 1 + 1 + 1) (w.heap.size + 1 + 1 + 1 + 1 + 1) (w.heap.size + 1 + 1) (w.heap.size + 1) s0 w6 [w.heap.size + 1 + 1 + 1 + 1 + 1, w.heap.size + 1 + 1 + 1, w.heap.size + 1 + 1, w.heap.size + 1, w.heap.size + 1 + 1 + 1 + 1] → Below w.heap.size w w6 → w6.heap.size = w.heap.size + 1 + 1 + 1 + 1 + 1 + 1 → Calls Tryz.prog 35 #[.agg #[.string n.kind, .string n.text, .slice n.addr n.kids.length n.cap]] w6 fun e w7 => ∃ tx vx, e = .returned (.iface tx vx) ∧
      (∀ fp fq, fp = (if post then .nilFunc else fnO (w.heap.size + 1 + 1 + 1) (w.heap.size + 1 + 1 + 1 + 1 + 1) (w.heap.size + 1 + 1) (w.heap.size + 1)) → fq = (if post then fnO (w.heap.size + 1 + 1 + 1) (w.heap.size + 1 + 1 + 1 + 1 + 1) (w.heap.size + 1 + 1) (w.heap.size + 1) else .nilFunc) →
        Calls Tryz.prog 34 #[.iface tx vx, fp, fq] w7 fun e w8 => ∃ v v8, e = .returned v ∧ w8.cell? ⟨w.heap.size + 1 + 1 + 1 + 1 + 1, 0, none⟩ = some v8 ∧ w.heap.size + 1 + 1 + 1 + 1 + 1 < w8.heap.size ∧ LstS w8 0 54 6 (walkN ⟨skip, stop, !post, post⟩ n.erase top s0).1.calls.length v8 (cellsV (walkN ⟨skip, stop, !post, post⟩ n.erase top s0).1.calls) ∧ Below w.heap.size w w8)) := by
    intro w6 hci hb6 hs6
    refine (exprOf_any (SizeOf.sizeOf n + 1) n w6 L (Nat.lt_succ_self _) (HIN.out.1.below hb6 hL) (Nat.le_trans hL hb6.size) (HIN.out.2.1.below hb6 (Nat.le_refl _)) HIN.out.2.2.1).mono ?_
    rintro e w7 ⟨x, rfl, hxin, hxn, hxnew, hb7⟩
    obtain ⟨tx, vx, hx⟩ := x.val_one
    have hci7 := hci.same (fun k hk => hb7.block k (hci.lt k hk))
    have hax : ∀ b ∈ x.blocks, b ∉ [w.heap.size + 1 + 1 + 1 + 1 + 1, w.heap.size + 1 + 1 + 1, w.heap.size + 1 + 1, w.heap.size + 1, w.heap.size + 1 + 1 + 1 + 1] := fun b hb => by
      have h1 := hxnew.1 b hb
      simp only [List.mem_cons, List.not_mem_nil, or_false]
      omega
    have hgo : 0 ∉ [w.heap.size + 1 + 1 + 1 + 1 + 1, w.heap.size + 1 + 1 + 1, w.heap.size + 1 + 1, w.heap.size + 1, w.heap.size + 1 + 1 + 1 + 1] := by
      have := HIN.out.2.1.2
      simp only [List.mem_cons, List.not_mem_nil, or_false]
      omega
    have hb07 : Below w.heap.size w w7 := hb6.trans (hb7.mono hb6.size)
    refine ⟨tx, vx, by rw [hx], fun fp fq hfp hfq => ?_⟩
    have hcl := clientO (q := ⟨skip, stop, !post, post⟩) rfl (w7.heap.size + 1 + 1 + 1) (w.heap.size + 1 + 1 + 1) (w.heap.size + 1 + 1 + 1 + 1 + 1) (w.heap.size + 1 + 1) (w.heap.size + 1)
    have e1 : (if (!post) = true then fnO (w.heap.size + 1 + 1 + 1) (w.heap.size + 1 + 1 + 1 + 1 + 1) (w.heap.size + 1 + 1) (w.heap.size + 1) else .nilFunc) = fp := by rw [hfp]; cases post <;> rfl
    simp only at hcl
    rw [e1, ← hfq] at hcl
    have hal := apply_look (q := ⟨skip, stop, !post, post⟩) (w := w7) x _ s0 hcl (by rw [hfp, hfq]; cases post; exact ⟨.inr ⟨_, _, rfl⟩, .inl rfl⟩; exact ⟨.inl rfl, .inr ⟨_, _, rfl⟩⟩) hci7 hxin (HIN.out.2.1.below hb07 (Nat.le_refl _)) hax hgo (by rw [hxn]; exact bd_of_small HIN.out.2.2.2) (Int.le_refl _)
    rw [hx, hxn] at hal
    refine hal.mono ?_
    rintro e w8 ⟨own', v, rfl, hci8, hk8, hg8⟩
    obtain ⟨v8, hov, ho8, _⟩ := hci8.ex
    have hz7 := hb7.size
    exact ⟨v, v8, rfl, ho8.box.cell 0, ho8.box.lt, ho8.lst, hb07.trans (hk8.below (by omega) (fun k hk => by simp only [List.mem_cons, List.not_mem_nil, or_false] at hk; omega))⟩
  go_enter Tryz.func15, Tryz.ntmps15
  cases post
  all_goals
    go_wp2_with fail
    refine (HE.out _ H6.out.1 H6.out.2.1 H6.out.2.2).mono ?_
    rintro e w7 ⟨tx, vx, rfl, hq⟩
    have HQ := Lib.hid hq
    clear hq
    go_wp2_with fail
    refine (HQ.out _ _ rfl rfl).mono ?_
    rintro e w8 ⟨v, v8, rfl, c8, z8, hl, hb⟩
    have H8 := Lib.hid (And.intro hl hb)
    clear hl hb
    go_wp2_with fail
    go_ret
    exact ⟨v8, rfl, H8.out.1, H8.out.2⟩
end Go.Proofs.YtgimbgpebpippaaGreatDoor
