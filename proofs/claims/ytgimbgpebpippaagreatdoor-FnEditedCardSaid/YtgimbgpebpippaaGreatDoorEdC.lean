/- Delete, InsertBefore, InsertAfter of a cursor at an argument of a call. -/
import Derived.Test.YtgimbgpebpippaaGreatDoorEdB0
import Derived.Test.YtgimbgpebpippaaGreatDoorRpC
import Derived.Test.YtgimbgpebpippaaGreatDoorEdA
import Derived.Test.YtgimbgpebpippaaGreatDoorWalkF
namespace Go.Proofs.YtgimbgpebpippaaGreatDoor
open Go.RowKit
set_option maxRecDepth 100000
set_option maxHeartbeats 8000000
theorem ins_nilAhead (c : Addr) (w : World) : (nilAhead 530 listT (.agg #[.pointer (some c)]) "loop.example/pub-g01465/pub/astutil.insert").run Tryz.prog w = .ok (some false) w := by kernel_rfl
theorem rem_nilAhead (c : Addr) (w : World) : (nilAhead 530 listT (.agg #[.pointer (some c)]) "loop.example/pub-g01465/pub/astutil.remove").run Tryz.prog w = .ok (some false) w := by kernel_rfl
section
variable {w : World} {ba b g n cp i : Nat} {fp fq : Value} {st : Int} {tn : TypeId} {un : Value} {cs : Array Value} {xs : List Value} {nv : Value} {t : TypeId} {u : Value}
theorem delete_any (happ : App w ba fp fq (.iface 87 (.pointer (some ⟨b, 0, none⟩))) ⟨#[65, 114, 103, 115]⟩ (iterV ba) (.iface tn un) i st) (hne : tn ≠ 153) (hb : Blk w b 91 cs) (hk : cs[2]? = some (.slice (some ⟨g, 0, none⟩) n cp))
    (hrow : Row w g 62 1 n xs cp) (hbg : b ≠ g) (hab : ba ≠ b) (hag : ba ≠ g) (hi : i < n) (hn : n ≤ 1000) (hone : ∀ x ∈ xs, x.oneCell' = true) (hst : -1000 ≤ st ∧ st ≤ 1000) :
    Calls Tryz.prog 58 #[cur ba] w fun e w' => e = .returned (.tuple #[]) ∧ Row w' g 62 1 (n - 1) (xs.take i ++ xs.drop (i + 1)) cp ∧
      Blk w' b 91 (cs.setIfInBounds 2 (.slice (some ⟨g, 0, none⟩) (n - 1) cp)) ∧ App w' ba fp fq (.iface 87 (.pointer (some ⟨b, 0, none⟩))) ⟨#[65, 114, 103, 115]⟩ (iterV ba) (.iface tn un) i (st - 1) ∧ Kept [ba, b, g] w w' := by
  have hta := missFile un tn hne
  have HS : Hid (∀ w', Sm w w' → Calls Tryz.prog remF #[.agg #[.pointer (some ⟨b, 2, none⟩)], .int .i64 i] w' fun e w'' => e = .returned (.tuple #[]) ∧ Row w'' g 62 1 (n - 1) (xs.take i ++ xs.drop (i + 1)) cp ∧
      Blk w'' b 91 (cs.setIfInBounds 2 (.slice (some ⟨g, 0, none⟩) (n - 1) cp)) ∧ App w'' ba fp fq (.iface 87 (.pointer (some ⟨b, 0, none⟩))) ⟨#[65, 114, 103, 115]⟩ (iterV ba) (.iface tn un) i st ∧ Kept [ba, b, g] w w'') := fun w' hw => by
    refine (listRemove_any (w := w') (hb.same (by rw [hw.1])) hk (hrow.same (by rw [hw.1])) hbg hi hn hone).mono ?_
    rintro e w'' ⟨rfl, h1, h2, h3⟩
    exact ⟨rfl, h1, h2, h3.blk (Blk.same happ (by rw [hw.1])) (by simp only [List.mem_cons, List.not_mem_nil, or_false, not_or]; exact ⟨hab, hag⟩), ((Kept.refl [ba, b, g] w).heapy hw).trans h3 (fun x hx => .inl (List.mem_cons_of_mem _ hx))⟩
  have HA := Lib.hid happ
  have c2 : w.cell? ⟨ba, 2, none⟩ = some (.iface 87 (.pointer (some ⟨b, 0, none⟩))) := Blk.cell happ 2
  have c3 : w.cell? ⟨ba, 2 + 1, none⟩ = some (.string ⟨#[65, 114, 103, 115]⟩) := Blk.cell happ 3
  have c5 : w.cell? ⟨ba, 2 + 3, none⟩ = some (.iface tn un) := Blk.cell happ 5
  have zb := Blk.lt happ
  have q1 : (0 : Int) ≤ (i : Int) := by omega
  have hw1 : IntKind.i64.wrap (st - 1) = st - 1 := IntWalk.i64_in _ (by omega)
  have hna := rem_nilAhead ⟨b, 2, none⟩
  clear happ hne hb hk hrow hone
  go_enter Tryz.func58, Tryz.ntmps58
  go_wp2_with fail
  refine (curIndex_some HA.out).mono ?_
  rintro e w' ⟨rfl, rfl⟩
  go_wp2_with fail
  go_region_law
    (first
      | (go_simp; go_at_call 73; refine (list_callArgs b _).mono ?_; rintro e w5 ⟨rfl, rfl⟩)
      | (go_simp; refine (HS.out _ (by exact ⟨rfl, rfl, rfl, rfl⟩)).mono ?_; rintro e w5 ⟨rfl, h1, h2, h3, h4⟩; have HQ := Lib.hid (And.intro h1 (And.intro h2 (And.intro h3 h4))); clear h1 h2 h3 h4))
  all_goals
    have e4 : w5.cell? ⟨ba, 2 + 2, none⟩ = some (iterV ba) := Blk.cell HQ.out.2.2.1 4
    have e7 : w5.cell? ⟨ba, 6 + 1, none⟩ = some (.int .i64 st) := Blk.cell HQ.out.2.2.1 7
    have f7 : w5.frozen? ⟨ba, 6 + 1, none⟩ = false := Blk.frozen HQ.out.2.2.1 7
    have z5 := Blk.lt HQ.out.2.2.1
    go_wp2_with fail
    refine ⟨rfl, _, results_none rfl _ _ _, rfl, ?_, ?_, Blk.set_ HQ.out.2.2.1 7 _, HQ.out.2.2.2.set (p := ⟨ba, 7, none⟩) (.inl List.mem_cons_self) _⟩
    · exact HQ.out.1.same (Below.heap_setCell _ _ _ _ (by exact Ne.symm hag))
    · exact HQ.out.2.1.far (by exact Ne.symm hab) _
theorem insBefore_any (happ : App w ba fp fq (.iface 87 (.pointer (some ⟨b, 0, none⟩))) ⟨#[65, 114, 103, 115]⟩ (iterV ba) nv i st) (hb : Blk w b 91 cs) (hk : cs[2]? = some (.slice (some ⟨g, 0, none⟩) n cp))
    (hrow : Row w g 62 1 n xs cp) (hbg : b ≠ g) (hab : ba ≠ b) (hag : ba ≠ g) (hi : i ≤ n) (hn : n ≤ 1000) (hone : ∀ x ∈ xs, x.oneCell' = true) (hE : ∀ w, (Instr.typeAssert (.iface t u) 59 62 false).run Tryz.prog w = .ok (.iface t u) w) :
    Calls Tryz.prog 59 #[cur ba, .iface t u] w fun e w' => e = .returned (.tuple #[]) ∧ ∃ g' c', Row w' g' 62 1 (n + 1) (xs.take i ++ .iface t u :: xs.drop i) c' ∧
      Blk w' b 91 (cs.setIfInBounds 2 (.slice (some ⟨g', 0, none⟩) (n + 1) c')) ∧ App w' ba fp fq (.iface 87 (.pointer (some ⟨b, 0, none⟩))) ⟨#[65, 114, 103, 115]⟩ (iterV ba) nv (i + 1) st ∧ Kept [ba, b, g] w w' ∧ (g' = g ∨ w.heap.size ≤ g') := by
  have HS : Hid (∀ w', Sm w w' → Calls Tryz.prog insF #[.agg #[.pointer (some ⟨b, 2, none⟩)], .int .i64 i, .iface t u] w' fun e w'' => e = .returned (.tuple #[]) ∧ ∃ g' c', Row w'' g' 62 1 (n + 1) (xs.take i ++ .iface t u :: xs.drop i) c' ∧
      Blk w'' b 91 (cs.setIfInBounds 2 (.slice (some ⟨g', 0, none⟩) (n + 1) c')) ∧ App w'' ba fp fq (.iface 87 (.pointer (some ⟨b, 0, none⟩))) ⟨#[65, 114, 103, 115]⟩ (iterV ba) nv i st ∧ Kept [ba, b, g] w w'' ∧ (g' = g ∨ w.heap.size ≤ g')) := fun w' hw => by
    have h := (listInsert_any (i := i) (w := w') (hb.same (by rw [hw.1])) hk (hrow.same (by rw [hw.1])) hbg (by omega) hn hone hE)
    
    refine h.mono ?_
    rintro e w'' ⟨rfl, g', c', h1, h2, h3, h4⟩
    exact ⟨rfl, g', c', h1, h2, h3.blk (Blk.same happ (by rw [hw.1])) (by simp only [List.mem_cons, List.not_mem_nil, or_false, not_or]; exact ⟨hab, hag⟩), ((Kept.refl [ba, b, g] w).heapy hw).trans h3 (fun x hx => .inl (List.mem_cons_of_mem _ hx)), by rw [← hw.1]; exact h4⟩
  have HA := Lib.hid happ
  have c2 : w.cell? ⟨ba, 2, none⟩ = some (.iface 87 (.pointer (some ⟨b, 0, none⟩))) := Blk.cell happ 2
  have c3 : w.cell? ⟨ba, 2 + 1, none⟩ = some (.string ⟨#[65, 114, 103, 115]⟩) := Blk.cell happ 3
  have zb := Blk.lt happ
  have q1 : (0 : Int) ≤ (i : Int) := by omega
  have hwi : IntKind.i64.wrap ((i : Int) + 1) = (i : Int) + 1 := IntWalk.i64_in _ (by omega)
  
  have hna := ins_nilAhead ⟨b, 2, none⟩
  clear happ hb hk hrow hone
  go_enter Tryz.func59, Tryz.ntmps59
  go_wp2_with fail
  refine (curIndex_some HA.out).mono ?_
  rintro e w' ⟨rfl, rfl⟩
  go_wp2_with fail
  go_region_law
    (first
      | (go_simp; go_at_call 73; refine (list_callArgs b _).mono ?_; rintro e w5 ⟨rfl, rfl⟩)
      | (go_simp; refine (HS.out _ (by exact ⟨rfl, rfl, rfl, rfl⟩)).mono ?_; rintro e w5 ⟨rfl, g', c', h1, h2, h3, h4, h5⟩; have HQ := Lib.hid (And.intro h1 (And.intro h2 (And.intro h3 (And.intro h4 h5)))); have hg5 := h5; have zg := Blk.lt h2; clear h1 h2 h3 h4 h5))
  all_goals
    have e4 : w5.cell? ⟨ba, 2 + 2, none⟩ = some (iterV ba) := Blk.cell HQ.out.2.2.1 4
    have e6 : w5.cell? ⟨ba, 6, none⟩ = some (.int .i64 i) := Blk.cell HQ.out.2.2.1 6
    have e7 : w5.cell? ⟨ba, 6 + 1, none⟩ = some (.int .i64 st) := Blk.cell HQ.out.2.2.1 7
    have f6 : w5.frozen? ⟨ba, 6, none⟩ = false := Blk.frozen HQ.out.2.2.1 6
    have f7 : w5.frozen? ⟨ba, 6 + 1, none⟩ = false := Blk.frozen HQ.out.2.2.1 7
    have z5 := Blk.lt HQ.out.2.2.1
    have hga : g' ≠ ba := by rcases hg5 with h | h <;> omega
    clear hg5
    go_wp2_with fail
    refine ⟨rfl, _, results_none rfl _ _ _, rfl, g', c', ?_, ?_, Blk.set_ HQ.out.2.2.1 6 _, HQ.out.2.2.2.1.set (p := ⟨ba, 6, none⟩) (.inl List.mem_cons_self) _, HQ.out.2.2.2.2⟩
    · exact HQ.out.1.same (Below.heap_setCell _ _ _ _ (by exact hga))
    · exact HQ.out.2.1.far (by exact Ne.symm hab) _
theorem insAfter_any (happ : App w ba fp fq (.iface 87 (.pointer (some ⟨b, 0, none⟩))) ⟨#[65, 114, 103, 115]⟩ (iterV ba) nv i st) (hb : Blk w b 91 cs) (hk : cs[2]? = some (.slice (some ⟨g, 0, none⟩) n cp))
    (hrow : Row w g 62 1 n xs cp) (hbg : b ≠ g) (hab : ba ≠ b) (hag : ba ≠ g) (hi : i < n) (hn : n ≤ 1000) (hone : ∀ x ∈ xs, x.oneCell' = true) (hE : ∀ w, (Instr.typeAssert (.iface t u) 59 62 false).run Tryz.prog w = .ok (.iface t u) w) (hst : -1000 ≤ st ∧ st ≤ 1000) :
    Calls Tryz.prog 61 #[cur ba, .iface t u] w fun e w' => e = .returned (.tuple #[]) ∧ ∃ g' c', Row w' g' 62 1 (n + 1) (xs.take (i + 1) ++ .iface t u :: xs.drop (i + 1)) c' ∧
      Blk w' b 91 (cs.setIfInBounds 2 (.slice (some ⟨g', 0, none⟩) (n + 1) c')) ∧ App w' ba fp fq (.iface 87 (.pointer (some ⟨b, 0, none⟩))) ⟨#[65, 114, 103, 115]⟩ (iterV ba) nv i (st + 1) ∧ Kept [ba, b, g] w w' ∧ (g' = g ∨ w.heap.size ≤ g') := by
  have HS : Hid (∀ w', Sm w w' → Calls Tryz.prog insF #[.agg #[.pointer (some ⟨b, 2, none⟩)], .int .i64 ((i : Int) + 1), .iface t u] w' fun e w'' => e = .returned (.tuple #[]) ∧ ∃ g' c', Row w'' g' 62 1 (n + 1) (xs.take (i + 1) ++ .iface t u :: xs.drop (i + 1)) c' ∧
      Blk w'' b 91 (cs.setIfInBounds 2 (.slice (some ⟨g', 0, none⟩) (n + 1) c')) ∧ App w'' ba fp fq (.iface 87 (.pointer (some ⟨b, 0, none⟩))) ⟨#[65, 114, 103, 115]⟩ (iterV ba) nv i st ∧ Kept [ba, b, g] w w'' ∧ (g' = g ∨ w.heap.size ≤ g')) := fun w' hw => by
    have h := (listInsert_any (i := (i + 1)) (w := w') (hb.same (by rw [hw.1])) hk (hrow.same (by rw [hw.1])) hbg (by omega) hn hone hE)
    rw [show (((i + 1 : Nat) : Int)) = (i : Int) + 1 by omega] at h
    refine h.mono ?_
    rintro e w'' ⟨rfl, g', c', h1, h2, h3, h4⟩
    exact ⟨rfl, g', c', h1, h2, h3.blk (Blk.same happ (by rw [hw.1])) (by simp only [List.mem_cons, List.not_mem_nil, or_false, not_or]; exact ⟨hab, hag⟩), ((Kept.refl [ba, b, g] w).heapy hw).trans h3 (fun x hx => .inl (List.mem_cons_of_mem _ hx)), by rw [← hw.1]; exact h4⟩
  have HA := Lib.hid happ
  have c2 : w.cell? ⟨ba, 2, none⟩ = some (.iface 87 (.pointer (some ⟨b, 0, none⟩))) := Blk.cell happ 2
  have c3 : w.cell? ⟨ba, 2 + 1, none⟩ = some (.string ⟨#[65, 114, 103, 115]⟩) := Blk.cell happ 3
  have zb := Blk.lt happ
  have q1 : (0 : Int) ≤ (i : Int) := by omega
  have hwi : IntKind.i64.wrap ((i : Int) + 1) = (i : Int) + 1 := IntWalk.i64_in _ (by omega)
  have hws : IntKind.i64.wrap (st + 1) = st + 1 := IntWalk.i64_in _ (by omega)
  have hna := ins_nilAhead ⟨b, 2, none⟩
  clear happ hb hk hrow hone
  go_enter Tryz.func61, Tryz.ntmps61
  go_wp2_with fail
  refine (curIndex_some HA.out).mono ?_
  rintro e w' ⟨rfl, rfl⟩
  go_wp2_with fail
  go_region_law
    (first
      | (go_simp; go_at_call 73; refine (list_callArgs b _).mono ?_; rintro e w5 ⟨rfl, rfl⟩)
      | (go_simp; refine (HS.out _ (by exact ⟨rfl, rfl, rfl, rfl⟩)).mono ?_; rintro e w5 ⟨rfl, g', c', h1, h2, h3, h4, h5⟩; have HQ := Lib.hid (And.intro h1 (And.intro h2 (And.intro h3 (And.intro h4 h5)))); have hg5 := h5; have zg := Blk.lt h2; clear h1 h2 h3 h4 h5))
  all_goals
    have e4 : w5.cell? ⟨ba, 2 + 2, none⟩ = some (iterV ba) := Blk.cell HQ.out.2.2.1 4
    have e6 : w5.cell? ⟨ba, 6, none⟩ = some (.int .i64 i) := Blk.cell HQ.out.2.2.1 6
    have e7 : w5.cell? ⟨ba, 6 + 1, none⟩ = some (.int .i64 st) := Blk.cell HQ.out.2.2.1 7
    have f6 : w5.frozen? ⟨ba, 6, none⟩ = false := Blk.frozen HQ.out.2.2.1 6
    have f7 : w5.frozen? ⟨ba, 6 + 1, none⟩ = false := Blk.frozen HQ.out.2.2.1 7
    have z5 := Blk.lt HQ.out.2.2.1
    have hga : g' ≠ ba := by rcases hg5 with h | h <;> omega
    clear hg5
    go_wp2_with fail
    refine ⟨rfl, _, results_none rfl _ _ _, rfl, g', c', ?_, ?_, Blk.set_ HQ.out.2.2.1 7 _, HQ.out.2.2.2.1.set (p := ⟨ba, 7, none⟩) (.inl List.mem_cons_self) _, HQ.out.2.2.2.2⟩
    · exact HQ.out.1.same (Below.heap_setCell _ _ _ _ (by exact hga))
    · exact HQ.out.2.1.far (by exact Ne.symm hab) _
end
end Go.Proofs.YtgimbgpebpippaaGreatDoor
namespace Go.Proofs.YtgimbgpebpippaaGreatDoor
open Go.RowKit
set_option maxRecDepth 100000
set_option maxHeartbeats 4000000
/-- A cursor at an argument x of the call at b, whose arguments now are L; x itself may be gone from it. -/
structure EdS (w : World) (ba : Nat) (fv : Value) (b : Nat) (f : AE) (g cp : Nat) (L : List AE) (x : AE) (ix st : Int) : Prop where
  app : App w ba fv .nilFunc (callV b) fArgs (iterV ba) x.val ix st
  inn : (AE.call b f g cp L).In w
  nd : (b :: (f.blocks ++ blocksL L)).Nodup
  gn : g ∉ b :: (f.blocks ++ blocksL L)
  an : ba ∉ b :: g :: (f.blocks ++ blocksL L)
  xin : x.In w
  xn : ba ∉ x.blocks ∧ b ∉ x.blocks ∧ g ∉ x.blocks
theorem mem_blocksL' {k : Nat} {l : List AE} (h : k ∈ blocksL l) : ∃ y ∈ l, k ∈ y.blocks := by
  induction l with
  | nil => cases h
  | cons a l ih =>
    rw [blocksL, List.mem_append] at h
    rcases h with h | h
    · exact ⟨a, List.mem_cons_self, h⟩
    · obtain ⟨y, hy, hk⟩ := ih h
      exact ⟨y, List.mem_cons_of_mem _ hy, hk⟩
theorem perm_ins (b : Nat) (f y : AE) (t d : List AE) : (b :: (f.blocks ++ blocksL (t ++ y :: d))).Perm (y.blocks ++ (b :: (f.blocks ++ blocksL (t ++ d)))) := by
  rw [List.perm_iff_count]
  intro a
  simp only [blocksL_append, blocksL, List.count_cons, List.count_append]
  omega
theorem map_ins (L : List AE) (y : AE) (i : Nat) : (L.take i ++ y :: L.drop i).map AE.val = (L.map AE.val).take i ++ y.val :: (L.map AE.val).drop i := by simp
theorem map_del (L : List AE) (i : Nat) : (L.take i ++ L.drop (i + 1)).map AE.val = (L.map AE.val).take i ++ (L.map AE.val).drop (i + 1) := by simp
theorem val_one' (L : List AE) : ∀ v ∈ L.map AE.val, v.oneCell' = true := by
  intro v hv
  obtain ⟨x, _, rfl⟩ := List.mem_map.1 hv
  obtain ⟨t, u, e⟩ := x.val_one
  rw [e]; rfl
theorem AE.val_file (x : AE) : ∃ t u, x.val = .iface t u ∧ t ≠ 153 := by
  cases x <;> exact ⟨_, _, rfl, by decide⟩
section
variable {w w' : World} {ba : Nat} {fv : Value} {b : Nat} {f : AE} {g cp : Nat} {L : List AE} {x : AE} {ix st : Int}
theorem EdS.heapy (h : EdS w ba fv b f g cp L x ix st) (e : Sm w w') : EdS w' ba fv b f g cp L x ix st :=
  ⟨Blk.same h.app (by rw [e.1]), AE.In.same _ (fun k _ => by rw [e.1]) h.inn, h.nd, h.gn, h.an, AE.In.same _ (fun k _ => by rw [e.1]) h.xin, h.xn⟩
theorem EdS.ne (h : EdS w ba fv b f g cp L x ix st) : b ≠ g ∧ ba ≠ b ∧ ba ≠ g := by
  have h1 := h.gn
  have h2 := h.an
  simp only [List.mem_cons, not_or] at h1 h2
  exact ⟨fun e => h1.1 e.symm, h2.1, h2.2.1⟩
/-- All that is known of a tree that lies apart from what was turned. -/
theorem In.apart {y : AE} (hk : Kept [ba, b, g] w w') (hy : y.In w) (hn : ba ∉ y.blocks ∧ b ∉ y.blocks ∧ g ∉ y.blocks) : y.In w' :=
  AE.In.same y (fun k hm => hk.2 k (AE.In.lt y hy k hm) (by
    simp only [List.mem_cons, List.not_mem_nil, or_false, not_or]
    exact ⟨fun e => hn.1 (e ▸ hm), fun e => hn.2.1 (e ▸ hm), fun e => hn.2.2 (e ▸ hm)⟩)) hy
theorem EdS.elt (h : EdS w ba fv b f g cp L x ix st) {y : AE} (hy : y ∈ f :: L) : y.In w ∧ ba ∉ y.blocks ∧ b ∉ y.blocks ∧ g ∉ y.blocks := by
  have hsub : ∀ k ∈ y.blocks, k ∈ f.blocks ++ blocksL L := fun k hk => by
    rw [List.mem_append]
    rcases List.mem_cons.1 hy with rfl | hy
    · exact .inl hk
    · exact .inr (mem_blocksL hy hk)
  have h1 := h.nd
  have h2 := h.gn
  have h3 := h.an
  rw [List.nodup_cons] at h1
  simp only [List.mem_cons, not_or] at h2 h3
  refine ⟨?_, fun hm => h3.2.2 (hsub _ hm), fun hm => h1.1 (hsub _ hm), fun hm => h2.2 (hsub _ hm)⟩
  rcases List.mem_cons.1 hy with rfl | hy
  · exact h.inn.2.1
  · exact (AEInL_iff _ _).1 h.inn.2.2.2 _ hy
/-- Put together again behind a turn of the list. -/
theorem EdS.again (h : EdS w ba fv b f g cp L x ix st) {g' cp' : Nat} {L' : List AE} {ix' st' : Int} (hk : Kept [ba, b, g] w w') (hg : g' = g ∨ w.heap.size ≤ g') (happ : App w' ba fv .nilFunc (callV b) fArgs (iterV ba) x.val ix' st')
    (hrow : Row w' g' 62 1 L'.length (L'.map AE.val) cp') (hblk : Blk w' b 91 #[f.val, .int .i64 0, .slice (some ⟨g', 0, none⟩) L'.length cp', .int .i64 0, .int .i64 0]) (hlen : L'.length ≤ 1000)
    (hnd : (b :: (f.blocks ++ blocksL L')).Nodup) (hL : ∀ y ∈ L', y.In w' ∧ ba ∉ y.blocks ∧ g ∉ y.blocks ∧ ∀ k ∈ y.blocks, k < w.heap.size) : EdS w' ba fv b f g' cp' L' x ix' st' := by
  have hf := h.elt (y := f) List.mem_cons_self
  have hsub : ∀ k ∈ f.blocks ++ blocksL L', ba ≠ k ∧ g ≠ k ∧ k < w.heap.size := fun k hm => by
    rcases List.mem_append.1 hm with hm | hm
    · exact ⟨fun e => hf.2.1 (e ▸ hm), fun e => hf.2.2.2 (e ▸ hm), AE.In.lt _ hf.1 _ hm⟩
    · obtain ⟨y, hy, hm⟩ := mem_blocksL' hm
      obtain ⟨_, h1, h2, h3⟩ := hL y hy
      exact ⟨fun e => h1 (e ▸ hm), fun e => h2 (e ▸ hm), h3 k hm⟩
  have hne := h.ne
  have hbl := Blk.lt h.inn.1
  have hal := Blk.lt h.app
  refine ⟨happ, ⟨hblk, In.apart hk hf.1 hf.2, ⟨hrow, hlen⟩, (AEInL_iff _ _).2 (fun y hy => (hL y hy).1)⟩, hnd, ?_, ?_, In.apart hk h.xin h.xn, h.xn.1, h.xn.2.1, ?_⟩
  · simp only [List.mem_cons, not_or]
    rcases hg with rfl | hg
    · exact ⟨Ne.symm hne.1, fun hm => (hsub _ hm).2.1 rfl⟩
    · exact ⟨by omega, fun hm => by have := (hsub _ hm).2.2; omega⟩
  · simp only [List.mem_cons, not_or]
    refine ⟨hne.2.1, ?_, fun hm => (hsub _ hm).1 rfl⟩
    rcases hg with rfl | hg
    · exact hne.2.2
    · omega
  · rcases hg with rfl | hg
    · exact h.xn.2.2
    · exact fun hm => by have := AE.In.lt _ h.xin _ hm; omega
/-- What a turn of the list leaves. -/
def EdTo (w : World) (ba : Nat) (fv : Value) (b : Nat) (f : AE) (g : Nat) (x : AE) (L' : List AE) (ix' st' : Int) (e : Ending) (w' : World) : Prop :=
  e = .returned (.tuple #[]) ∧ ∃ g' cp', EdS w' ba fv b f g' cp' L' x ix' st' ∧ Kept [ba, b, g] w w' ∧ (g' = g ∨ w.heap.size ≤ g')
theorem edDelete (h : EdS w ba fv b f g cp L x ix st) (i : Nat) (hi : ix = i) (hlt : i < L.length) (hst : -1000 ≤ st ∧ st ≤ 1000) :
    Calls Tryz.prog 58 #[cur ba] w (EdTo w ba fv b f g x (L.take i ++ L.drop (i + 1)) ix (st - 1)) := by
  subst hi
  obtain ⟨t, u, hv, ht⟩ := x.val_file
  have happ := h.app
  rw [hv] at happ
  have hne := h.ne
  refine (delete_any happ ht h.inn.1 rfl h.inn.2.2.1.1 hne.1 hne.2.1 hne.2.2 hlt h.inn.2.2.1.2 (val_one' L) hst).mono ?_
  rintro e w' ⟨rfl, h1, h2, h3, h4⟩
  refine ⟨rfl, g, cp, ?_, h4, .inl rfl⟩
  have hlen : (L.take i ++ L.drop (i + 1)).length = L.length - 1 := by rw [List.length_append, List.length_take, List.length_drop]; omega
  have hL : L.take i ++ L[i] :: L.drop (i + 1) = L := by rw [← List.drop_eq_getElem_cons hlt, List.take_append_drop]
  refine h.again h4 (.inl rfl) (by rw [hv]; exact h3) ?_ ?_ ?_ ?_ ?_
  · rw [map_del, hlen]; exact h1
  · rw [hlen]; exact h2
  · have := h.inn.2.2.1.2; omega
  · have := h.nd
    rw [← hL] at this
    exact (List.nodup_append.1 ((perm_ins b f L[i] _ _).nodup_iff.1 this)).2.1
  · intro y hy
    have hm : y ∈ L := by
      rcases List.mem_append.1 hy with hy | hy
      · exact List.mem_of_mem_take hy
      · exact List.mem_of_mem_drop hy
    have hy2 := h.elt (List.mem_cons_of_mem _ hm)
    exact ⟨In.apart h4 hy2.1 hy2.2, hy2.2.1, hy2.2.2.2, AE.In.lt _ hy2.1⟩
/-- A tree to come: apart from all that stands there. -/
structure EdNew (w : World) (ba b g : Nat) (f : AE) (L : List AE) (y : AE) : Prop where
  inn : y.In w
  nd : y.blocks.Nodup
  out : ∀ k ∈ y.blocks, k ∉ b :: (f.blocks ++ blocksL L) ∧ k ≠ ba ∧ k ≠ g
theorem ins_ok (h : EdS w ba fv b f g cp L x ix st) {y : AE} (hy : EdNew w ba b g f L y) {i : Nat} {g' cp' : Nat} {ix' st' : Int} (hlt : i ≤ L.length) (hln : L.length + 1 ≤ 1000) (h1 : Row w' g' 62 1 (L.length + 1) ((L.map AE.val).take i ++ y.val :: (L.map AE.val).drop i) cp')
    (h2 : Blk w' b 91 #[f.val, .int .i64 0, .slice (some ⟨g', 0, none⟩) (L.length + 1) cp', .int .i64 0, .int .i64 0]) (h3 : App w' ba fv .nilFunc (callV b) fArgs (iterV ba) x.val ix' st') (h4 : Kept [ba, b, g] w w') (h5 : g' = g ∨ w.heap.size ≤ g') :
    EdS w' ba fv b f g' cp' (L.take i ++ y :: L.drop i) x ix' st' := by
  have hlen : (L.take i ++ y :: L.drop i).length = L.length + 1 := by rw [List.length_append, List.length_cons, List.length_take, List.length_drop]; omega
  refine h.again h4 h5 h3 ?_ ?_ ?_ ?_ ?_
  · rw [map_ins, hlen]; exact h1
  · rw [hlen]; exact h2
  · omega
  · rw [(perm_ins b f y _ _).nodup_iff, List.take_append_drop, List.nodup_append]
    exact ⟨hy.nd, h.nd, fun k hk k' hk' e => (hy.out k hk).1 (e ▸ hk')⟩
  · intro z hz
    by_cases e : z = y
    · subst e
      refine ⟨In.apart h4 hy.inn ⟨fun hm => (hy.out _ hm).2.1 rfl, fun hm => (hy.out _ hm).1 List.mem_cons_self, fun hm => (hy.out _ hm).2.2 rfl⟩, fun hm => (hy.out _ hm).2.1 rfl, fun hm => (hy.out _ hm).2.2 rfl, AE.In.lt _ hy.inn⟩
    · have hm : z ∈ L := by
        rcases List.mem_append.1 hz with hz | hz
        · exact List.mem_of_mem_take hz
        · rcases List.mem_cons.1 hz with rfl | hz
          · exact absurd rfl e
          · exact List.mem_of_mem_drop hz
      have hy2 := h.elt (List.mem_cons_of_mem _ hm)
      exact ⟨In.apart h4 hy2.1 hy2.2, hy2.2.1, hy2.2.2.2, AE.In.lt _ hy2.1⟩
theorem edBefore (h : EdS w ba fv b f g cp L x ix st) {y : AE} (hy : EdNew w ba b g f L y) (i : Nat) (hi : ix = i) (hlt : i ≤ L.length) (hln : L.length + 1 ≤ 1000) :
    Calls Tryz.prog 59 #[cur ba, y.val] w (EdTo w ba fv b f g x (L.take i ++ y :: L.drop i) (ix + 1) st) := by
  subst hi
  have hne := h.ne
  obtain ⟨t, u, hv⟩ := y.val_one
  have hE : ∀ w, (Instr.typeAssert (.iface t u) 59 62 false).run Tryz.prog w = .ok (.iface t u) w := fun w => hv ▸ taExpr y w
  rw [hv]
  refine (insBefore_any h.app h.inn.1 rfl h.inn.2.2.1.1 hne.1 hne.2.1 hne.2.2 hlt h.inn.2.2.1.2 (val_one' L) hE).mono ?_
  rintro e w' ⟨rfl, g', cp', h1, h2, h3, h4, h5⟩
  exact ⟨rfl, g', cp', ins_ok h hy hlt hln (by rw [hv]; exact h1) h2 h3 h4 h5, h4, h5⟩
theorem edAfter (h : EdS w ba fv b f g cp L x ix st) {y : AE} (hy : EdNew w ba b g f L y) (i : Nat) (hi : ix = i) (hlt : i < L.length) (hln : L.length + 1 ≤ 1000) (hst : -1000 ≤ st ∧ st ≤ 1000) :
    Calls Tryz.prog 61 #[cur ba, y.val] w (EdTo w ba fv b f g x (L.take (i + 1) ++ y :: L.drop (i + 1)) ix (st + 1)) := by
  subst hi
  have hne := h.ne
  obtain ⟨t, u, hv⟩ := y.val_one
  have hE : ∀ w, (Instr.typeAssert (.iface t u) 59 62 false).run Tryz.prog w = .ok (.iface t u) w := fun w => hv ▸ taExpr y w
  rw [hv]
  refine (insAfter_any h.app h.inn.1 rfl h.inn.2.2.1.1 hne.1 hne.2.1 hne.2.2 hlt h.inn.2.2.1.2 (val_one' L) hE hst).mono ?_
  rintro e w' ⟨rfl, g', cp', h1, h2, h3, h4, h5⟩
  exact ⟨rfl, g', cp', ins_ok h hy (by omega) hln (by rw [hv]; exact h1) h2 h3 h4 h5, h4, h5⟩
theorem edReplace (h : EdS w ba fv b f g cp L x ix st) {y : AE} (hy : EdNew w ba b g f L y) (i : Nat) (hi : ix = i) (hlt : i < L.length) :
    Calls Tryz.prog replF #[cur ba, y.val] w (EdTo w ba fv b f g x (L.take i ++ y :: L.drop (i + 1)) ix st) := by
  subst hi
  have hne := h.ne
  obtain ⟨t, u, hv⟩ := y.val_one
  obtain ⟨tx, ux, hx, htx⟩ := x.val_file
  have hE : ∀ w, (Instr.typeAssert (.iface t u) 59 62 false).run Tryz.prog w = .ok (.iface t u) w := fun w => hv ▸ taExpr y w
  have happ := h.app
  rw [hx] at happ
  have hrow := h.inn.2.2.1.1
  have hcell : w.cell? ⟨g, i, none⟩ = some L[i].val := hrow.cell (by rw [List.getElem?_map, List.getElem?_eq_getElem hlt]; rfl)
  have hL : L.take i ++ L[i] :: L.drop (i + 1) = L := by rw [← List.drop_eq_getElem_cons hlt, List.take_append_drop]
  obtain ⟨hl, hn, hm, curr, hblk, hsz, htk⟩ := hrow
  rw [hv]
  refine (replace_list (n := L.length) (cp := cp) happ htx hE (h.inn.1.cell 2) hlt hcell (hblk.frozen i)).mono ?_
  rintro e w' ⟨rfl, hs⟩
  have hk : Kept [ba, b, g] w w' := (((Kept.refl [ba, b, g] w).set (p := ⟨g, i, none⟩) (.inl (by simp)) (.iface t u)).alloc _).heapy hs
  have hlen : (L.take i ++ y :: L.drop (i + 1)).length = L.length := by rw [List.length_append, List.length_cons, List.length_take, List.length_drop]; omega
  refine ⟨rfl, g, cp, ?_, hk, .inl rfl⟩
  refine h.again hk (.inl rfl) ?_ ?_ ?_ (by rw [hlen]; exact h.inn.2.2.1.2) ?_ ?_
  · exact Blk.same ((Blk.far (p := ⟨g, i, none⟩) h.app (by exact hne.2.2) _).alloc _) (by rw [hs.1])
  · rw [hlen]
    refine ⟨by rw [List.length_map, hlen, Nat.mul_one], hn, hm, curr.setIfInBounds i (.iface t u), ((hblk.set_ i (.iface t u)).alloc _).same (by rw [hs.1]), by rw [Array.size_setIfInBounds, hsz], ?_⟩
    rw [Array.toList_setIfInBounds, Nat.mul_one, List.take_set]
    rw [Nat.mul_one] at htk
    rw [htk, ← hv, List.set_eq_take_append_cons_drop, if_pos (by rw [List.length_map]; exact hlt)]
    simp
  · rw [hlen]
    exact ((h.inn.1.far (p := ⟨g, i, none⟩) (by exact hne.1) _).alloc _).same (by rw [hs.1])
  · rw [(perm_ins b f y _ _).nodup_iff, List.nodup_append]
    have h0 := h.nd
    rw [← hL] at h0
    have h1 := (List.nodup_append.1 ((perm_ins b f L[i] _ _).nodup_iff.1 h0)).2.1
    refine ⟨hy.nd, h1, fun k hk k' hk' e => (hy.out k hk).1 ?_⟩
    rw [← hL]
    exact (perm_ins b f L[i] _ _).mem_iff.2 (List.mem_append_right _ (e ▸ hk'))
  · intro z hz
    by_cases e : z = y
    · subst e
      refine ⟨In.apart hk hy.inn ⟨fun hm => (hy.out _ hm).2.1 rfl, fun hm => (hy.out _ hm).1 List.mem_cons_self, fun hm => (hy.out _ hm).2.2 rfl⟩, fun hm => (hy.out _ hm).2.1 rfl, fun hm => (hy.out _ hm).2.2 rfl, AE.In.lt _ hy.inn⟩
    · have hm : z ∈ L := by
        rcases List.mem_append.1 hz with hz | hz
        · exact List.mem_of_mem_take hz
        · rcases List.mem_cons.1 hz with rfl | hz
          · exact absurd rfl e
          · exact List.mem_of_mem_drop hz
      have hy2 := h.elt (List.mem_cons_of_mem _ hm)
      exact ⟨In.apart hk hy2.1 hy2.2, hy2.2.1, hy2.2.2.2, AE.In.lt _ hy2.1⟩
end
end Go.Proofs.YtgimbgpebpippaaGreatDoor
namespace Go.Proofs.YtgimbgpebpippaaGreatDoor
open Go.RowKit
set_option maxRecDepth 100000
set_option maxHeartbeats 4000000
/-- What stands in an argument's stead. -/
def edN (how : Int) (n : Node) : List Node :=
  (if how = 2 ∨ how = 4 then [.mk sInt ⟨#[55]⟩ []] else []) ++ ((if how = 1 then [] else if how = 5 then [.mk sName ⟨#[114]⟩ []] else [n]) ++ (if how = 3 ∨ how = 4 then [.mk sInt ⟨#[56]⟩ []] else []))
theorem edN_len (how : Int) (n : Node) : (edN how n).length ≤ 3 := by
  unfold edN
  simp only [List.length_append]
  have h1 : (if how = 2 ∨ how = 4 then [Node.mk sInt ⟨#[55]⟩ []] else []).length ≤ 1 := by split <;> simp
  have h2 : (if how = 1 then [] else if how = 5 then [Node.mk sName ⟨#[114]⟩ []] else [n]).length ≤ 1 := by split <;> (try split) <;> simp
  have h3 : (if how = 3 ∨ how = 4 then [Node.mk sInt ⟨#[56]⟩ []] else []).length ≤ 1 := by split <;> simp
  omega
section
variable {w w' : World} {ba : Nat} {fv : Value} {b : Nat} {f : AE} {g cp : Nat} {L : List AE} {x : AE} {ix st : Int}
theorem EdS.kept0 (h : EdS w ba fv b f g cp L x ix st) (hk : Kept [] w w') : EdS w' ba fv b f g cp L x ix st :=
  ⟨hk.blk h.app (by simp), AE.In.same _ (fun k hm => hk.2 k (AE.In.lt _ h.inn k hm) (by simp)) h.inn, h.nd, h.gn, h.an, AE.In.same _ (fun k hm => hk.2 k (AE.In.lt _ h.xin k hm) (by simp)) h.xin, h.xn⟩
theorem EdS.fresh (h : EdS w ba fv b f g cp L x ix st) {y : AE} (hy : y.In w') (hn : y.New w.heap.size) : EdNew w' ba b g f L y := by
  have hlt := AE.In.lt _ h.inn
  have hal := Blk.lt h.app
  refine ⟨hy, hn.2, fun k hk => ?_⟩
  have hge := hn.1 k hk
  refine ⟨fun hm => ?_, by omega, fun e => ?_⟩
  · have := hlt k (by
      simp only [List.mem_cons] at hm
      simp only [AE.blocks, List.mem_cons]
      rcases hm with h | h
      · exact .inl h
      · exact .inr (.inr h))
    omega
  · have := hlt g (by simp [AE.blocks])
    omega
end
/-- What a change leaves. -/
def EdEnd (w : World) (ba : Nat) (fv : Value) (b : Nat) (f : AE) (g : Nat) (x : AE) (dn rest : List AE) (ns : List Node) (e : Ending) (w' : World) : Prop :=
  e = .returned (.tuple #[]) ∧ ∃ (mid : List AE) (g' cp' : Nat) (ix' st' : Int), nodeL mid = ns ∧ ix' + st' = (dn.length : Int) + (mid.length : Int) ∧ EdS w' ba fv b f g' cp' (dn ++ (mid ++ rest)) x ix' st' ∧ Grows w.heap.size (blocksL (dn ++ x :: rest)) (blocksL (dn ++ (mid ++ rest))) ∧ Kept [ba, b, g] w w' ∧ (g' = g ∨ w.heap.size ≤ g')
theorem grow_mid (B : Nat) (dn rest mid : List AE) (x : AE) (h : ∀ y ∈ mid, y = x ∨ ∀ k ∈ y.blocks, B ≤ k) : Grows B (blocksL (dn ++ x :: rest)) (blocksL (dn ++ (mid ++ rest))) := fun k hk => by
  simp only [blocksL_append, blocksL, List.mem_append] at hk ⊢
  rcases hk with hk | hk | hk
  · exact .inl (.inl hk)
  · obtain ⟨y, hy, hk⟩ := mem_blocksL' hk
    rcases h y hy with rfl | h
    · exact .inl (.inr (.inl hk))
    · exact .inr (h k hk)
  · exact .inl (.inr (.inr hk))
theorem EdTo.next {w w1 w2 w3 : World} {ba : Nat} {b g g1 g2 : Nat} (hk0 : Kept [] w w1) (hk1 : Kept [ba, b, g] w1 w2) (hg1 : g1 = g ∨ w1.heap.size ≤ g1) (hk2 : Kept [ba, b, g1] w2 w3) (hg2 : g2 = g1 ∨ w2.heap.size ≤ g2) : Kept [ba, b, g] w w3 ∧ (g2 = g ∨ w.heap.size ≤ g2) := by
  have s0 := hk0.1
  have s1 := hk1.1
  have h01 : Kept [ba, b, g] w w2 := (hk0.more (own' := [ba, b, g]) (fun k hk => by cases hk)).trans hk1 (Grows.refl _ _)
  refine ⟨h01.trans hk2 (fun k hk => ?_), ?_⟩
  · simp only [List.mem_cons, List.not_mem_nil, or_false] at hk ⊢
    rcases hk with h | h | h
    · exact .inl (.inl h)
    · exact .inl (.inr (.inl h))
    · rcases hg1 with e | e
      · exact .inl (.inr (.inr (h.trans e)))
      · exact .inr (by omega)
  · rcases hg2 with e | e
    · rcases hg1 with e1 | e1
      · exact .inl (e.trans e1)
      · exact .inr (by omega)
    · exact .inr (by omega)
theorem kept_first {w w1 w2 : World} {l : List Nat} (hk0 : Kept [] w w1) (hk1 : Kept l w1 w2) : Kept l w w2 := (hk0.more (own' := l) (fun k hk => by cases hk)).trans hk1 (Grows.refl _ _)
theorem tk0 (dn rest : List AE) (x : AE) : (dn ++ x :: rest).take dn.length = dn := List.take_left' rfl
theorem dp0 (dn rest : List AE) (x : AE) : (dn ++ x :: rest).drop dn.length = x :: rest := List.drop_left' rfl
theorem tk1 (dn rest : List AE) (x : AE) : (dn ++ x :: rest).take (dn.length + 1) = dn ++ [x] := by
  rw [show dn ++ x :: rest = (dn ++ [x]) ++ rest by simp]
  exact List.take_left' (by simp)
theorem dp1 (dn rest : List AE) (x : AE) : (dn ++ x :: rest).drop (dn.length + 1) = rest := by
  rw [show dn ++ x :: rest = (dn ++ [x]) ++ rest by simp]
  exact List.drop_left' (by simp)
theorem change_any {w : World} {ba : Nat} {fv : Value} {b : Nat} {f : AE} {g cp : Nat} {x : AE} (dn rest : List AE) (how : Int) (hhow : 0 ≤ how ∧ how ≤ 5) (h : EdS w ba fv b f g cp (dn ++ x :: rest) x dn.length 1) (hln : (dn ++ x :: rest).length + 2 ≤ 1000) :
    Calls Tryz.prog 53 #[cur ba, .int .i64 how] w (EdEnd w ba fv b f g x dn rest (edN how x.node)) := by
  have HS := Lib.hid h
  have hlt : dn.length < (dn ++ x :: rest).length := by simp
  have hl2 : (dn ++ x :: rest).length = dn.length + 1 + rest.length := by simp; omega
  have zb := Blk.lt h.app
  have HL := Lib.hid (And.intro hlt (And.intro hl2 hln))
  clear h hlt hl2 hln
  obtain rfl | rfl | rfl | rfl | rfl | rfl : how = 0 ∨ how = 1 ∨ how = 2 ∨ how = 3 ∨ how = 4 ∨ how = 5 := by omega
  · go_enter Tryz.func53, Tryz.ntmps53
    go_wp2_with fail
    exact ⟨rfl, _, results_none rfl _ _ _, rfl, [x], g, cp, dn.length, 1, rfl, rfl, HS.out, grow_mid _ _ _ _ _ (by simp), Kept.refl _ _, .inl rfl⟩
  · go_enter Tryz.func53, Tryz.ntmps53
    go_wp2_with fail
    refine (edDelete HS.out dn.length rfl HL.out.1 ⟨by omega, by omega⟩).mono ?_
    rintro e w2 ⟨rfl, g', cp', h2, hk, hg⟩
    rw [tk0, dp1] at h2
    have H2 := Lib.hid (And.intro h2 (And.intro hk hg))
    clear h2 hk hg
    go_wp2_with fail
    exact ⟨rfl, _, results_none rfl _ _ _, rfl, [], g', cp', dn.length, 0, rfl, by simp, H2.out.1, grow_mid _ _ _ _ _ (by simp), H2.out.2.1, H2.out.2.2⟩
  · go_enter Tryz.func53, Tryz.ntmps53
    go_wp2_with fail
    refine (exprOf_int ⟨#[55]⟩ none 0 w (by decide)).mono ?_
    rintro e w1 ⟨y1, he, hyi, hyn, hynew, hyb⟩
    obtain ⟨t1, u1, hv1⟩ := y1.val_one
    rw [hv1] at he
    subst he
    have hk1 : Kept [] w w1 := .of hyb
    have hfr1 := HS.out.fresh hyi hynew
    have HB := Lib.hid (edBefore (HS.out.kept0 hk1) hfr1 dn.length rfl (Nat.le_of_lt HL.out.1) (by have := HL.out.2.2; omega))
    have HK := Lib.hid hk1
    have HY := Lib.hid (And.intro hyn (And.intro hv1 hynew.1))
    rw [hv1] at HB
    clear hk1 hfr1 hyi hyn hynew hyb hv1
    go_wp2_with fail
    refine HB.out.mono ?_
    rintro e w2 ⟨rfl, g', cp', h2, hk, hg⟩
    rw [tk0, dp0] at h2
    have H2 := Lib.hid (And.intro h2 (And.intro hk hg))
    clear h2 hk hg
    go_wp2_with fail
    exact ⟨rfl, _, results_none rfl _ _ _, rfl, [y1, x], g', cp', dn.length + 1, 1, by rw [nodeL, nodeL, nodeL, HY.out.1]; rfl, by simp; omega, H2.out.1, grow_mid _ _ _ _ _ (by simp only [List.mem_cons, List.not_mem_nil, or_false]; rintro y (rfl | rfl); exact .inr HY.out.2.2; exact .inl rfl), kept_first HK.out H2.out.2.1, H2.out.2.2.imp id (fun h => Nat.le_trans HK.out.1 h)⟩
  · go_enter Tryz.func53, Tryz.ntmps53
    go_wp2_with fail
    refine (exprOf_int ⟨#[56]⟩ none 0 w (by decide)).mono ?_
    rintro e w1 ⟨y1, he, hyi, hyn, hynew, hyb⟩
    obtain ⟨t1, u1, hv1⟩ := y1.val_one
    rw [hv1] at he
    subst he
    have hk1 : Kept [] w w1 := .of hyb
    have hfr1 := HS.out.fresh hyi hynew
    have HB := Lib.hid (edAfter (HS.out.kept0 hk1) hfr1 dn.length rfl HL.out.1 (by have := HL.out.2.2; omega) ⟨by omega, by omega⟩)
    have HK := Lib.hid hk1
    have HY := Lib.hid (And.intro hyn (And.intro hv1 hynew.1))
    rw [hv1] at HB
    clear hk1 hfr1 hyi hyn hynew hyb hv1
    go_wp2_with fail
    refine HB.out.mono ?_
    rintro e w2 ⟨rfl, g', cp', h2, hk, hg⟩
    rw [tk1, dp1, List.append_assoc] at h2
    have H2 := Lib.hid (And.intro h2 (And.intro hk hg))
    clear h2 hk hg
    go_wp2_with fail
    exact ⟨rfl, _, results_none rfl _ _ _, rfl, [x, y1], g', cp', dn.length, 1 + 1, by rw [nodeL, nodeL, nodeL, HY.out.1]; rfl, by simp, H2.out.1, grow_mid _ _ _ _ _ (by simp only [List.mem_cons, List.not_mem_nil, or_false]; rintro y (rfl | rfl); exact .inl rfl; exact .inr HY.out.2.2), kept_first HK.out H2.out.2.1, H2.out.2.2.imp id (fun h => Nat.le_trans HK.out.1 h)⟩
  · go_enter Tryz.func53, Tryz.ntmps53
    go_wp2_with fail
    refine (exprOf_int ⟨#[55]⟩ none 0 w (by decide)).mono ?_
    rintro e w1 ⟨y1, he, hyi, hyn, hynew, hyb⟩
    obtain ⟨t1, u1, hv1⟩ := y1.val_one
    rw [hv1] at he
    subst he
    have hk1 : Kept [] w w1 := .of hyb
    have hfr1 := HS.out.fresh hyi hynew
    have HB := Lib.hid (edBefore (HS.out.kept0 hk1) hfr1 dn.length rfl (Nat.le_of_lt HL.out.1) (by have := HL.out.2.2; omega))
    have HK := Lib.hid hk1
    have HY := Lib.hid (And.intro hyn (And.intro hv1 hynew.1))
    rw [hv1] at HB
    clear hk1 hfr1 hyi hyn hynew hyb hv1
    go_wp2_with fail
    refine HB.out.mono ?_
    rintro e w2 ⟨rfl, g', cp', h2, hk, hg⟩
    rw [tk0, dp0] at h2
    have H2 := Lib.hid (And.intro h2 (And.intro hk hg))
    clear h2 hk hg
    go_wp2_with fail
    refine (exprOf_int ⟨#[56]⟩ none 0 w2 (by decide)).mono ?_
    rintro e w3 ⟨y2, he, hyi, hyn, hynew, hyb⟩
    obtain ⟨t2, u2, hv2⟩ := y2.val_one
    rw [hv2] at he
    subst he
    have hk2 : Kept [] w2 w3 := .of hyb
    have hfr2 := H2.out.1.fresh hyi hynew
    have hl3 : (dn ++ y1 :: x :: rest).length = (dn ++ x :: rest).length + 1 := by simp only [List.length_append, List.length_cons]; omega
    have HB2 := Lib.hid (edAfter (H2.out.1.kept0 hk2) hfr2 (dn.length + 1) (by simp) (by have := HL.out.1; omega) (by have := HL.out.2.2; omega) ⟨by omega, by omega⟩)
    have HK2 := Lib.hid hk2
    have HY2 := Lib.hid (And.intro hyn (And.intro hv2 hynew.1))
    rw [hv2] at HB2
    clear hk2 hfr2 hyi hyn hynew hyb hv2 hl3
    go_wp2_with fail
    refine HB2.out.mono ?_
    rintro e w4 ⟨rfl, g2, cp2, h2, hk, hg⟩
    have e1 : (dn ++ y1 :: x :: rest).take (dn.length + 1 + 1) = dn ++ [y1, x] := by
      rw [show dn ++ y1 :: x :: rest = (dn ++ [y1, x]) ++ rest by simp]
      exact List.take_left' (by simp)
    have e2 : (dn ++ y1 :: x :: rest).drop (dn.length + 1 + 1) = rest := by
      rw [show dn ++ y1 :: x :: rest = (dn ++ [y1, x]) ++ rest by simp]
      exact List.drop_left' (by simp)
    rw [e1, e2, List.append_assoc] at h2
    have hnx := EdTo.next HK.out H2.out.2.1 H2.out.2.2 (kept_first HK2.out hk) (hg.imp id (fun h => Nat.le_trans HK2.out.1 h))
    have H4 := Lib.hid (And.intro h2 hnx)
    clear h2 hk hg hnx e1 e2
    go_wp2_with fail
    exact ⟨rfl, _, results_none rfl _ _ _, rfl, [y1, x, y2], g2, cp2, dn.length + 1, 1 + 1, by rw [nodeL, nodeL, nodeL, nodeL, HY.out.1, HY2.out.1]; rfl, by simp; omega, H4.out.1, grow_mid _ _ _ _ _ (by simp only [List.mem_cons, List.not_mem_nil, or_false]; rintro y (rfl | rfl | rfl); exact .inr HY.out.2.2; exact .inl rfl; exact .inr (fun k hk => Nat.le_trans (Nat.le_trans HK.out.1 H2.out.2.1.1) (HY2.out.2.2 k hk))), H4.out.2.1, H4.out.2.2⟩
  · go_enter Tryz.func53, Tryz.ntmps53
    go_wp2_with fail
    refine (newIdent_any ⟨#[114]⟩ w).mono ?_
    rintro e w1 ⟨rfl, rfl⟩
    have hk1 : Kept [] w (w.alloc (.cells #[.int .i64 0, .string ⟨#[114]⟩, .pointer none] 83)) := (Kept.refl [] w).alloc _
    have hy : (AE.ident w.heap.size ⟨#[114]⟩).In (w.alloc (.cells #[.int .i64 0, .string ⟨#[114]⟩, .pointer none] 83)) := ⟨by decide, Blk.new w _ _⟩
    have hfr1 := HS.out.fresh hy ⟨fun k hk => by simp [AE.blocks] at hk; omega, by simp [AE.blocks]⟩
    have HB := Lib.hid (edReplace (HS.out.kept0 hk1) hfr1 dn.length rfl HL.out.1)
    have HK := Lib.hid hk1
    clear hk1 hfr1 hy
    unfold AE.val at HB
    go_wp2_with fail
    refine HB.out.mono ?_
    rintro e w2 ⟨rfl, g', cp', h2, hk, hg⟩
    rw [tk0, dp1] at h2
    have H2 := Lib.hid (And.intro h2 (And.intro hk hg))
    clear h2 hk hg
    go_wp2_with fail
    exact ⟨rfl, _, results_none rfl _ _ _, rfl, [.ident w.heap.size ⟨#[114]⟩], g', cp', dn.length, 1, rfl, by simp, H2.out.1, grow_mid _ _ _ _ _ (by simp only [List.mem_cons, List.not_mem_nil, or_false]; rintro y rfl; exact .inr (fun k hk => by simp [AE.blocks] at hk; omega)), kept_first HK.out H2.out.2.1, H2.out.2.2.imp id (fun h => Nat.le_trans HK.out.1 h)⟩
end Go.Proofs.YtgimbgpebpippaaGreatDoor
