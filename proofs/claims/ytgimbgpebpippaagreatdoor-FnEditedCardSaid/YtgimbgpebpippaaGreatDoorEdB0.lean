/- insert and remove of a list of expressions: what both want. -/
import Derived.Test.YtgimbgpebpippaaGreatDoorFrLs
import Derived.Test.YtgimbgpebpippaaGreatDoorApLst
import Derived.Deep.RegionLaw
import Derived.Laws.CopyOwn
namespace Go.Proofs.YtgimbgpebpippaaGreatDoor
open Go.RowKit
set_option maxRecDepth 100000
set_option maxHeartbeats 4000000
theorem Tryz.infoExprE : (Tryz.prog.info? 62).map (fun i => (i.zero, i.size, i.bytes)) = some (some .nilIface, 1, 16) := by kernel_rfl
abbrev insF : FuncId := 338
abbrev remF : FuncId := 340
theorem addr_add (g i j : Nat) : (⟨g, i, none⟩ : Addr).add j = ⟨g, i + j, none⟩ := by unfold Addr.add; split <;> simp_all
/-- copy within rows that are known, in a region that draws its order: all but the row stays. -/
theorem step_copy_kept {P : Program} {ops : Array Oper} {o : Oper} {a : Act} {w : World} {K : Act → World → Prop} {Q : Exit → Act → World → Prop} {E : Prop} (hgd : o.guard = none) (d s : Operand) (dT sT : TypeId)
    (ho : o.op = .call { callee := .builtin .copy, args := #[d, s], argTypes := #[dT, sT] }) (elem : TypeId) (hu : P.underlying dT = some (.slice elem)) (hsz : (P.info? elem).map (·.size) = some 1)
    (dp sp : Option Addr) (dLen dCap sLen sCap : Nat) (hd : a.eval d = .slice dp dLen dCap) (hs : a.eval s = .slice sp sLen sCap)
    (g off : Nat) (cur : List Value) (t : TypeId) (hg : Blk w g t cur.toArray) (cs : List Value) (hn : cs.length = Nat.min sLen dLen)
    (hpos : 0 < cs.length → dp = some ⟨g, off, none⟩ ∧ ∃ ad, sp = some ad ∧ ∀ j v, cs[j]? = some v → w.cell? (ad.add j) = some v)
    (hfit : off + cs.length ≤ cur.length) (h1 : ∀ v ∈ cs, v.oneCell' = true)
    (h : ∀ w', Hid (Blk w' g t (splice cur off cs).toArray) → Kept [g] w w' → K (a.put o.dst (goInt cs.length)) w') :
    if Region.wanted o (yielded ops a.tmps) = true then Oper.wp P o a w K Q else E := by
  have hw : Region.wanted o (yielded ops a.tmps) = true := by simp [Region.wanted, hgd]
  rw [if_pos hw]
  by_cases h0 : cs.length = 0
  · obtain rfl : cs = [] := List.eq_nil_of_length_eq_zero h0
    have hrun := run_copy_none (P := P) w dT sT o.type elem dp sp dLen dCap sLen sCap hu hsz (by simpa using hn.symm)
    unfold Oper.wp
    simp [execOp, ho, resolve, invoke, builtin, hd, hs, hrun, Result.andThen]
    exact h w (show Blk w g t _ by simpa [splice] using hg) (Kept.refl _ _)
  · obtain ⟨rfl, ad, rfl, hsrc⟩ := hpos (by omega)
    have hrun := run_copy_row (P := P) w dT sT o.type elem g off dLen dCap ad sLen sCap cur.toArray t cs hu hsz hg hn hsrc (by simpa using hfit) h1
    unfold Oper.wp
    simp [execOp, ho, resolve, invoke, builtin, hd, hs, hrun, Result.andThen]
    exact h _ (show _ = _ by simpa [splice] using setRow_heap w g _ _ t _ hg) ⟨by simp [World.setRow], fun k hk hn => setRow_other w g k _ (by simpa using hn), rfl, rfl, rfl⟩
end Go.Proofs.YtgimbgpebpippaaGreatDoor
namespace Go.Proofs.YtgimbgpebpippaaGreatDoor
open Go.RowKit
set_option maxRecDepth 100000
set_option maxHeartbeats 4000000
theorem ins_take {α : Type} {xs cur : List α} {n i : Nat} {z v : α} (hx : xs.length = n) (hi : i ≤ n) (hc : n + 1 ≤ cur.length) (ht : cur.take (n + 1) = xs ++ [z]) : ((splice cur (i + 1) (xs.drop i)).set i v).take (n + 1) = xs.take i ++ v :: xs.drop i := by
  have hl : (xs.drop i).length = n - i := by rw [List.length_drop, hx]
  have hs : (splice cur (i + 1) (xs.drop i)).length = cur.length := length_splice _ _ _ (by omega)
  rw [List.set_eq_take_append_cons_drop, if_pos (by omega)]
  have a1 : (splice cur (i + 1) (xs.drop i)).take i = xs.take i := by
    unfold splice
    rw [List.take_append_of_le_length (by rw [List.length_take]; omega), List.take_take, Nat.min_eq_left (by omega)]
    have := congrArg (List.take i) ht
    rw [List.take_take, Nat.min_eq_left (by omega), List.take_append_of_le_length (by omega)] at this
    exact this
  have a2 : (splice cur (i + 1) (xs.drop i)).drop (i + 1) = xs.drop i ++ cur.drop (i + 1 + (xs.drop i).length) := by
    unfold splice
    exact List.drop_left' (by rw [List.length_take]; omega)
  rw [a1, a2, show xs.take i ++ v :: (xs.drop i ++ cur.drop (i + 1 + (xs.drop i).length)) = (xs.take i ++ v :: xs.drop i) ++ cur.drop (i + 1 + (xs.drop i).length) by simp]
  exact List.take_left' (by rw [List.length_append, List.length_cons, List.length_take, hl]; omega)
theorem listInsert_any {w : World} {b k g n c i : Nat} {T : TypeId} {cs : Array Value} {xs : List Value} {t : TypeId} {u : Value} (hb : Blk w b T cs) (hk : cs[k]? = some (.slice (some ⟨g, 0, none⟩) n c)) (hrow : Row w g 62 1 n xs c) (hbg : b ≠ g)
    (hi : i ≤ n) (hn : n ≤ 1000) (hone : ∀ x ∈ xs, x.oneCell' = true) (hE : ∀ w, (Instr.typeAssert (.iface t u) 59 62 false).run Tryz.prog w = .ok (.iface t u) w) :
    Calls Tryz.prog insF #[.agg #[.pointer (some ⟨b, k, none⟩)], .int .i64 i, .iface t u] w fun e w' => e = .returned (.tuple #[]) ∧ ∃ g' c', Row w' g' 62 1 (n + 1) (xs.take i ++ .iface t u :: xs.drop i) c' ∧
      Blk w' b T (cs.setIfInBounds k (.slice (some ⟨g', 0, none⟩) (n + 1) c')) ∧ Kept [b, g] w w' ∧ (g' = g ∨ w.heap.size ≤ g') := by
  obtain ⟨i0, hi0, hz0, hz1, hz2⟩ := info_parts Tryz.infoExprE
  have h0 : w.cell? ⟨b, k, none⟩ = some (.slice (some ⟨g, 0, none⟩) n c) := (hb.cell k).trans hk
  have zb := hb.lt
  have zg := hrow.lt
  have HI := Lib.hid (And.intro hi0 (And.intro hz0 (And.intro hz1 hz2)))
  have HB := Lib.hid (And.intro hb (And.intro hrow hone))
  have q0 : (0 : Int) ≤ (i : Int) := by omega
  have q1 : (i : Int) ≤ (n : Int) := by omega
  have hw1 : IntKind.i64.wrap ((i : Int) + 1) = ((i + 1 : Nat) : Int) := by rw [IntWalk.i64_in _ (by omega)]; omega
  clear hi0 hz0 hz1 hz2 hb hrow hk
  go_enter Tryz.func338, Tryz.ntmps338
  go_wp2_with (at_builtin; refine wpList_append_row _ rfl (.tmp 11) (.tmp 13) 88 rfl 62 i0 .nilIface 1 16 Tryz.underlying88 HI.out.1 HI.out.2.1 HI.out.2.2.1 HI.out.2.2.2 rfl (by decide) g c n xs rfl ?c1 ⟨w.heap.size + 1, 0, none⟩ 1 1 [.nilIface] rfl rfl ?c2 ?c3 ?c4 ?c5 ?_)
  case c1 => exact (HB.out.2.1.same (Below.heap_alloc _ _ _ zg)).same (Below.heap_alloc _ _ _ (by rw [World.size_alloc]; omega))
  case c2 => exact cells_new rfl _ (by simp only [World.size_alloc])
  case c3 => intro u hu; rw [List.mem_singleton] at hu; subst hu; rfl
  case c4 => unfold maxLen; omega
  case c5 => omega
  intro g' cap' w3 hrow' hg hg'
  obtain ⟨hl', hn', hm', cur, hblk, hsz, htk⟩ := hrow'
  have HR := Lib.hid (And.intro hblk (And.intro hsz (And.intro htk (And.intro hg hg'))))
  clear hl' hblk hsz htk hg hg'
  have q2 : ((i + 1 : Nat) : Int) ≤ ((n + 1 : Nat) : Int) := by omega
  have q3 : ((n + 1 : Nat) : Int) ≤ (cap' : Int) := by omega
  have q4 : (i : Int) ≤ (n : Int) + 1 := by omega
  have q5 : (0 : Int) ≤ (i : Int) + 1 := by omega
  have hxl : xs.length = n := by have := HB.out.2.1.1; omega
  have hci : (cap' = i) = False := by simp only [eq_iff_iff, iff_false]; omega
  have hcur : ∀ j v, xs[j]? = some v → cur[j]? = some v := fun j v hv => by
    have hlt : j < xs.length := by
      rcases Nat.lt_or_ge j xs.length with h | h
      · exact h
      · rw [List.getElem?_eq_none h] at hv; cases hv
    have h1 : (cur.toList.take ((n + 1) * 1))[j]? = some v := by rw [HR.out.2.2.1, List.getElem?_append_left hlt, hv]
    rw [List.getElem?_take, if_pos (by omega)] at h1
    simpa using h1
  have HC := Lib.hid hcur
  clear hcur
  go_wp2_with fail
  go_region_law
    (first
      | (refine step_copy_kept (by rfl) _ _ _ _ (by rfl) 62 Tryz.underlying88 (by kernel_rfl) _ _ _ _ _ _ rfl rfl g' (i + 1) cur.toList 62 (by exact HR.out.1) (xs.drop i) (by rw [List.length_drop, hxl]; show _ = min _ _; omega)
          (fun h => by
            rw [List.length_drop, hxl] at h
            refine ⟨by rw [if_neg (by omega)], ⟨g', i, none⟩, rfl, fun j v hv => ?_⟩
            rw [List.getElem?_drop] at hv
            have := HC.out _ _ hv
            rw [← this, ← HR.out.1.cell (i + j), addr_add]
            rfl) (by have := HR.out.2.1; rw [List.length_drop, hxl, Array.length_toList]; omega) (fun v hv => HB.out.2.2 v (List.mem_of_mem_drop hv)) ?_; intro w4 hg4 hk4))
  all_goals
    have sg := HR.out.2.2.2.1.size
    simp only [World.size_alloc] at sg
    have hgn : g' ≠ w.heap.size := by rcases HR.out.2.2.2.2 with h | h <;> omega
    have hgb : g' ≠ b := by rcases HR.out.2.2.2.2 with h | h <;> omega
    have hbg' : b ≠ g' := Ne.symm hgb
    have hng : w.heap.size ≠ g' := Ne.symm hgn
    have hbn : b ≠ w.heap.size := by omega
    have hcl : (splice cur.toList (i + 1) (xs.drop i)).length = cap' := by
      rw [length_splice _ _ _ (by have := HR.out.2.1; rw [List.length_drop, hxl, Array.length_toList]; omega), Array.length_toList, HR.out.2.1]; omega
    have hb4 : Blk w4 b T cs := by
      have h1 := (HB.out.1.alloc (.cells #[.pointer (some ⟨b, k, none⟩)] listT)).alloc (.cells #[.nilIface] 62)
      exact hk4.blk (h1.same (HR.out.2.2.2.1.block b (by simp only [World.size_alloc]; omega) (fun e => hbg (by cases e; rfl)))) (by rw [List.mem_singleton]; exact hbg')
    have hx4 : Blk w4 w.heap.size listT #[.pointer (some ⟨b, k, none⟩)] := by
      have h1 := (Blk.new w listT #[.pointer (some ⟨b, k, none⟩)]).alloc (.cells #[.nilIface] 62)
      exact hk4.blk (h1.same (HR.out.2.2.2.1.block _ (by simp only [World.size_alloc]; omega) (fun e => by cases e; omega))) (by rw [List.mem_singleton]; exact hng)
    obtain ⟨old, hold⟩ : ∃ old, (splice cur.toList (i + 1) (xs.drop i)).toArray[i]? = some old := ⟨_, by rw [List.getElem?_toArray]; exact List.getElem?_eq_getElem (by omega)⟩
    have c1 : w4.cell? ⟨g', i, none⟩ = some old := (hg4.out.cell i).trans hold
    have c2 : w4.frozen? ⟨g', i, none⟩ = false := hg4.out.frozen i
    have c3 : w4.cell? ⟨w.heap.size, 0, none⟩ = some (.pointer (some ⟨b, k, none⟩)) := hx4.cell 0
    have c4 : w4.cell? ⟨b, k, none⟩ = some (.slice (some ⟨g, 0, none⟩) n c) := (hb4.cell k).trans (HB.out.1.cell k ▸ h0)
    have c5 : w4.frozen? ⟨b, k, none⟩ = false := hb4.frozen k
    have z1 := hg4.out.lt
    have z2 := hx4.lt
    have z3 := hb4.lt
    have q6 : (i : Int) < (n : Int) + 1 := by omega
    have H4 := Lib.hid (And.intro hb4 (And.intro hg4 (And.intro hk4 (And.intro hcl sg))))
    clear hb4 hg4 hk4 hx4 hcl hold sg
    have HFin : Hid (Row ((w4.setCell ⟨g', i, none⟩ (.iface t u)).setCell ⟨b, k, none⟩ (.slice (some ⟨g', 0, none⟩) (n + 1) cap')) g' 62 1 (n + 1) (xs.take i ++ .iface t u :: xs.drop i) cap' ∧
        Blk ((w4.setCell ⟨g', i, none⟩ (.iface t u)).setCell ⟨b, k, none⟩ (.slice (some ⟨g', 0, none⟩) (n + 1) cap')) b T (cs.setIfInBounds k (.slice (some ⟨g', 0, none⟩) (n + 1) cap')) ∧
        Kept [b, g] w ((w4.setCell ⟨g', i, none⟩ (.iface t u)).setCell ⟨b, k, none⟩ (.slice (some ⟨g', 0, none⟩) (n + 1) cap')) ∧ (g' = g ∨ w.heap.size ≤ g')) := by
      refine ⟨⟨?_, hn', hm', (splice cur.toList (i + 1) (xs.drop i)).toArray.setIfInBounds i (.iface t u), (H4.out.2.1.out.set_ i _).far (by exact hgb) _, ?_, ?_⟩, (H4.out.1.far (by exact hbg') _).set_ k _, ?_, ?_⟩
      · rw [List.length_append, List.length_cons, List.length_take, List.length_drop, hxl]; omega
      · rw [Array.size_setIfInBounds, List.size_toArray, H4.out.2.2.2.1]; omega
      · rw [Array.toList_setIfInBounds, Nat.mul_one]
        have := HR.out.2.2.1
        rw [Nat.mul_one] at this
        exact ins_take hxl hi (by have := HR.out.2.1; rw [Array.length_toList]; omega) this
      · have hk0 : Kept [b, g] w w3 := by
          have h1 : Kept [b, g] w ((w.alloc (.cells #[.pointer (some ⟨b, k, none⟩)] listT)).alloc (.cells #[.nilIface] 62)) := ((Kept.refl _ w).alloc _).alloc _
          have hg0 := HR.out.2.2.2.1
          exact ⟨Nat.le_trans h1.1 hg0.size, fun x hx hnn => (hg0.block x (Nat.lt_of_lt_of_le hx h1.1) (fun e => hnn (by cases e; simp))).trans (h1.2 x hx hnn), hg0.os.trans h1.os, hg0.tape.trans h1.tape, hg0.output.trans h1.output⟩
        have hk1 : Kept [b, g] w w4 := hk0.drew.trans H4.out.2.2.1 (fun x hx => by
          have e : x = g' := List.mem_singleton.1 hx
          rw [e]
          rcases HR.out.2.2.2.2 with h | h
          · exact .inl (by rw [h]; simp)
          · exact .inr (by omega))
        refine (hk1.set (p := ⟨g', i, none⟩) ?_ _).set (p := ⟨b, k, none⟩) (.inl (by simp)) _
        rcases HR.out.2.2.2.2 with h | h
        · exact .inl (by rw [h]; simp)
        · exact .inr (by show w.heap.size ≤ g'; omega)
      · rcases HR.out.2.2.2.2 with h | h
        · exact .inl h
        · exact .inr (by omega)
    go_wp2_with fail
    all_goals
      first
      | exact ⟨rfl, _, results_none rfl _ _ _, rfl, _, _, HFin.out⟩
      | (have h := HFin.out
         simp only [‹cap' = i + 1›] at h
         exact ⟨rfl, _, results_none rfl _ _ _, rfl, _, _, h⟩)
end Go.Proofs.YtgimbgpebpippaaGreatDoor
namespace Go.Proofs.YtgimbgpebpippaaGreatDoor
open Go.RowKit
set_option maxRecDepth 100000
set_option maxHeartbeats 4000000
theorem rem_take {α : Type} {xs cur : List α} {n i : Nat} {v : α} (hx : xs.length = n) (hi : i < n) (ht : cur.take n = xs) : ((splice cur i (xs.drop (i + 1))).set (n - 1) v).take (n - 1) = xs.take i ++ xs.drop (i + 1) := by
  have hl : (xs.drop (i + 1)).length = n - (i + 1) := by rw [List.length_drop, hx]
  have a1 : cur.take i = xs.take i := by
    have := congrArg (List.take i) ht
    rwa [List.take_take, Nat.min_eq_left (by omega)] at this
  rw [List.take_set_of_le (by omega)]
  unfold splice
  rw [← List.append_assoc, a1]
  exact List.take_left' (by rw [List.length_append, List.length_take, hl]; omega)
theorem listRemove_any {w : World} {b k g n c i : Nat} {T : TypeId} {cs : Array Value} {xs : List Value} (hb : Blk w b T cs) (hk : cs[k]? = some (.slice (some ⟨g, 0, none⟩) n c)) (hrow : Row w g 62 1 n xs c) (hbg : b ≠ g)
    (hi : i < n) (hn : n ≤ 1000) (hone : ∀ x ∈ xs, x.oneCell' = true) :
    Calls Tryz.prog remF #[.agg #[.pointer (some ⟨b, k, none⟩)], .int .i64 i] w fun e w' => e = .returned (.tuple #[]) ∧ Row w' g 62 1 (n - 1) (xs.take i ++ xs.drop (i + 1)) c ∧
      Blk w' b T (cs.setIfInBounds k (.slice (some ⟨g, 0, none⟩) (n - 1) c)) ∧ Kept [b, g] w w' := by
  have h0 : w.cell? ⟨b, k, none⟩ = some (.slice (some ⟨g, 0, none⟩) n c) := (hb.cell k).trans hk
  have zb := hb.lt
  have zg := hrow.lt
  obtain ⟨hl', hn', hm', cur, hblk, hsz, htk⟩ := hrow
  have HB := Lib.hid (And.intro hb (And.intro hblk (And.intro hsz (And.intro htk (And.intro hl' hone)))))
  have q0 : (0 : Int) ≤ (i : Int) := by omega
  have q1 : (i : Int) ≤ (n : Int) := by omega
  have q3 : (i : Int) + 1 ≤ (n : Int) := by omega
  have q5 : (0 : Int) ≤ (i : Int) + 1 := by omega
  have q6 : (0 : Int) ≤ (n : Int) - 1 := by omega
  have q7 : (n : Int) - 1 < (n : Int) := by omega
  have q8 : (n : Int) - 1 ≤ (c : Int) := by omega
  have hw1 : IntKind.i64.wrap ((i : Int) + 1) = (i : Int) + 1 := IntWalk.i64_in _ (by omega)
  have hw2 : IntKind.i64.wrap ((n : Int) - 1) = (n : Int) - 1 := IntWalk.i64_in _ (by omega)
  have hxl : xs.length = n := by omega
  have hci : (c = i) = False := by simp only [eq_iff_iff, iff_false]; omega
  have hcur : ∀ j v, xs[j]? = some v → cur[j]? = some v := fun j v hv => by
    have hlt : j < xs.length := by
      rcases Nat.lt_or_ge j xs.length with h | h
      · exact h
      · rw [List.getElem?_eq_none h] at hv; cases hv
    have h1 : (cur.toList.take (n * 1))[j]? = some v := by rw [htk, hv]
    rw [List.getElem?_take, if_pos (by omega)] at h1
    simpa using h1
  have HC := Lib.hid hcur
  clear hcur hb hk hblk hsz htk hl' hone
  go_enter Tryz.func340, Tryz.ntmps340
  go_wp2_with fail
  go_region_law
    (first
      | (refine step_copy_kept (by rfl) _ _ _ _ (by rfl) 62 Tryz.underlying88 (by kernel_rfl) _ _ _ _ _ _ rfl rfl g i cur.toList 62 (by exact HB.out.2.1.alloc _) (xs.drop (i + 1)) (by rw [List.length_drop, hxl]; show _ = min _ _; omega)
          (fun h => by
            rw [List.length_drop, hxl] at h
            refine ⟨rfl, ⟨g, i + 1, none⟩, by rw [if_neg (by omega)], fun j v hv => ?_⟩
            rw [List.getElem?_drop] at hv
            have := HC.out _ _ hv
            rw [← this, ← (HB.out.2.1.alloc (.cells #[.pointer (some ⟨b, k, none⟩)] listT)).cell (i + 1 + j), addr_add]
            rfl) (by have := HB.out.2.2.1; rw [List.length_drop, hxl, Array.length_toList]; omega) (fun v hv => HB.out.2.2.2.2.2 v (List.mem_of_mem_drop hv)) ?_; intro w4 hg4 hk4))
  all_goals
    have hng : w.heap.size ≠ g := by omega
    have hgn : g ≠ w.heap.size := by omega
    have hgb : g ≠ b := Ne.symm hbg
    have hbn : b ≠ w.heap.size := by omega
    have hcl : (splice cur.toList i (xs.drop (i + 1))).length = c := by
      rw [length_splice _ _ _ (by have := HB.out.2.2.1; rw [List.length_drop, hxl, Array.length_toList]; omega), Array.length_toList, HB.out.2.2.1]; omega
    have hb4 : Blk w4 b T cs := hk4.blk (HB.out.1.alloc (.cells #[.pointer (some ⟨b, k, none⟩)] listT)) (by rw [List.mem_singleton]; exact hbg)
    have hx4 : Blk w4 w.heap.size listT #[.pointer (some ⟨b, k, none⟩)] := hk4.blk (Blk.new w listT #[.pointer (some ⟨b, k, none⟩)]) (by rw [List.mem_singleton]; exact hng)
    obtain ⟨old, hold⟩ : ∃ old, (splice cur.toList i (xs.drop (i + 1))).toArray[n - 1]? = some old := ⟨_, by rw [List.getElem?_toArray]; exact List.getElem?_eq_getElem (by omega)⟩
    have htn : ((n : Int) - 1).toNat = n - 1 := by omega
    have c1 : w4.cell? ⟨g, n - 1, none⟩ = some old := (hg4.out.cell (n - 1)).trans hold
    have c2 : w4.frozen? ⟨g, n - 1, none⟩ = false := hg4.out.frozen (n - 1)
    have c3 : w4.cell? ⟨w.heap.size, 0, none⟩ = some (.pointer (some ⟨b, k, none⟩)) := hx4.cell 0
    have c4 : w4.cell? ⟨b, k, none⟩ = some (.slice (some ⟨g, 0, none⟩) n c) := (hb4.cell k).trans (HB.out.1.cell k ▸ h0)
    have c5 : w4.frozen? ⟨b, k, none⟩ = false := hb4.frozen k
    have z1 := hg4.out.lt
    have z2 := hx4.lt
    have z3 := hb4.lt
    have hk5 : Kept [b, g] w w4 := by
      have h1 : Kept [b, g] w (w.alloc (.cells #[.pointer (some ⟨b, k, none⟩)] listT)) := (Kept.refl _ w).alloc _
      exact h1.trans ⟨hk4.1, hk4.2, hk4.3, hk4.4, hk4.5⟩ (fun x hx => by
        have e : x = g := List.mem_singleton.1 hx
        rw [e]
        exact .inl (by simp))
    have HFin : Hid (∀ w', Sm ((w4.setCell ⟨g, n - 1, none⟩ .nilIface).setCell ⟨b, k, none⟩ (.slice (some ⟨g, 0, none⟩) (n - 1) c)) w' → Row w' g 62 1 (n - 1) (xs.take i ++ xs.drop (i + 1)) c ∧ Blk w' b T (cs.setIfInBounds k (.slice (some ⟨g, 0, none⟩) (n - 1) c)) ∧ Kept [b, g] w w') := fun w' hw => by
      refine ⟨⟨?_, by omega, hm', (splice cur.toList i (xs.drop (i + 1))).toArray.setIfInBounds (n - 1) .nilIface, ((hg4.out.set_ (n - 1) .nilIface).far (p := ⟨b, k, none⟩) (by exact hgb) _).same (by rw [hw.1]), ?_, ?_⟩, ((hb4.far (p := ⟨g, n - 1, none⟩) (by exact hbg) _).set_ k _).same (by rw [hw.1]), ((hk5.set (p := ⟨g, n - 1, none⟩) (.inl (by simp)) _).set (p := ⟨b, k, none⟩) (.inl (by simp)) _).heapy hw⟩
      · rw [List.length_append, List.length_take, List.length_drop, hxl]; omega
      · rw [Array.size_setIfInBounds, List.size_toArray, hcl]; omega
      · rw [Array.toList_setIfInBounds, Nat.mul_one]
        have := HB.out.2.2.2.1
        rw [Nat.mul_one] at this
        exact rem_take hxl hi this
    clear hb4 hg4 hk4 hx4 hcl hold hk5
    obtain ⟨ad, had⟩ : ∃ ad, (if c = i + 1 then some (⟨g, 0, none⟩ : Addr) else some ⟨g, i + 1, none⟩) = ad := ⟨_, rfl⟩
    rw [had]
    clear had
    go_wp2_with fail
    go_region
    all_goals
      go_wp2_with fail
      exact ⟨rfl, _, results_none rfl _ _ _, rfl, HFin.out _ ⟨rfl, rfl, rfl, rfl⟩⟩
end Go.Proofs.YtgimbgpebpippaaGreatDoor
