/- The functions that Renamed, Unwrapped and Wrapped hand to Apply. -/
import Derived.Test.YtgimbgpebpippaaGreatDoorRpL
import Derived.Deep.RegionHeld3
import Derived.Test.YtgimbgpebpippaaGreatDoorRpD
namespace Go.Proofs.YtgimbgpebpippaaGreatDoor
open Go.RowKit
set_option maxRecDepth 100000
set_option maxHeartbeats 8000000
/-- Whether a place is a selector's name. -/
def Loc.isSel : Loc → Bool
  | .selS _ => true
  | _ => false
theorem Loc.isSel_of {L : Loc} (h : L.IsSel) : L.isSel = true := by cases L <;> first | rfl | exact h.elim
/-- A node that stands at a place, and the cursor there. -/
structure AtLoc (w : World) (ba : Nat) (fp fq : Value) (L : Loc) (x : AE) (ix st : Int) : Prop where
  app : App w ba fp fq L.pv L.nm (L.it ba) x.val ix st
  inn : x.In w
  ix : L.At ix
  row : L.Row w
  cell : ∃ T cs, Blk w L.blk T cs ∧ cs[L.off]? = some (L.cellv x.val)
  sel : L.IsSel → ∃ b nm, x = .ident b nm
  apart : L.blk ∉ x.blocks
  nodup : x.blocks.Nodup
/-- The place holds y in x's stead; all else is as it was, but for what is new. -/
structure Did (L : Loc) (y : AE) (w w' : World) : Prop where
  inn : y.In w'
  kept : Kept [L.blk] w w'
  cell : ∀ T cs, Blk w L.blk T cs → Blk w' L.blk T (cs.setIfInBounds L.off (L.cellv y.val))
/-- So it does, and y is made of x's blocks and of new ones. -/
structure Turn (L : Loc) (x y : AE) (w w' : World) : Prop extends Did L y w w' where
  grow : Grows w.heap.size x.blocks y.blocks
  nodup : y.blocks.Nodup
  sel : L.IsSel → ∃ b nm, y = .ident b nm
theorem set_same {cs : Array Value} {i : Nat} {v : Value} (h : cs[i]? = some v) : cs.setIfInBounds i v = cs := by
  apply Array.ext_getElem?
  intro j
  rw [Array.getElem?_setIfInBounds]
  split
  · rename_i e
    subst e
    split
    · exact h.symm
    · rename_i hn
      rw [Array.getElem?_eq_none (by omega)]
  · rfl
theorem AtLoc.stay {w w' : World} {ba : Nat} {fp fq : Value} {L : Loc} {x : AE} {ix st : Int} (H : AtLoc w ba fp fq L x ix st) (e : Sm w w') : Turn L x x w w' := by
  obtain ⟨T, cs, hb, hc⟩ := H.cell
  refine ⟨⟨AE.In.same x (fun b _ => by rw [e.1]) H.inn, (Kept.refl _ w).heapy e, fun T' cs' hb' => ?_⟩, Grows.refl _ _, H.nodup, H.sel⟩
  have e2 : (Obj.cells cs T (0, 0)) = .cells cs' T' (0, 0) := Option.some.inj (hb.symm.trans hb')
  injection e2 with e3 e4 _
  subst e3 e4
  rw [set_same hc]
  exact hb.same (by rw [e.1])
theorem missIdent (x : AE) (h : ∀ b nm, x ≠ .ident b nm) : ∃ t u, x.val = .iface t u ∧ ∀ w, (Instr.typeAssert (.iface t u) 59 79 true).run Tryz.prog w = .ok (.tuple #[.pointer none, .bool false]) w := by
  cases x with
  | ident b nm => exact absurd rfl (h b nm)
  | lit b tx => exact ⟨_, _, rfl, fun w => Tryz.taMissIdent _ _ w (by decide)⟩
  | paren b x => exact ⟨_, _, rfl, fun w => Tryz.taMissIdent _ _ w (by decide)⟩
  | sel b x sb nm => exact ⟨_, _, rfl, fun w => Tryz.taMissIdent _ _ w (by decide)⟩
  | star b x => exact ⟨_, _, rfl, fun w => Tryz.taMissIdent _ _ w (by decide)⟩
  | unary b op x => exact ⟨_, _, rfl, fun w => Tryz.taMissIdent _ _ w (by decide)⟩
  | binary b op x y => exact ⟨_, _, rfl, fun w => Tryz.taMissIdent _ _ w (by decide)⟩
  | index b x y => exact ⟨_, _, rfl, fun w => Tryz.taMissIdent _ _ w (by decide)⟩
  | call b f g cap args => exact ⟨_, _, rfl, fun w => Tryz.taMissIdent _ _ w (by decide)⟩
section
variable {w : World} {ba : Nat} {fp fq : Value} {L : Loc} {ix st : Int}
/-- Replace by a tree that has just been made. -/
theorem did_new {x y : AE} {w2 : World} (H : AtLoc w ba fp fq L x ix st) (hs : L.IsSel → ∃ b nm, y = .ident b nm) (hk : Kept [] w w2) (hy : ∀ w', (∀ k, w.heap.size ≤ k → k < w2.heap.size → w'.heap[k]? = w2.heap[k]?) → (∀ k, k < w.heap.size → k ≠ L.blk → w'.heap[k]? = w.heap[k]?) → y.In w') :
    Calls Tryz.prog replF #[cur ba, y.val] w2 fun e w' => e = .returned (.tuple #[]) ∧ Did L y w w' := by
  obtain ⟨T, cs, hb, hce⟩ := H.cell
  have hlt : L.off < cs.size := by
    rcases Nat.lt_or_ge L.off cs.size with h | h
    · exact h
    · rw [Array.getElem?_eq_none h] at hce; cases hce
  have hbl := hb.lt
  have hrow : L.Row w2 := by
    have h1 := H.row
    cases L with
    | arg b g n cp i => exact ⟨(World.cell?_of_block (hk.2 b (lt_of_cell h1.1) (by simp))).trans h1.1, h1.2⟩
    | _ => trivial
  refine (replace_any L x y (hk.blk H.app (by simp)) H.ix hrow ⟨T, cs, hk.blk hb (by simp), hlt⟩ hs).mono ?_
  rintro e w' ⟨rfl, h1, h2⟩
  have hsz := hk.1
  refine ⟨rfl, hy w' (fun k hk1 hk2 => h1.2 k hk2 (by rw [List.mem_singleton]; omega)) (fun k hk1 hn => (h1.2 k (by omega) (by rwa [List.mem_singleton])).trans (hk.2 k hk1 (by simp))), (hk.more (own' := [L.blk]) (fun b hb => by cases hb)).trans h1 (Grows.refl _ _), fun T cs hb => h2 T cs (hk.blk hb (by simp))⟩
variable {bf bt : Nat} {fr tw : ByteArray}
/-- Renamed's function at what is no name: nothing. -/
theorem renamed_other (x : AE) (h : ∀ b nm, x ≠ .ident b nm) (H : AtLoc w ba fp fq L x ix st) :
    Calls Tryz.prog 46 #[cur ba, .pointer (some ⟨bf, 0, none⟩), .pointer (some ⟨bt, 0, none⟩)] w fun e w' => e = .returned (.bool true) ∧ Sm w w' := by
  obtain ⟨tx, ux, hx, hta⟩ := missIdent x h
  have happ := H.app
  rw [hx] at happ
  have HA := Lib.hid happ
  clear happ hx H
  go_enter Tryz.func46, Tryz.ntmps46
  go_wp2_with fail
  refine (curNode_any tx ux HA.out).mono ?_
  rintro e w1 ⟨rfl, rfl⟩
  go_wp2_with fail
  go_quiet (fail)
  go_wp2_with fail
  go_ret
  exact ⟨rfl, rfl, rfl, rfl, rfl⟩
/-- Renamed's function at a name: it is the other one, if it is the one that is asked for. -/
theorem renamed_ident (b : Nat) (nm : ByteArray) (hto : tw.size ≤ maxLen) (H : AtLoc w ba fp fq L (.ident b nm) ix st) (hf : w.cell? ⟨bf, 0, none⟩ = some (.string fr)) (ht : w.cell? ⟨bt, 0, none⟩ = some (.string tw)) :
    Calls Tryz.prog 46 #[cur ba, .pointer (some ⟨bf, 0, none⟩), .pointer (some ⟨bt, 0, none⟩)] w fun e w' => e = .returned (.bool true) ∧ ((nm ≠ fr ∧ Sm w w') ∨ (nm = fr ∧ ∃ c, w.heap.size ≤ c ∧ Did L (.ident c tw) w w')) := by
  have th : ∀ w, (Instr.typeAssert (.iface 79 (.pointer (some ⟨b, 0, none⟩))) 59 79 true).run Tryz.prog w = .ok (.tuple #[.pointer (some ⟨b, 0, none⟩), .bool true]) w := ta_hit Tryz.underlying79 _ _
  have n1 : w.cell? ⟨b, 1, none⟩ = some (.string nm) := H.inn.2.cell 1
  have zb := lt_of_cell n1
  have zf := lt_of_cell hf
  have zt := lt_of_cell ht
  have HA := Lib.hid H
  clear H
  go_enter Tryz.func46, Tryz.ntmps46
  go_wp2_with fail
  refine (curNode_any 79 (.pointer (some ⟨b, 0, none⟩)) HA.out.app).mono ?_
  rintro e w1 ⟨rfl, rfl⟩
  go_wp2_with fail
  by_cases hq : nm = fr
  · have hb := beq_of_eq hq
    have HQ := Lib.hid hq
    clear hq
    go_quiet (fail)
    go_wp2_with fail
    refine (newIdent_any _ _).mono ?_
    rintro e w2 ⟨rfl, hw2⟩
    have HR : Hid (Calls Tryz.prog replF #[cur ba, (AE.ident w.heap.size tw).val] w2 fun e w' => e = .returned (.tuple #[]) ∧ Did L (.ident w.heap.size tw) w w') := by
      subst hw2
      exact did_new HA.out (fun _ => ⟨_, _, rfl⟩) (Kept.alloc (Kept.heapy (w2 := w.drewN _) (Kept.refl [] w) ⟨rfl, rfl, rfl, rfl⟩) _) (fun w' hk _ => ⟨hto, (Blk.new (w.drewN _) 83 #[.int .i64 0, .string tw, .pointer none]).same (hk _ (Nat.le_refl _) (by simp))⟩)
    clear hw2
    go_wp2_with fail
    refine HR.out.mono ?_
    rintro e w3 ⟨rfl, hd⟩
    have HD := Lib.hid hd
    clear hd
    go_wp2_with fail
    go_ret
    exact ⟨rfl, .inr ⟨HQ.out, _, Nat.le_refl _, HD.out⟩⟩
  · have hb := beq_of_ne hq
    have HQ := Lib.hid hq
    clear hq
    go_quiet (fail)
    go_wp2_with fail
    go_ret
    exact ⟨rfl, .inl ⟨HQ.out, rfl, rfl, rfl, rfl⟩⟩
end
end Go.Proofs.YtgimbgpebpippaaGreatDoor
namespace Go.Proofs.YtgimbgpebpippaaGreatDoor
open Go.RowKit
set_option maxRecDepth 100000
set_option maxHeartbeats 8000000
/-- What a replacing function does at a node. -/
def RpSo (rp : Bool → Node → Node) (L : Loc) (x : AE) (w : World) (e : Ending) (w' : World) : Prop :=
  e = .returned (.bool true) ∧ ∃ y, y.node = rp L.isSel x.node ∧ Turn L x y w w' ∧ ((∀ b nm, x ≠ .ident b nm) → rp L.isSel x.node = x.node → y = x)
theorem kind_ident {x : AE} (h : x.node.kind = sName) : ∃ b nm, x = .ident b nm := by
  cases x with
  | ident b nm => exact ⟨b, nm, rfl⟩
  | lit b tx => exact absurd h (show sInt ≠ sName by decide)
  | paren b x => exact absurd h (show sParen ≠ sName by decide)
  | sel b x sb nm => exact absurd h (show sSel ≠ sName by decide)
  | star b x => exact absurd h (show sUn ≠ sName by decide)
  | unary b op x => exact absurd h (show sUn ≠ sName by decide)
  | binary b op x y => exact absurd h (show sBin ≠ sName by decide)
  | index b x y => exact absurd h (show sIndex ≠ sName by decide)
  | call b f g cap args => exact absurd h (show sCall ≠ sName by decide)
section
variable {w : World} {ba : Nat} {fp fq : Value} {L : Loc} {ix st : Int} {bf bt : Nat} {fr tw : ByteArray}
theorem renamed_any (x : AE) (hto : tw.size ≤ maxLen) (H : AtLoc w ba fp fq L x ix st) (hf : w.cell? ⟨bf, 0, none⟩ = some (.string fr)) (ht : w.cell? ⟨bt, 0, none⟩ = some (.string tw)) :
    Calls Tryz.prog 46 #[cur ba, .pointer (some ⟨bf, 0, none⟩), .pointer (some ⟨bt, 0, none⟩)] w (RpSo (rpRen fr tw) L x w) := by
  by_cases hx : ∀ b nm, x ≠ .ident b nm
  · refine (renamed_other x hx H).mono ?_
    rintro e w' ⟨rfl, hs⟩
    have hk : ¬ (x.node.kind = sName ∧ x.node.text = fr) := fun h => by
      obtain ⟨b, nm, e⟩ := kind_ident h.1
      exact hx b nm e
    exact ⟨rfl, x, by rw [rpRen, if_neg hk], H.stay hs, fun _ _ => rfl⟩
  · have ⟨b, nm, e⟩ : ∃ b nm, x = .ident b nm := by
      cases x <;> first | exact ⟨_, _, rfl⟩ | exact absurd (fun b nm h => by cases h) hx
    subst e
    refine (renamed_ident b nm hto H hf ht).mono ?_
    rintro e w' ⟨rfl, ⟨hn, hs⟩ | ⟨hn, c, hc, hd⟩⟩
    · exact ⟨rfl, _, by rw [rpRen, if_neg (fun h => hn h.2)], H.stay hs, fun _ _ => rfl⟩
    · exact ⟨rfl, _, by rw [rpRen, if_pos ⟨rfl, hn⟩]; rfl, ⟨hd, fun k hk => by simp [AE.blocks] at hk; subst hk; exact .inr hc, by simp [AE.blocks], fun _ => ⟨_, _, rfl⟩⟩, fun h => absurd rfl (h b nm)⟩
theorem missParen (x : AE) (h : ∀ b y, x ≠ .paren b y) : ∃ t u, x.val = .iface t u ∧ ∀ w, (Instr.typeAssert (.iface t u) 59 71 true).run Tryz.prog w = .ok (.tuple #[.pointer none, .bool false]) w := by
  cases x with
  | ident b nm => exact ⟨_, _, rfl, fun w => Tryz.taMissParenExpr _ _ w (by decide)⟩
  | lit b tx => exact ⟨_, _, rfl, fun w => Tryz.taMissParenExpr _ _ w (by decide)⟩
  | paren b x => exact absurd rfl (h b x)
  | sel b x sb nm => exact ⟨_, _, rfl, fun w => Tryz.taMissParenExpr _ _ w (by decide)⟩
  | star b x => exact ⟨_, _, rfl, fun w => Tryz.taMissParenExpr _ _ w (by decide)⟩
  | unary b op x => exact ⟨_, _, rfl, fun w => Tryz.taMissParenExpr _ _ w (by decide)⟩
  | binary b op x y => exact ⟨_, _, rfl, fun w => Tryz.taMissParenExpr _ _ w (by decide)⟩
  | index b x y => exact ⟨_, _, rfl, fun w => Tryz.taMissParenExpr _ _ w (by decide)⟩
  | call b f g cap args => exact ⟨_, _, rfl, fun w => Tryz.taMissParenExpr _ _ w (by decide)⟩
theorem unwrapped_other (x : AE) (h : ∀ b y, x ≠ .paren b y) (H : AtLoc w ba fp fq L x ix st) :
    Calls Tryz.prog 39 #[cur ba] w fun e w' => e = .returned (.bool true) ∧ Sm w w' := by
  obtain ⟨tx, ux, hx, hta⟩ := missParen x h
  have happ := H.app
  rw [hx] at happ
  have HA := Lib.hid happ
  clear happ hx H
  go_enter Tryz.func39, Tryz.ntmps39
  go_wp2_with fail
  refine (curNode_any tx ux HA.out).mono ?_
  rintro e w1 ⟨rfl, rfl⟩
  go_wp2_with fail
  go_ret
  exact ⟨rfl, rfl, rfl, rfl, rfl⟩
/-- Replace by a tree that was below the node. -/
theorem did_old {x y : AE} (H : AtLoc w ba fp fq L x ix st) (hs : ¬ L.IsSel) (hy : y.In w) (hyb : ∀ b ∈ y.blocks, b ∈ x.blocks) :
    Calls Tryz.prog replF #[cur ba, y.val] w fun e w' => e = .returned (.tuple #[]) ∧ Did L y w w' := by
  obtain ⟨T, cs, hb, hce⟩ := H.cell
  have hlt : L.off < cs.size := by
    rcases Nat.lt_or_ge L.off cs.size with h | h
    · exact h
    · rw [Array.getElem?_eq_none h] at hce; cases hce
  refine (replace_any L x y H.app H.ix H.row ⟨T, cs, hb, hlt⟩ (fun h => absurd h hs)).mono ?_
  rintro e w' ⟨rfl, h1, h2⟩
  exact ⟨rfl, hy.kept h1 (fun b hb hm => by rw [List.mem_singleton] at hm; subst hm; exact H.apart (hyb _ hb)), h1, h2⟩
theorem unwrapped_paren (b : Nat) (y : AE) (H : AtLoc w ba fp fq L (.paren b y) ix st) :
    Calls Tryz.prog 39 #[cur ba] w fun e w' => e = .returned (.bool true) ∧ Did L y w w' := by
  have th : ∀ w, (Instr.typeAssert (.iface 71 (.pointer (some ⟨b, 0, none⟩))) 59 71 true).run Tryz.prog w = .ok (.tuple #[.pointer (some ⟨b, 0, none⟩), .bool true]) w := ta_hit Tryz.underlying71 _ _
  have n1 : w.cell? ⟨b, 1, none⟩ = some y.val := H.inn.1.cell 1
  have zb := lt_of_cell n1
  have HR := Lib.hid (did_old (y := y) H (fun h => by obtain ⟨_, _, e⟩ := H.sel h; cases e) H.inn.2 (fun c hc => by simp [AE.blocks, hc]))
  obtain ⟨ty, uy, hy⟩ := y.val_one
  rw [hy] at n1 HR
  have HA := Lib.hid H
  clear H hy
  go_enter Tryz.func39, Tryz.ntmps39
  go_wp2_with fail
  refine (curNode_any 71 (.pointer (some ⟨b, 0, none⟩)) HA.out.app).mono ?_
  rintro e w1 ⟨rfl, rfl⟩
  go_wp2_with fail
  refine HR.out.mono ?_
  rintro e w3 ⟨rfl, hd⟩
  have HD := Lib.hid hd
  clear hd
  go_wp2_with fail
  go_ret
  exact ⟨rfl, HD.out⟩
theorem rpUn_other {x : AE} (h : ∀ b y, x ≠ .paren b y) (s : Bool) : rpUn s x.node = x.node := by
  cases x with
  | paren b x => exact absurd rfl (h b x)
  | call b f g cap args => cases args <;> rfl
  | _ => rfl
theorem unwrapped_any (x : AE) (H : AtLoc w ba fp fq L x ix st) :
    Calls Tryz.prog 39 #[cur ba] w (RpSo rpUn L x w) := by
  by_cases hx : ∀ b y, x ≠ .paren b y
  · refine (unwrapped_other x hx H).mono ?_
    rintro e w' ⟨rfl, hs⟩
    exact ⟨rfl, x, (rpUn_other hx _).symm, H.stay hs, fun _ _ => rfl⟩
  · have ⟨b, y, e⟩ : ∃ b y, x = .paren b y := by
      cases x <;> first | exact ⟨_, _, rfl⟩ | exact absurd (fun b nm h => by cases h) hx
    subst e
    refine (unwrapped_paren b y H).mono ?_
    rintro e w' ⟨rfl, hd⟩
    refine ⟨rfl, y, rfl, ⟨hd, fun k hk => .inl (by simp [AE.blocks, hk]), (List.nodup_cons.1 H.nodup).2, fun h => by obtain ⟨_, _, e⟩ := H.sel h; cases e⟩, fun _ h => ?_⟩
    exfalso
    have h1 : y.node = (AE.paren b y).node := h
    have h2 := congrArg SizeOf.sizeOf h1
    simp [AE.node] at h2
    omega
end
end Go.Proofs.YtgimbgpebpippaaGreatDoor
namespace Go.Proofs.YtgimbgpebpippaaGreatDoor
open Go.RowKit
set_option maxRecDepth 100000
set_option maxHeartbeats 8000000
theorem Loc.nm_sel {L : Loc} (h : L.IsSel) : L.nm = fSel := by cases L <;> first | rfl | exact h.elim
theorem Loc.isSel_nm (L : Loc) : L.isSel = false ↔ L.nm ≠ fSel := by cases L <;> simp [Loc.isSel, Loc.nm] <;> decide
theorem selList : fSel.toList = [83, 101, 108] := by kernel_rfl
section
variable {w : World} {ba : Nat} {fp fq : Value} {L : Loc} {ix st : Int} {bf : Nat} {fr : ByteArray}
theorem wrapped_other (x : AE) (h : ∀ b nm, x ≠ .ident b nm) (H : AtLoc w ba fp fq L x ix st) :
    Calls Tryz.prog 43 #[cur ba, .pointer (some ⟨bf, 0, none⟩)] w fun e w' => e = .returned (.bool true) ∧ Sm w w' := by
  obtain ⟨tx, ux, hx, hta⟩ := missIdent x h
  have happ := H.app
  rw [hx] at happ
  have HA := Lib.hid happ
  clear happ hx H
  go_enter Tryz.func43, Tryz.ntmps43
  go_wp2_with fail
  refine (curNode_any tx ux HA.out).mono ?_
  rintro e w1 ⟨rfl, rfl⟩
  go_wp2_with fail
  go_quiet (fail)
  go_wp2_with fail
  go_ret
  exact ⟨rfl, rfl, rfl, rfl, rfl⟩
/-- Wrapped's function at a name: a bracket stands about it, if it is the one that is asked for, and no selector's. -/
theorem wrapped_ident (b : Nat) (nm : ByteArray) (H : AtLoc w ba fp fq L (.ident b nm) ix st) (hf : w.cell? ⟨bf, 0, none⟩ = some (.string fr)) :
    Calls Tryz.prog 43 #[cur ba, .pointer (some ⟨bf, 0, none⟩)] w fun e w' => e = .returned (.bool true) ∧ ((¬ (nm = fr ∧ L.nm ≠ fSel) ∧ Sm w w') ∨ (nm = fr ∧ L.nm ≠ fSel ∧ ∃ c, w.heap.size ≤ c ∧ Did L (.paren c (.ident b nm)) w w')) := by
  have th : ∀ w, (Instr.typeAssert (.iface 79 (.pointer (some ⟨b, 0, none⟩))) 59 79 true).run Tryz.prog w = .ok (.tuple #[.pointer (some ⟨b, 0, none⟩), .bool true]) w := ta_hit Tryz.underlying79 _ _
  have n1 : w.cell? ⟨b, 1, none⟩ = some (.string nm) := H.inn.2.cell 1
  have zb := lt_of_cell n1
  have zf := lt_of_cell hf
  have HN := Lib.hid (fun (w' : World) (h : w'.heap = w.heap) => curName_any (Blk.same H.app (by rw [h])))
  have HR : Hid (L.nm ≠ fSel → ∀ n, Calls Tryz.prog replF #[cur ba, (AE.paren w.heap.size (AE.ident b nm)).val] ((w.drewN n).alloc (.cells #[.int .i64 0, (AE.ident b nm).val, .int .i64 0] 77)) fun e w' => e = .returned (.tuple #[]) ∧ Did L (.paren w.heap.size (.ident b nm)) w w') := fun hne n =>
    did_new (y := .paren w.heap.size (.ident b nm)) H (fun h => absurd (Loc.nm_sel h) hne) (Kept.alloc (Kept.heapy (w2 := w.drewN n) (Kept.refl [] w) ⟨rfl, rfl, rfl, rfl⟩) _) (fun w' hk hk2 => ⟨(Blk.new (w.drewN n) 77 #[.int .i64 0, (AE.ident b nm).val, .int .i64 0]).same (hk _ (Nat.le_refl _) (by simp)), H.inn.1, H.inn.2.same (hk2 b zb (fun e => H.apart (by simp [AE.blocks, e])))⟩)
  have HA := Lib.hid H
  clear H
  go_enter Tryz.func43, Tryz.ntmps43
  go_wp2_with fail
  refine (curNode_any 79 (.pointer (some ⟨b, 0, none⟩)) HA.out.app).mono ?_
  rintro e w1 ⟨rfl, rfl⟩
  go_wp2_with fail
  by_cases hq : nm = fr
  · have hb := beq_of_eq hq
    have HQ := Lib.hid hq
    clear hq
    by_cases hs : L.nm = fSel
    · have hb2 : (L.nm.toList == [83, 101, 108]) = true := by rw [← selList]; exact beq_of_eq hs
      have HS := Lib.hid hs
      clear hs
      go_quiet (exact Calls.quiet_of_same ((HN.out _ (by rfl)).mono fun e w5 h => ⟨h.1, h.2.symm⟩))
      go_wp2_with fail
      go_ret
      exact ⟨rfl, .inl ⟨fun h => h.2 HS.out, rfl, rfl, rfl, rfl⟩⟩
    · have hb2 : (L.nm.toList == [83, 101, 108]) = false := by rw [← selList]; exact beq_of_ne hs
      have HS := Lib.hid hs
      clear hs
      go_quiet (exact Calls.quiet_of_same ((HN.out _ (by rfl)).mono fun e w5 h => ⟨h.1, h.2.symm⟩))
      go_wp2_with fail
      refine (HR.out HS.out _).mono ?_
      rintro e w3 ⟨rfl, hd⟩
      have HD := Lib.hid hd
      clear hd
      go_wp2_with fail
      go_ret
      exact ⟨rfl, .inr ⟨HQ.out, HS.out, _, Nat.le_refl _, HD.out⟩⟩
  · have hb := beq_of_ne hq
    have HQ := Lib.hid hq
    clear hq
    go_quiet (fail)
    go_wp2_with fail
    go_ret
    exact ⟨rfl, .inl ⟨fun h => HQ.out h.1, rfl, rfl, rfl, rfl⟩⟩
theorem wrapped_any (x : AE) (H : AtLoc w ba fp fq L x ix st) (hf : w.cell? ⟨bf, 0, none⟩ = some (.string fr)) :
    Calls Tryz.prog 43 #[cur ba, .pointer (some ⟨bf, 0, none⟩)] w (RpSo (rpWrap fr) L x w) := by
  by_cases hx : ∀ b nm, x ≠ .ident b nm
  · refine (wrapped_other x hx H).mono ?_
    rintro e w' ⟨rfl, hs⟩
    have hk : ¬ (x.node.kind = sName ∧ x.node.text = fr ∧ L.isSel = false) := fun h => by
      obtain ⟨b, nm, e⟩ := kind_ident h.1
      exact hx b nm e
    exact ⟨rfl, x, by rw [rpWrap, if_neg hk], H.stay hs, fun _ _ => rfl⟩
  · have ⟨b, nm, e⟩ : ∃ b nm, x = .ident b nm := by
      cases x <;> first | exact ⟨_, _, rfl⟩ | exact absurd (fun b nm h => by cases h) hx
    subst e
    refine (wrapped_ident b nm H hf).mono ?_
    rintro e w' ⟨rfl, ⟨hn, hs⟩ | ⟨hn, hl, c, hc, hd⟩⟩
    · exact ⟨rfl, _, by rw [rpWrap, if_neg (fun h => hn ⟨h.2.1, L.isSel_nm.1 h.2.2⟩)], H.stay hs, fun _ _ => rfl⟩
    · have hb : b < w.heap.size := H.inn.2.lt
      exact ⟨rfl, _, by rw [rpWrap, if_pos ⟨rfl, hn, L.isSel_nm.2 hl⟩]; rfl, ⟨hd, fun k hk => by simp [AE.blocks] at hk ⊢; omega, by simp [AE.blocks]; omega, fun h => absurd (Loc.nm_sel h) hl⟩, fun h => absurd rfl (h b nm)⟩
end
end Go.Proofs.YtgimbgpebpippaaGreatDoor
