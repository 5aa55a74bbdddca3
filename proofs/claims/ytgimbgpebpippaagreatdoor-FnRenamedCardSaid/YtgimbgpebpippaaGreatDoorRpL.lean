/- The places at which a node of an expression's tree stands; Replace at each. -/
import Derived.Test.YtgimbgpebpippaaGreatDoorRpC
namespace Go.Proofs.YtgimbgpebpippaaGreatDoor
open Go.RowKit
set_option maxRecDepth 100000
/-- A place of a node: the root's, a field of a parent, an element of a call's arguments. -/
inductive Loc where
  | root (b : Nat)
  | parenX (b : Nat)
  | starX (b : Nat)
  | unaryX (b : Nat)
  | selX (b : Nat)
  | selS (b : Nat)
  | binX (b : Nat)
  | binY (b : Nat)
  | idxX (b : Nat)
  | idxI (b : Nat)
  | callF (b : Nat)
  | arg (b g n cp i : Nat)
namespace Loc
/-- The parent. -/
def pv : Loc → Value
  | root b => .iface 110 (.pointer (some ⟨b, 0, none⟩))
  | parenX b => .iface 71 (.pointer (some ⟨b, 0, none⟩))
  | starX b => .iface 132 (.pointer (some ⟨b, 0, none⟩))
  | unaryX b => .iface 135 (.pointer (some ⟨b, 0, none⟩))
  | selX b => .iface 129 (.pointer (some ⟨b, 0, none⟩))
  | selS b => .iface 129 (.pointer (some ⟨b, 0, none⟩))
  | binX b => .iface 139 (.pointer (some ⟨b, 0, none⟩))
  | binY b => .iface 139 (.pointer (some ⟨b, 0, none⟩))
  | idxX b => .iface 142 (.pointer (some ⟨b, 0, none⟩))
  | idxI b => .iface 142 (.pointer (some ⟨b, 0, none⟩))
  | callF b => .iface 87 (.pointer (some ⟨b, 0, none⟩))
  | arg b _ _ _ _ => .iface 87 (.pointer (some ⟨b, 0, none⟩))
def nm : Loc → ByteArray
  | root _ => ⟨#[78, 111, 100, 101]⟩
  | parenX _ => ⟨#[88]⟩
  | starX _ => ⟨#[88]⟩
  | unaryX _ => ⟨#[88]⟩
  | selX _ => ⟨#[88]⟩
  | selS _ => ⟨#[83, 101, 108]⟩
  | binX _ => ⟨#[88]⟩
  | binY _ => ⟨#[89]⟩
  | idxX _ => ⟨#[88]⟩
  | idxI _ => ⟨#[73, 110, 100, 101, 120]⟩
  | callF _ => ⟨#[70, 117, 110]⟩
  | arg .. => ⟨#[65, 114, 103, 115]⟩
def it (ba : Nat) : Loc → Value
  | arg .. => iterV ba
  | _ => .pointer none
def idx : Loc → Int
  | arg _ _ _ _ i => i
  | _ => -1
def blk : Loc → Nat
  | root b => b
  | parenX b => b
  | starX b => b
  | unaryX b => b
  | selX b => b
  | selS b => b
  | binX b => b
  | binY b => b
  | idxX b => b
  | idxI b => b
  | callF b => b
  | arg _ g _ _ _ => g
def off : Loc → Nat
  | root _ => 0
  | parenX _ => 1
  | starX _ => 1
  | unaryX _ => 2
  | selX _ => 0
  | selS _ => 1
  | binX _ => 0
  | binY _ => 3
  | idxX _ => 0
  | idxI _ => 2
  | callF _ => 0
  | arg _ _ _ _ i => i
/-- What the cell holds where the node is v. -/
def cellv : Loc → Value → Value
  | selS _, .iface _ v => v
  | _, v => v
/-- The list of an argument's call. -/
def Row (w : World) : Loc → Prop
  | arg b g n cp i => w.cell? ⟨b, 2, none⟩ = some (.slice (some ⟨g, 0, none⟩) n cp) ∧ i < n
  | _ => True
/-- The index at the cursor. -/
def At (ix : Int) : Loc → Prop
  | arg _ _ _ _ i => ix = i
  | _ => True
def IsSel : Loc → Prop
  | selS _ => True
  | _ => False
end Loc
/-- Only the cell of a place has turned. -/
def Repl (L : Loc) (v : Value) (w w' : World) : Prop := Kept [L.blk] w w' ∧ ∀ T cs, Blk w L.blk T cs → Blk w' L.blk T (cs.setIfInBounds L.off v)
theorem repl_set {b c : Nat} {v : Value} {w w' : World} (h : Sm (w.setCell ⟨b, c, none⟩ v) w') : Kept [b] w w' ∧ ∀ T cs, Blk w b T cs → Blk w' b T (cs.setIfInBounds c v) :=
  ⟨((Kept.refl [b] w).set (p := ⟨b, c, none⟩) (.inl List.mem_cons_self) v).heapy h, fun T cs hb => (hb.set_ c v).same (by rw [h.1])⟩
theorem repl_set2 {b c : Nat} {v : Value} {o : Obj} {w w' : World} (h : Sm ((w.setCell ⟨b, c, none⟩ v).alloc o) w') : Kept [b] w w' ∧ ∀ T cs, Blk w b T cs → Blk w' b T (cs.setIfInBounds c v) :=
  ⟨(((Kept.refl [b] w).set (p := ⟨b, c, none⟩) (.inl List.mem_cons_self) v).alloc o).heapy h, fun T cs hb => ((hb.set_ c v).alloc o).same (by rw [h.1])⟩
theorem Repl.heapy {L : Loc} {v : Value} {w : World} : Heapy (Repl L v w) := fun _ _ e h => ⟨h.1.heapy e, fun T cs hb => (h.2 T cs hb).same (by rw [e.1])⟩
theorem not_file (x : AE) : ∃ t u, x.val = .iface t u ∧ t ≠ 153 := by cases x <;> exact ⟨_, _, rfl, by decide⟩
/-- Replace at whatever place. -/
theorem replace_any {w : World} {ba : Nat} {fp fq : Value} {ix st : Int} (L : Loc) (x y : AE) (happ : App w ba fp fq L.pv L.nm (L.it ba) x.val ix st) (hix : L.At ix) (hrow : L.Row w) (hblk : ∃ T cs, Blk w L.blk T cs ∧ L.off < cs.size) (hs : L.IsSel → ∃ b nm, y = .ident b nm) :
    Calls Tryz.prog replF #[cur ba, y.val] w fun e w' => e = .returned (.tuple #[]) ∧ Repl L (L.cellv y.val) w w' := by
  obtain ⟨tn, un, hx, hne⟩ := not_file x
  rw [hx] at happ
  obtain ⟨T, cs, hb, hlt⟩ := hblk
  have hcell : w.cell? ⟨L.blk, L.off, none⟩ = some cs[L.off] := by rw [hb.cell]; exact Array.getElem?_eq_getElem hlt
  have hfz := hb.frozen L.off
  have hE := taExpr y
  cases L with
  | root b =>
    obtain ⟨ty, uy, hy⟩ := y.val_one
    rw [hy] at hE ⊢
    refine replace_field happ hne (fun w' hw => ?_) Repl.heapy
    refine (sf_Root b ty uy _ w' ((World.cell?_of_block (by rw [hw.1])).trans hcell) ((World.frozen?_of_block (by rw [hw.1])).trans hfz)).mono ?_
    rintro e w'' ⟨rfl, h⟩
    have h2 := repl_set h
    exact ⟨rfl, ⟨by rw [← hw.1]; exact h2.1.size, fun k hk hn => by rw [h2.1.block k (by rw [hw.1]; exact hk) hn, hw.1], h2.1.os.trans hw.2.1, h2.1.tape.trans hw.2.2.1, h2.1.output.trans hw.2.2.2⟩, fun T cs hb => h2.2 T cs (hb.same (by rw [hw.1]))⟩
  | parenX b =>
    obtain ⟨ty, uy, hy⟩ := y.val_one
    rw [hy] at hE ⊢
    refine replace_field happ hne (fun w' hw => ?_) Repl.heapy
    refine (sf_ParenX b ty uy _ w' hE ((World.cell?_of_block (by rw [hw.1])).trans hcell) ((World.frozen?_of_block (by rw [hw.1])).trans hfz)).mono ?_
    rintro e w'' ⟨rfl, h⟩
    have h2 := repl_set h
    exact ⟨rfl, ⟨by rw [← hw.1]; exact h2.1.size, fun k hk hn => by rw [h2.1.block k (by rw [hw.1]; exact hk) hn, hw.1], h2.1.os.trans hw.2.1, h2.1.tape.trans hw.2.2.1, h2.1.output.trans hw.2.2.2⟩, fun T cs hb => h2.2 T cs (hb.same (by rw [hw.1]))⟩
  | starX b =>
    obtain ⟨ty, uy, hy⟩ := y.val_one
    rw [hy] at hE ⊢
    refine replace_field happ hne (fun w' hw => ?_) Repl.heapy
    refine (sf_StarX b ty uy _ w' hE ((World.cell?_of_block (by rw [hw.1])).trans hcell) ((World.frozen?_of_block (by rw [hw.1])).trans hfz)).mono ?_
    rintro e w'' ⟨rfl, h⟩
    have h2 := repl_set h
    exact ⟨rfl, ⟨by rw [← hw.1]; exact h2.1.size, fun k hk hn => by rw [h2.1.block k (by rw [hw.1]; exact hk) hn, hw.1], h2.1.os.trans hw.2.1, h2.1.tape.trans hw.2.2.1, h2.1.output.trans hw.2.2.2⟩, fun T cs hb => h2.2 T cs (hb.same (by rw [hw.1]))⟩
  | unaryX b =>
    obtain ⟨ty, uy, hy⟩ := y.val_one
    rw [hy] at hE ⊢
    refine replace_field happ hne (fun w' hw => ?_) Repl.heapy
    refine (sf_UnaryX b ty uy _ w' hE ((World.cell?_of_block (by rw [hw.1])).trans hcell) ((World.frozen?_of_block (by rw [hw.1])).trans hfz)).mono ?_
    rintro e w'' ⟨rfl, h⟩
    have h2 := repl_set h
    exact ⟨rfl, ⟨by rw [← hw.1]; exact h2.1.size, fun k hk hn => by rw [h2.1.block k (by rw [hw.1]; exact hk) hn, hw.1], h2.1.os.trans hw.2.1, h2.1.tape.trans hw.2.2.1, h2.1.output.trans hw.2.2.2⟩, fun T cs hb => h2.2 T cs (hb.same (by rw [hw.1]))⟩
  | selX b =>
    obtain ⟨ty, uy, hy⟩ := y.val_one
    rw [hy] at hE ⊢
    refine replace_field happ hne (fun w' hw => ?_) Repl.heapy
    refine (sf_SelX b ty uy _ w' hE ((World.cell?_of_block (by rw [hw.1])).trans hcell) ((World.frozen?_of_block (by rw [hw.1])).trans hfz)).mono ?_
    rintro e w'' ⟨rfl, h⟩
    have h2 := repl_set h
    exact ⟨rfl, ⟨by rw [← hw.1]; exact h2.1.size, fun k hk hn => by rw [h2.1.block k (by rw [hw.1]; exact hk) hn, hw.1], h2.1.os.trans hw.2.1, h2.1.tape.trans hw.2.2.1, h2.1.output.trans hw.2.2.2⟩, fun T cs hb => h2.2 T cs (hb.same (by rw [hw.1]))⟩
  | selS b =>
    obtain ⟨yb, ynm, rfl⟩ := hs trivial
    refine replace_field happ hne (fun w' hw => ?_) Repl.heapy
    refine (sf_SelS b (.pointer (some ⟨yb, 0, none⟩)) _ w' ((World.cell?_of_block (by rw [hw.1])).trans hcell) ((World.frozen?_of_block (by rw [hw.1])).trans hfz) _ rfl).mono ?_
    rintro e w'' ⟨rfl, h⟩
    have h2 := repl_set h
    exact ⟨rfl, ⟨by rw [← hw.1]; exact h2.1.size, fun k hk hn => by rw [h2.1.block k (by rw [hw.1]; exact hk) hn, hw.1], h2.1.os.trans hw.2.1, h2.1.tape.trans hw.2.2.1, h2.1.output.trans hw.2.2.2⟩, fun T cs hb => h2.2 T cs (hb.same (by rw [hw.1]))⟩
  | binX b =>
    obtain ⟨ty, uy, hy⟩ := y.val_one
    rw [hy] at hE ⊢
    refine replace_field happ hne (fun w' hw => ?_) Repl.heapy
    refine (sf_BinX b ty uy _ w' hE ((World.cell?_of_block (by rw [hw.1])).trans hcell) ((World.frozen?_of_block (by rw [hw.1])).trans hfz)).mono ?_
    rintro e w'' ⟨rfl, h⟩
    have h2 := repl_set h
    exact ⟨rfl, ⟨by rw [← hw.1]; exact h2.1.size, fun k hk hn => by rw [h2.1.block k (by rw [hw.1]; exact hk) hn, hw.1], h2.1.os.trans hw.2.1, h2.1.tape.trans hw.2.2.1, h2.1.output.trans hw.2.2.2⟩, fun T cs hb => h2.2 T cs (hb.same (by rw [hw.1]))⟩
  | binY b =>
    obtain ⟨ty, uy, hy⟩ := y.val_one
    rw [hy] at hE ⊢
    refine replace_field happ hne (fun w' hw => ?_) Repl.heapy
    refine (sf_BinY b ty uy _ w' hE ((World.cell?_of_block (by rw [hw.1])).trans hcell) ((World.frozen?_of_block (by rw [hw.1])).trans hfz)).mono ?_
    rintro e w'' ⟨rfl, h⟩
    have h2 := repl_set h
    exact ⟨rfl, ⟨by rw [← hw.1]; exact h2.1.size, fun k hk hn => by rw [h2.1.block k (by rw [hw.1]; exact hk) hn, hw.1], h2.1.os.trans hw.2.1, h2.1.tape.trans hw.2.2.1, h2.1.output.trans hw.2.2.2⟩, fun T cs hb => h2.2 T cs (hb.same (by rw [hw.1]))⟩
  | idxX b =>
    obtain ⟨ty, uy, hy⟩ := y.val_one
    rw [hy] at hE ⊢
    refine replace_field happ hne (fun w' hw => ?_) Repl.heapy
    refine (sf_IdxX b ty uy _ w' hE ((World.cell?_of_block (by rw [hw.1])).trans hcell) ((World.frozen?_of_block (by rw [hw.1])).trans hfz)).mono ?_
    rintro e w'' ⟨rfl, h⟩
    have h2 := repl_set h
    exact ⟨rfl, ⟨by rw [← hw.1]; exact h2.1.size, fun k hk hn => by rw [h2.1.block k (by rw [hw.1]; exact hk) hn, hw.1], h2.1.os.trans hw.2.1, h2.1.tape.trans hw.2.2.1, h2.1.output.trans hw.2.2.2⟩, fun T cs hb => h2.2 T cs (hb.same (by rw [hw.1]))⟩
  | idxI b =>
    obtain ⟨ty, uy, hy⟩ := y.val_one
    rw [hy] at hE ⊢
    refine replace_field happ hne (fun w' hw => ?_) Repl.heapy
    refine (sf_IdxI b ty uy _ w' hE ((World.cell?_of_block (by rw [hw.1])).trans hcell) ((World.frozen?_of_block (by rw [hw.1])).trans hfz)).mono ?_
    rintro e w'' ⟨rfl, h⟩
    have h2 := repl_set h
    exact ⟨rfl, ⟨by rw [← hw.1]; exact h2.1.size, fun k hk hn => by rw [h2.1.block k (by rw [hw.1]; exact hk) hn, hw.1], h2.1.os.trans hw.2.1, h2.1.tape.trans hw.2.2.1, h2.1.output.trans hw.2.2.2⟩, fun T cs hb => h2.2 T cs (hb.same (by rw [hw.1]))⟩
  | callF b =>
    obtain ⟨ty, uy, hy⟩ := y.val_one
    rw [hy] at hE ⊢
    refine replace_field happ hne (fun w' hw => ?_) Repl.heapy
    refine (sf_CallF b ty uy _ w' hE ((World.cell?_of_block (by rw [hw.1])).trans hcell) ((World.frozen?_of_block (by rw [hw.1])).trans hfz)).mono ?_
    rintro e w'' ⟨rfl, h⟩
    have h2 := repl_set h
    exact ⟨rfl, ⟨by rw [← hw.1]; exact h2.1.size, fun k hk hn => by rw [h2.1.block k (by rw [hw.1]; exact hk) hn, hw.1], h2.1.os.trans hw.2.1, h2.1.tape.trans hw.2.2.1, h2.1.output.trans hw.2.2.2⟩, fun T cs hb => h2.2 T cs (hb.same (by rw [hw.1]))⟩
  | arg b g n cp i =>
    obtain ⟨ty, uy, hy⟩ := y.val_one
    rw [hy] at hE ⊢
    obtain rfl : ix = i := hix
    refine (replace_list happ hne hE hrow.1 hrow.2 hcell hfz).mono ?_
    rintro e w'' ⟨rfl, h⟩
    exact ⟨rfl, repl_set2 h⟩
end Go.Proofs.YtgimbgpebpippaaGreatDoor
