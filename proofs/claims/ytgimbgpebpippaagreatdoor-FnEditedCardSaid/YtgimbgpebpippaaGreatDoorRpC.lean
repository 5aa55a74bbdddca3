/- (*Cursor).Replace, at a field and at an element of a list. -/
import Derived.Test.YtgimbgpebpippaaGreatDoorRpSf
import Derived.Deep.RegionLaw
namespace Go.Proofs.YtgimbgpebpippaaGreatDoor
open Go.RowKit
set_option maxRecDepth 100000
set_option maxHeartbeats 8000000
abbrev replF : FuncId := 41
section
variable {w : World} {ba : Nat} {fp fq : Value} {nm : ByteArray} {ix st : Int} {tp tn t : TypeId} {up un u : Value}
theorem missFile (v : Value) (t : TypeId) (h : t ≠ 153) (w : World) : (Instr.typeAssert (.iface t v) 59 153 true).run Tryz.prog w = .ok (.tuple #[.pointer none, .bool false]) w := Tryz.taMissFile v t w h
theorem replace_field {Q : World → Prop} (happ : App w ba fp fq (.iface tp up) nm (.pointer none) (.iface tn un) ix st) (hne : tn ≠ 153)
    (hsf : ∀ w', Sm w w' → Calls Tryz.prog 74 #[.iface tp up, .string nm, .iface t u] w' fun e w'' => e = .returned (.tuple #[]) ∧ Q w'') (hQ : Heapy Q) :
    Calls Tryz.prog replF #[cur ba, .iface t u] w fun e w' => e = .returned (.tuple #[]) ∧ Q w' := by
  have hta := missFile un tn hne
  have HA := Lib.hid (And.intro happ (And.intro hsf hQ))
  have c2 : w.cell? ⟨ba, 2, none⟩ = some (.iface tp up) := Blk.cell happ 2
  have c3 : w.cell? ⟨ba, 2 + 1, none⟩ = some (.string nm) := Blk.cell happ 3
  have c5 : w.cell? ⟨ba, 2 + 3, none⟩ = some (.iface tn un) := Blk.cell happ 5
  have zb := Blk.lt happ
  clear happ hsf hne hQ
  go_enter Tryz.func41, Tryz.ntmps41
  go_wp2_with fail
  refine (curIndex_none HA.out.1).mono ?_
  rintro e w' ⟨rfl, rfl⟩
  go_wp2_with fail
  go_region_law
    (first
      | (go_simp; go_at_call 74; refine (HA.out.2.1 _ (by exact ⟨rfl, rfl, rfl, rfl⟩)).mono ?_; rintro e w5 ⟨rfl, hq⟩; have HQ := Lib.hid hq; clear hq))
  all_goals
    go_wp2_with fail
    exact ⟨rfl, _, results_none rfl _ _ _, rfl, HA.out.2.2 w5 _ ⟨rfl, rfl, rfl, rfl⟩ HQ.out⟩
end
theorem listSet_any (b k g n c i : Nat) (t : TypeId) (u old : Value) (w : World) (hE : ∀ w, (Instr.typeAssert (.iface t u) 59 62 false).run Tryz.prog w = .ok (.iface t u) w) (h : w.cell? ⟨b, k, none⟩ = some (.slice (some ⟨g, 0, none⟩) n c)) (hi : i < n) (hc : w.cell? ⟨g, i, none⟩ = some old) (hf : w.frozen? ⟨g, i, none⟩ = false) :
    Calls Tryz.prog 341 #[.agg #[.pointer (some ⟨b, k, none⟩)], .int .i64 i, .iface t u] w fun e w' => e = .returned (.tuple #[]) ∧ Sm ((w.setCell ⟨g, i, none⟩ (.iface t u)).alloc (.cells #[.pointer (some ⟨b, k, none⟩)] listT)) w' := by
  have q1 : (0 : Int) ≤ (i : Int) := by omega
  have q2 : (i : Int) < (n : Int) := by omega
  have zb := lt_of_cell h
  have zg := lt_of_cell hc
  go_enter Tryz.func341, Tryz.ntmps341
  go_wp2_with fail
  go_region
  all_goals
    go_wp2_with fail
    go_goals
    exact ⟨rfl, _, results_none rfl _ _ _, rfl, rfl, rfl, rfl, rfl⟩
theorem replace_list {w : World} {ba b g n cp i : Nat} {fp fq : Value} {st : Int} {tn t : TypeId} {un u old : Value} (happ : App w ba fp fq (.iface 87 (.pointer (some ⟨b, 0, none⟩))) ⟨#[65, 114, 103, 115]⟩ (iterV ba) (.iface tn un) i st) (hne : tn ≠ 153)
    (hE : ∀ w, (Instr.typeAssert (.iface t u) 59 62 false).run Tryz.prog w = .ok (.iface t u) w) (h : w.cell? ⟨b, 2, none⟩ = some (.slice (some ⟨g, 0, none⟩) n cp)) (hi : i < n) (hc : w.cell? ⟨g, i, none⟩ = some old) (hf : w.frozen? ⟨g, i, none⟩ = false) :
    Calls Tryz.prog replF #[cur ba, .iface t u] w fun e w' => e = .returned (.tuple #[]) ∧ Sm ((w.setCell ⟨g, i, none⟩ (.iface t u)).alloc (.cells #[.pointer (some ⟨b, 2, none⟩)] listT)) w' := by
  have hta := missFile un tn hne
  have HA := Lib.hid happ
  have HS : Hid (∀ w', Sm w w' → Calls Tryz.prog 341 #[.agg #[.pointer (some ⟨b, 2, none⟩)], .int .i64 i, .iface t u] w' fun e w'' => e = .returned (.tuple #[]) ∧ Sm ((w.setCell ⟨g, i, none⟩ (.iface t u)).alloc (.cells #[.pointer (some ⟨b, 2, none⟩)] listT)) w'') := fun w' hw => by
    refine (listSet_any b 2 g n cp i t u old w' hE ((World.cell?_of_block (by rw [hw.1])).trans h) hi ((World.cell?_of_block (by rw [hw.1])).trans hc) ((World.frozen?_of_block (by rw [hw.1])).trans hf)).mono ?_
    rintro e w'' ⟨rfl, h1, h2, h3, h4⟩
    refine ⟨rfl, ?_, h2.trans hw.2.1, h3.trans hw.2.2.1, h4.trans hw.2.2.2⟩
    rw [h1]
    simp only [World.alloc, World.setCell, hw.1]
  have c2 : w.cell? ⟨ba, 2, none⟩ = some (.iface 87 (.pointer (some ⟨b, 0, none⟩))) := Blk.cell happ 2
  have c3 : w.cell? ⟨ba, 2 + 1, none⟩ = some (.string ⟨#[65, 114, 103, 115]⟩) := Blk.cell happ 3
  have c5 : w.cell? ⟨ba, 2 + 3, none⟩ = some (.iface tn un) := Blk.cell happ 5
  have zb := Blk.lt happ
  have q1 : (0 : Int) ≤ (i : Int) := by omega
  clear happ hne h hi hc hf hE
  go_enter Tryz.func41, Tryz.ntmps41
  go_wp2_with fail
  refine (curIndex_some HA.out).mono ?_
  rintro e w' ⟨rfl, rfl⟩
  go_wp2_with fail
  go_region_law
    (first
      | (go_simp; go_at_call 73; refine (list_callArgs b _).mono ?_; rintro e w5 ⟨rfl, rfl⟩)
      | (go_simp; refine (HS.out _ (by exact ⟨rfl, rfl, rfl, rfl⟩)).mono ?_; rintro e w5 ⟨rfl, hq⟩; have HQ := Lib.hid hq; clear hq))
  all_goals
    go_wp2_with fail
    refine bodyPost_ret (results_none rfl _ _ _) rfl ?_
    exact ⟨rfl, HQ.out.1, HQ.out.2.1, HQ.out.2.2.1, HQ.out.2.2.2⟩
end Go.Proofs.YtgimbgpebpippaaGreatDoor
