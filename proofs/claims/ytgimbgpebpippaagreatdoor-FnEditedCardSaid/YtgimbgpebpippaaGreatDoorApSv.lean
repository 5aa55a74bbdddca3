/- sameVisits9 over two lists of the same visits. -/
import Derived.Test.YtgimbgpebpippaaGreatDoorApLst
import Derived.Test.YtgimbgpebpippaaGreatDoorProg
import Derived.WalkKit
import Derived.Lib.Hide
import Derived.Deep.QuietTactic
import Derived.BigQuiet
import Derived.LoopTactic
import Derived.Deep.LoopGhost
namespace Go.Proofs.YtgimbgpebpippaaGreatDoor
open Go.RowKit
set_option maxRecDepth 100000
set_option maxHeartbeats 4000000
theorem belowN {B : Nat} {w w' : World} (h : Below B w w') (k : Nat) : Below B w (w'.drewN k) := ⟨h.os, h.tape, h.output, h.size, h.block⟩
theorem same_zero (A1 A2 : Option Addr) (c1 c2 : Nat) (w : World) : Calls Tryz.prog 12 #[.slice A1 0 c1, .slice A2 0 c2] w fun e w' => e = .returned (.bool true) ∧ Below w.heap.size w w' := by
  go_enter Tryz.func12, Tryz.ntmps12
  go_wp2_with fail
  go_loopw [14] (fun k wr => k = .int .i64 0 ∧ Hid (Below w.heap.size w wr)) (fun _ _ => 0)
  case atStart => exact ⟨rfl, Below.refl _ _⟩
  case round =>
    obtain ⟨rfl, HB⟩ := hrel
    go_wp2_with fail
    go_ret
    exact ⟨rfl, HB.out⟩
theorem same_rows (vs : List Vst) (g1 c1 g2 c2 : Nat) (w : World) (h1 : Row w g1 54 6 vs.length (cellsV vs) c1) (h2 : Row w g2 54 6 vs.length (cellsV vs) c2) (hl : vs.length ≤ 100000) :
    Calls Tryz.prog 12 #[.slice (some ⟨g1, 0, none⟩) vs.length c1, .slice (some ⟨g2, 0, none⟩) vs.length c2] w fun e w' => e = .returned (.bool true) ∧ Below w.heap.size w w' := by
  have H := Lib.hid (And.intro h1 h2)
  clear h1 h2
  go_enter Tryz.func12, Tryz.ntmps12
  go_wp2_with fail
  go_loopw [14] (fun k wr => ∃ j : Nat, j ≤ vs.length ∧ k = .int .i64 j ∧ Hid (Below w.heap.size w wr)) (fun k _ => vs.length - (intOf k).toNat)
  case atStart => exact ⟨0, by omega, rfl, Below.refl _ _⟩
  case round =>
    obtain ⟨j, hj, rfl, HB⟩ := hrel
    by_cases hlt : j < vs.length
    · obtain ⟨p, hp⟩ : ∃ p, vs[j]? = some p := ⟨_, List.getElem?_eq_getElem hlt⟩
      have l1 := Row.lt H.out.1
      have l2 := Row.lt H.out.2
      have ha := Row.below H.out.1 HB.out l1
      have hb := Row.below H.out.2 HB.out l2
      have a0 : wr.cell? ⟨g1, j * 6, none⟩ = some (.bool p.post) := ha.cell (i := j * 6 + 0) (by rw [cellsV_get 0 (by decide) hp]; rfl)
      have a1 : wr.cell? ⟨g1, j * 6 + 1, none⟩ = some (.string p.kind) := ha.cell (by rw [cellsV_get 1 (by decide) hp]; rfl)
      have a2 : wr.cell? ⟨g1, j * 6 + 2, none⟩ = some (.string p.text) := ha.cell (by rw [cellsV_get 2 (by decide) hp]; rfl)
      have a3 : wr.cell? ⟨g1, j * 6 + 3, none⟩ = some (.string p.at_.field) := ha.cell (by rw [cellsV_get 3 (by decide) hp]; rfl)
      have a4 : wr.cell? ⟨g1, j * 6 + 4, none⟩ = some (.int .i64 p.at_.index) := ha.cell (by rw [cellsV_get 4 (by decide) hp]; rfl)
      have a5 : wr.cell? ⟨g1, j * 6 + 5, none⟩ = some (.string p.at_.parent) := ha.cell (by rw [cellsV_get 5 (by decide) hp]; rfl)
      have b0 : wr.cell? ⟨g2, j * 6, none⟩ = some (.bool p.post) := hb.cell (i := j * 6 + 0) (by rw [cellsV_get 0 (by decide) hp]; rfl)
      have b1 : wr.cell? ⟨g2, j * 6 + 1, none⟩ = some (.string p.kind) := hb.cell (by rw [cellsV_get 1 (by decide) hp]; rfl)
      have b2 : wr.cell? ⟨g2, j * 6 + 2, none⟩ = some (.string p.text) := hb.cell (by rw [cellsV_get 2 (by decide) hp]; rfl)
      have b3 : wr.cell? ⟨g2, j * 6 + 3, none⟩ = some (.string p.at_.field) := hb.cell (by rw [cellsV_get 3 (by decide) hp]; rfl)
      have b4 : wr.cell? ⟨g2, j * 6 + 4, none⟩ = some (.int .i64 p.at_.index) := hb.cell (by rw [cellsV_get 4 (by decide) hp]; rfl)
      have b5 : wr.cell? ⟨g2, j * 6 + 5, none⟩ = some (.string p.at_.parent) := hb.cell (by rw [cellsV_get 5 (by decide) hp]; rfl)
      have q1 : (0 : Int) ≤ (j : Int) := by omega
      have q2 : (j : Int) < (vs.length : Int) := by omega
      have l3 := hb.lt
      have l4 := ha.lt
      clear hp ha hb l1 l2
      go_wp2_with fail
      go_quiet (fail)
      go_wp2_with fail
      go_roundw
      case rel => exact ⟨j + 1, by omega, by go_num, belowN (HB.out.alloc HB.out.size _) _⟩
      case measure => simp [intOf]; omega
    · obtain rfl : j = vs.length := by omega
      go_wp2_with fail
      go_ret
      exact ⟨rfl, HB.out⟩
theorem sameVisits_any (vs : List Vst) (v1 v2 : Value) (w : World) (h1 : LstS w 0 54 6 vs.length v1 (cellsV vs)) (h2 : LstS w 0 54 6 vs.length v2 (cellsV vs)) (hl : vs.length ≤ 100000) :
    Calls Tryz.prog 12 #[v1, v2] w fun e w' => e = .returned (.bool true) ∧ Below w.heap.size w w' := by
  rcases h1 with ⟨rfl, _, hn⟩ | ⟨g1, c1, rfl, r1, _⟩
  · rcases h2 with ⟨rfl, _, _⟩ | ⟨g2, c2, rfl, r2, _⟩
    · exact same_zero _ _ _ _ w
    · rw [hn]; exact same_zero _ _ _ _ w
  · rcases h2 with ⟨rfl, _, hn⟩ | ⟨g2, c2, rfl, r2, _⟩
    · rw [hn]; exact same_zero _ _ _ _ w
    · exact same_rows vs g1 c1 g2 c2 w r1 r2 hl
end Go.Proofs.YtgimbgpebpippaaGreatDoor
