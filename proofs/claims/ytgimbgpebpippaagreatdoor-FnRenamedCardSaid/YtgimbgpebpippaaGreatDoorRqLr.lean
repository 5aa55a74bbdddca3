/- The law's own function: FnRenamed. -/
import Derived.Test.YtgimbgpebpippaaGreatDoorRpY
import Derived.Test.YtgimbgpebpippaaGreatDoorRqE
import Derived.Test.YtgimbgpebpippaaGreatDoorWalkI
import Derived.Deep.Draws
import Derived.Deep.RegionLaw
namespace Go.Proofs.YtgimbgpebpippaaGreatDoor
open Go.RowKit
set_option maxRecDepth 100000
set_option maxHeartbeats 8000000
theorem fitsFnRenamed_any (n : ANode) (w : World) : Calls Tryz.prog 10 #[n.val] w (Tells True w) := by
  unfold ANode.val
  go_enter Tryz.func10, Tryz.ntmps10
  go_wp2
  all_goals
    go_ret
    exact Tells.of (fun _ => trivial) (by go_grown)
theorem renBelowSm {B : Nat} {w w1 w2 : World} (h : Below B w w1) (e : Sm w1 w2) : Below B w w2 := ⟨e.2.1.trans h.os, e.2.2.1.trans h.tape, e.2.2.2.trans h.output, by rw [e.1]; exact h.size, fun k hk => by rw [e.1]; exact h.block k hk⟩
theorem renBelowOf {w w1 w2 : World} (h : Below w1.heap.size w1 w2) (e : Sm w w1) : Below w.heap.size w w2 := ⟨h.os.trans e.2.1, h.tape.trans e.2.2.1, h.output.trans e.2.2.2, by rw [← e.1]; exact h.size, fun k hk => by rw [h.block k (by rw [e.1]; exact hk), e.1]⟩
theorem lawFnRenamed_any (n : ANode) (fr tw : ByteArray) (post : Bool) (w : World) (hin : n.In w w.heap.size) (hG : Glob w) (htw : tw.size ≤ maxLen) :
    Calls Tryz.prog 7 #[n.val, .string fr, .string tw, .bool post] w fun e w' => e = .returned (.bool true) ∧ Below w.heap.size w w' := by
  have HF := fun w' => fitsFnRenamed_any n w'
  have HT := fun w' (h : Below w.heap.size w w') => isTreeTop_any n w' w.heap.size (hin.below h (Nat.le_refl _)) h.size
  have HI : ∀ w', Below w.heap.size w w' → V n.erase → Calls Tryz.prog 21 #[n.val, .string fr, .string tw, .bool post] w' (MadeN (n.erase.tr (rpRen fr tw)) w') := fun w' h hv => by
    cases post
    · exact implRenamed_false n fr tw htw w' w.heap.size (hin.below h (Nat.le_refl _)) h.size (hG.below h (Nat.le_refl _)) hv
    · exact implRenamed_true n fr tw htw w' w.heap.size (hin.below h (Nat.le_refl _)) h.size (hG.below h (Nat.le_refl _)) hv
  have HS := fun w' (h : Below w.heap.size w w') hv => specRenamed_any w.heap.size fr tw htw _ n w' (Nat.lt_succ_self _) (hin.below h (Nat.le_refl _)) h.size hv
  have HC := Lib.hid (And.intro HF (And.intro HT (And.intro HI HS)))
  clear HF HT HI HS hin hG htw
  unfold ANode.val at *
  go_enter Tryz.func7, Tryz.ntmps7
  go_wp2_with fail
  refine (HC.out.1 _).mono ?_
  rintro e w1 ⟨b, rfl, _, hb1⟩
  have hbw1 : Below w.heap.size w w1 := Below.trans (by go_grown) (hb1.mono (by go_size))
  have rb := (Blk.new w 24 #[.string n.kind, .string n.text, .slice n.addr n.kids.length n.cap]).below hb1 (by go_size)
  have r0 : w1.cell? ⟨w.heap.size, 0, none⟩ = some (.string n.kind) := rb.cell 0
  have r1 : w1.cell? ⟨w.heap.size, 1, none⟩ = some (.string n.text) := rb.cell 1
  have r2 : w1.cell? ⟨w.heap.size, 2, none⟩ = some (.slice n.addr n.kids.length n.cap) := rb.cell 2
  have HB1 := Lib.hid (And.intro hbw1 rb)
  clear hb1 rb hbw1
  cases b
  · go_wp2_with fail
    go_ret
    exact ⟨rfl, HB1.out.1⟩
  by_cases hsz : (2147483647 : Int) < (fr.size : Int)
  · go_wp2_with fail
    go_ret
    exact ⟨rfl, HB1.out.1⟩
  by_cases hsz2 : (2147483647 : Int) < (tw.size : Int)
  · go_wp2_with fail
    go_ret
    exact ⟨rfl, HB1.out.1⟩
  go_wp2_with fail
  refine (HC.out.2.1 w1 HB1.out.1).mono ?_
  rintro e w2 ⟨b, rfl, hvs, hb2⟩
  have hbw2 : Below w.heap.size w w2 := HB1.out.1.trans (hb2.mono HB1.out.1.size)
  have rb2 := HB1.out.2.below hb2 HB1.out.2.lt
  have s0' : w2.cell? ⟨w.heap.size, 0, none⟩ = some (.string n.kind) := rb2.cell 0
  have s1' : w2.cell? ⟨w.heap.size, 1, none⟩ = some (.string n.text) := rb2.cell 1
  have s2' : w2.cell? ⟨w.heap.size, 2, none⟩ = some (.slice n.addr n.kids.length n.cap) := rb2.cell 2
  have HB2 := Lib.hid (And.intro hbw2 (And.intro rb2 hvs))
  clear hb2 rb2 hbw2 hvs r0 r1 r2
  cases b
  · go_wp2_with fail
    go_ret
    exact ⟨rfl, HB2.out.1⟩
  cases hse : (fr.toList == [])
  case true =>
    go_wp2_with fail
    go_ret
    exact ⟨rfl, HB2.out.1⟩
  cases hst : (tw.toList == [])
  case true =>
    go_wp2_with fail
    go_ret
    exact ⟨rfl, HB2.out.1⟩
  have zz : w.heap.size < w2.heap.size := HB2.out.2.1.lt
  have HVS := HB2.out.2.2 rfl
  have KA := Lib.hid (fun w' (h : Below w.heap.size w w') => HC.out.2.2.1 w' h HVS)
  have KB := Lib.hid (fun w' (h : Below w.heap.size w w') => HC.out.2.2.2 w' h HVS)
  have H2 := Lib.hid HB2.out.1
  have HRB := Lib.hid HB2.out.2.1
  clear HVS
  go_wp2_with fail
  go_region_law
    (first
      | (go_simp; go_at_call 21; refine (KA.out _ (renBelowSm hbB (by exact ⟨rfl, rfl, rfl, rfl⟩))).mono ?_; rintro e wa ⟨m, rfl, hma, hme, _, hba0⟩; have hba := (renBelowOf hba0 (w := wb) ⟨rfl, rfl, rfl, rfl⟩); have hrb2 := (hrb.below hba (Nat.le_refl _)).more hba.size; have hbC : Below w.heap.size w wa := hbB.trans (hba.mono hbB.size); have HSV := Lib.hid (And.intro (same_any _ m r wa wa.heap.size (Nat.lt_succ_self _) hma hrb2 (Nat.le_refl _) (by rw [hme, hre])) hbC); unfold ANode.val at *)
      | (go_simp; go_at_call 21; refine (KA.out _ (renBelowSm H2.out (by exact ⟨rfl, rfl, rfl, rfl⟩))).mono ?_; rintro e wa ⟨m, rfl, hma, hme, _, hba0⟩; have hba := (renBelowOf hba0 (w := w2) ⟨rfl, rfl, rfl, rfl⟩); have hbA : Below w.heap.size w wa := H2.out.trans (hba.mono H2.out.size); have rba := HRB.out.below (hba.mono (Nat.le_refl _)) HRB.out.lt; have a0 : wa.cell? ⟨w.heap.size, 0, none⟩ = some (.string n.kind) := rba.cell 0; have a1 : wa.cell? ⟨w.heap.size, 1, none⟩ = some (.string n.text) := rba.cell 1; have a2 : wa.cell? ⟨w.heap.size, 2, none⟩ = some (.slice n.addr n.kids.length n.cap) := rba.cell 2; have za := rba.lt; unfold ANode.val at *)
      | (go_simp; go_at_call 22; refine (KB.out _ (renBelowSm hbA (by exact ⟨rfl, rfl, rfl, rfl⟩))).mono ?_; rintro e wb ⟨r, rfl, hrb, hre, _, hbb0⟩; have hbb := (renBelowOf hbb0 (w := wa) ⟨rfl, rfl, rfl, rfl⟩); have hma2 := (hma.below hbb (Nat.le_refl _)).more hbb.size; have hbC : Below w.heap.size w wb := hbA.trans (hbb.mono hbA.size); have HSV := Lib.hid (And.intro (same_any _ m r wb wb.heap.size (Nat.lt_succ_self _) hma2 hrb (Nat.le_refl _) (by rw [hme, hre])) hbC); unfold ANode.val at *)
      | (go_simp; go_at_call 22; refine (KB.out _ (renBelowSm H2.out (by exact ⟨rfl, rfl, rfl, rfl⟩))).mono ?_; rintro e wb ⟨r, rfl, hrb, hre, _, hbb0⟩; have hbb := (renBelowOf hbb0 (w := w2) ⟨rfl, rfl, rfl, rfl⟩); have hbB : Below w.heap.size w wb := H2.out.trans (hbb.mono H2.out.size); have rbb := HRB.out.below (hbb.mono (Nat.le_refl _)) HRB.out.lt; have a0 : wb.cell? ⟨w.heap.size, 0, none⟩ = some (.string n.kind) := rbb.cell 0; have a1 : wb.cell? ⟨w.heap.size, 1, none⟩ = some (.string n.text) := rbb.cell 1; have a2 : wb.cell? ⟨w.heap.size, 2, none⟩ = some (.slice n.addr n.kids.length n.cap) := rbb.cell 2; have zb := rbb.lt; unfold ANode.val at *)
      | (go_simp; go_at_call 16; refine HSV.out.1.mono ?_; rintro e wz ⟨rfl, hbz⟩; have HZ := Lib.hid (HSV.out.2.trans (hbz.mono HSV.out.2.size)); clear hbz))
  all_goals
    go_wp2_with fail
    go_ret
    exact ⟨rfl, HZ.out⟩
end Go.Proofs.YtgimbgpebpippaaGreatDoor
