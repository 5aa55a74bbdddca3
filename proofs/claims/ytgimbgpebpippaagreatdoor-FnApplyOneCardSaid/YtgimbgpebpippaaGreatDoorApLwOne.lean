/- The law's own function: FnApplyOne. -/
import Derived.Test.YtgimbgpebpippaaGreatDoorApU
import Derived.Test.YtgimbgpebpippaaGreatDoorApT2
import Derived.Test.YtgimbgpebpippaaGreatDoorApT3
import Derived.Deep.RegionLaw
namespace Go.Proofs.YtgimbgpebpippaaGreatDoor
open Go.RowKit
set_option maxRecDepth 100000
set_option maxHeartbeats 8000000
theorem lawOne_any (n : ANode) (skip : ByteArray) (stop : Int) (post : Bool) (w : World) (hin : n.In w w.heap.size) (hG : Glob w) :
    Calls Tryz.prog 4 #[n.val, .string skip, .int .i64 stop, .bool post] w fun e w' => e = .returned (.bool true) ∧ Below w.heap.size w w' := by
  have HF := fun w' => fitsB_any n w'
  have HT := fun w' (h : Below w.heap.size w w') => isTreeTop2_any n w' w.heap.size (hin.below h (Nat.le_refl _)) h.size
  have HI := fun w' (h : Below w.heap.size w w') (hv : V n.erase ∧ Small n.erase) => appliedOne_any n skip stop post w' w.heap.size (hin.below h (Nat.le_refl _)) h.size (hG.below h (Nat.le_refl _)) hv.1 hv.2
  have HS := fun w' (h : Below w.heap.size w w') (hv : V n.erase ∧ Small n.erase) => specApplied_any n ⟨skip, stop, !post, post⟩ w' w.heap.size (hin.below h (Nat.le_refl _)) h.size hv.1 hv.2
  have HC := Lib.hid (And.intro HF (And.intro HT (And.intro HI HS)))
  clear HF HT HI HS
  have HIN := Lib.hid (And.intro hin hG)
  clear hin hG
  unfold ANode.val at *
  go_enter Tryz.func4, Tryz.ntmps4
  go_wp2_with fail
  refine (HC.out.1 _).mono ?_
  rintro e w1 ⟨b, rfl, _, hb1⟩
  have hbw1 : Below w.heap.size w w1 := Below.trans (by go_grown) (hb1.mono (by go_size))
  have rb := (Blk.new w 24 #[.string n.kind, .string n.text, .slice n.addr n.kids.length n.cap]).below hb1 (by go_size)
  have r0 : w1.cell? ⟨w.heap.size, 0, none⟩ = some (.string n.kind) := rb.cell 0
  have r1 : w1.cell? ⟨w.heap.size, 1, none⟩ = some (.string n.text) := rb.cell 1
  have r2 : w1.cell? ⟨w.heap.size, 2, none⟩ = some (.slice n.addr n.kids.length n.cap) := rb.cell 2
  have HB1 := Lib.hid (And.intro hbw1 rb)
  clear hb1 rb hbw1
  cases b
  · go_wp2_with fail
    go_ret
    exact ⟨rfl, HB1.out.1⟩
  by_cases hsz : (2147483647 : Int) < (skip.size : Int)
  · go_wp2_with fail
    go_ret
    exact ⟨rfl, HB1.out.1⟩
  go_wp2_with fail
  refine (HC.out.2.1 w1 HB1.out.1).mono ?_
  rintro e w2 ⟨b, rfl, hvs, hb2⟩
  have hbw2 : Below w.heap.size w w2 := HB1.out.1.trans (hb2.mono HB1.out.1.size)
  have rb2 := HB1.out.2.below hb2 HB1.out.2.lt
  have s0' : w2.cell? ⟨w.heap.size, 0, none⟩ = some (.string n.kind) := rb2.cell 0
  have s1' : w2.cell? ⟨w.heap.size, 1, none⟩ = some (.string n.text) := rb2.cell 1
  have s2' : w2.cell? ⟨w.heap.size, 2, none⟩ = some (.slice n.addr n.kids.length n.cap) := rb2.cell 2
  have HB2 := Lib.hid (And.intro hbw2 (And.intro rb2 hvs))
  clear hb2 rb2 hbw2 hvs r0 r1 r2
  cases b
  · go_wp2_with fail
    go_ret
    exact ⟨rfl, HB2.out.1⟩
  cases hse : (skip.toList == [])
  case true =>
    go_wp2_with fail
    go_ret
    exact ⟨rfl, HB2.out.1⟩
  by_cases hst : stop < 0
  · go_wp2_with fail
    go_ret
    exact ⟨rfl, HB2.out.1⟩
  have zz : w.heap.size < w2.heap.size := HB2.out.2.1.lt
  have HVS := HB2.out.2.2 rfl
  have KA := Lib.hid (fun w' (h : Below w.heap.size w w') => HC.out.2.2.1 w' h HVS)
  have KB := Lib.hid (fun w' (h : Below w.heap.size w w') => HC.out.2.2.2 w' h HVS)
  have hlen : (walkN ⟨skip, stop, !post, post⟩ n.erase top s0).1.calls.length ≤ 100000 := by
    have := (bd_of_small (q := ⟨skip, stop, !post, post⟩) HVS.2).1
    omega
  have HLEN := Lib.hid hlen
  have H2 := Lib.hid HB2.out.1
  have HRB := Lib.hid HB2.out.2.1
  clear hlen HVS
  go_wp2_with fail
  go_region_law
    (first
      | (go_simp; go_at_call 15; refine (KA.out _ (belowSm hbB (by exact ⟨rfl, rfl, rfl, rfl⟩))).mono ?_; rintro e wa ⟨va, rfl, hla, hba0⟩; have hba := (belowOf hba0 (w := wb) ⟨rfl, rfl, rfl, rfl⟩); have hlb2 := hlb.kept (.of hba); have hbC : Below w.heap.size w wa := hbB.trans (hba.mono hbB.size); have HSV := Lib.hid (And.intro (sameVisits_any _ va vb wa hla hlb2 HLEN.out) hbC))
      | (go_simp; go_at_call 15; refine (KA.out _ (belowSm H2.out (by exact ⟨rfl, rfl, rfl, rfl⟩))).mono ?_; rintro e wa ⟨va, rfl, hla, hba0⟩; have hba := (belowOf hba0 (w := w2) ⟨rfl, rfl, rfl, rfl⟩); have hbA : Below w.heap.size w wa := H2.out.trans (hba.mono H2.out.size); have rba := HRB.out.below (hba.mono (Nat.le_refl _)) HRB.out.lt; have a0 : wa.cell? ⟨w.heap.size, 0, none⟩ = some (.string n.kind) := rba.cell 0; have a1 : wa.cell? ⟨w.heap.size, 1, none⟩ = some (.string n.text) := rba.cell 1; have a2 : wa.cell? ⟨w.heap.size, 2, none⟩ = some (.slice n.addr n.kids.length n.cap) := rba.cell 2; have za := rba.lt)
      | (go_simp; go_at_call 14; refine (KB.out _ (belowSm hbA (by exact ⟨rfl, rfl, rfl, rfl⟩))).mono ?_; rintro e wb ⟨vb, rfl, hlb, hbb0⟩; have hbb := (belowOf hbb0 (w := wa) ⟨rfl, rfl, rfl, rfl⟩); have hla2 := hla.kept (.of hbb); have hbC : Below w.heap.size w wb := hbA.trans (hbb.mono hbA.size); have HSV := Lib.hid (And.intro (sameVisits_any _ va vb wb hla2 hlb HLEN.out) hbC))
      | (go_simp; go_at_call 14; refine (KB.out _ (belowSm H2.out (by exact ⟨rfl, rfl, rfl, rfl⟩))).mono ?_; rintro e wb ⟨vb, rfl, hlb, hbb0⟩; have hbb := (belowOf hbb0 (w := w2) ⟨rfl, rfl, rfl, rfl⟩); have hbB : Below w.heap.size w wb := H2.out.trans (hbb.mono H2.out.size); have rbb := HRB.out.below (hbb.mono (Nat.le_refl _)) HRB.out.lt; have a0 : wb.cell? ⟨w.heap.size, 0, none⟩ = some (.string n.kind) := rbb.cell 0; have a1 : wb.cell? ⟨w.heap.size, 1, none⟩ = some (.string n.text) := rbb.cell 1; have a2 : wb.cell? ⟨w.heap.size, 2, none⟩ = some (.slice n.addr n.kids.length n.cap) := rbb.cell 2; have zb := rbb.lt)
      | (go_simp; go_at_call 12; refine HSV.out.1.mono ?_; rintro e wz ⟨rfl, hbz⟩; have HZ := Lib.hid (HSV.out.2.trans (hbz.mono HSV.out.2.size)); clear hbz))
  all_goals
    go_wp2_with fail
    go_ret
    exact ⟨rfl, HZ.out⟩
end Go.Proofs.YtgimbgpebpippaaGreatDoor
