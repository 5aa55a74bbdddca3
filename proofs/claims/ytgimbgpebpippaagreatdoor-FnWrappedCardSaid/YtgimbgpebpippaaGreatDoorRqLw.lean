/- The law's own function: FnWrapped. -/
import Derived.Test.YtgimbgpebpippaaGreatDoorRpX
import Derived.Test.YtgimbgpebpippaaGreatDoorRqD
import Derived.Test.YtgimbgpebpippaaGreatDoorWalkI
import Derived.Deep.Draws
import Derived.Deep.RegionLaw
namespace Go.Proofs.YtgimbgpebpippaaGreatDoor
open Go.RowKit
set_option maxRecDepth 100000
set_option maxHeartbeats 4000000
theorem fitsFnWrapped_any (n : ANode) (w : World) : Calls Tryz.prog 10 #[n.val] w (Tells True w) := by
  unfold ANode.val
  go_enter Tryz.func10, Tryz.ntmps10
  go_wp2
  all_goals
    go_ret
    exact Tells.of (fun _ => trivial) (by go_grown)
theorem lawFnWrapped_any (n : ANode) (nm : ByteArray) (w : World) (hin : n.In w w.heap.size) (hG : Glob w) :
    Calls Tryz.prog 6 #[n.val, .string nm] w fun e w' => e = .returned (.bool true) ∧ Below w.heap.size w w' := by
  have HF := fun w' => fitsFnWrapped_any n w'
  have HT := fun w' (h : Below w.heap.size w w') => isTreeTop_any n w' w.heap.size (hin.below h (Nat.le_refl _)) h.size
  have HI := fun w' (h : Below w.heap.size w w') hv => implWrapped_any n nm w' w.heap.size (hin.below h (Nat.le_refl _)) h.size (hG.below h (Nat.le_refl _)) hv
  have HS := fun w' (h : Below w.heap.size w w') hv => specWrapped_any w.heap.size nm _ n w' (Nat.lt_succ_self _) (hin.below h (Nat.le_refl _)) h.size hv
  have HC := Lib.hid (And.intro HF (And.intro HT (And.intro HI HS)))
  clear HF HT HI HS hin hG
  unfold ANode.val at *
  go_enter Tryz.func6, Tryz.ntmps6
  go_wp2_with fail
  refine (HC.out.1 _).mono ?_
  rintro e w1 ⟨b, rfl, _, hb1⟩
  have hbw1 : Below w.heap.size w w1 := Below.trans (by go_grown) (hb1.mono (by go_size))
  have rb := (Blk.new w 24 #[.string n.kind, .string n.text, .slice n.addr n.kids.length n.cap]).below hb1 (by go_size)
  have r0 : w1.cell? ⟨w.heap.size, 0, none⟩ = some (.string n.kind) := rb.cell 0
  have r1 : w1.cell? ⟨w.heap.size, 1, none⟩ = some (.string n.text) := rb.cell 1
  have r2 : w1.cell? ⟨w.heap.size, 2, none⟩ = some (.slice n.addr n.kids.length n.cap) := rb.cell 2
  have hz : w.heap.size < w1.heap.size := by
    have := hb1.size
    simp only [World.size_alloc] at this
    omega
  clear hb1 rb
  cases b
  · go_wp2_with fail
    go_ret
    exact ⟨rfl, hbw1⟩
  by_cases hsz : (2147483647 : Int) < (nm.size : Int)
  · go_wp2_with fail
    go_ret
    exact ⟨rfl, hbw1⟩
  go_wp2_with fail
  refine wp_region_held_drew (S := fun w' => w'.cell? ⟨w.heap.size, 0, none⟩ = some (.string n.kind) ∧ w'.cell? ⟨w.heap.size, 1, none⟩ = some (.string n.text) ∧ w'.cell? ⟨w.heap.size, 2, none⟩ = some (.slice n.addr n.kids.length n.cap)) (by kernel_rfl) ?_ (fun hHeld => ?_)
  · go_keep
  refine wpAnyH_ready (rs := [0]) (by kernel_rfl) (by simp) ?_
  refine AllReadyH.cons rfl (fun K hK => ?_) AllReadyH.nil
  go_simp
  refine hK.out _ _ (by go_keep) (fun hHeld => ?_)
  clear hK K
  (try simp only [Act.put, List.setIfInBounds_toArray, List.set_cons_zero, List.set_cons_succ])
  refine wpAnyH_ready (rs := [1]) (by kernel_rfl) (by simp) ?_
  refine AllReadyH.cons rfl (fun K hK => ?_) AllReadyH.nil
  go_simp
  refine (HC.out.2.1 _ (by go_grown)).mono ?_
  rintro e w2 ⟨b, rfl, hb, hb2⟩
  have hbw2 : Below w.heap.size w w2 := Below.trans (by go_grown) (hb2.mono (by go_size))
  have hS2 : w2.cell? ⟨w.heap.size, 0, none⟩ = some (.string n.kind) ∧ w2.cell? ⟨w.heap.size, 1, none⟩ = some (.string n.text) ∧ w2.cell? ⟨w.heap.size, 2, none⟩ = some (.slice n.addr n.kids.length n.cap) := by
    have e0 := hb2.cell (p := ⟨w.heap.size, 0, none⟩) (by go_size)
    have e1 := hb2.cell (p := ⟨w.heap.size, 1, none⟩) (by go_size)
    have e2 := hb2.cell (p := ⟨w.heap.size, 2, none⟩) (by go_size)
    exact ⟨e0.trans hHeld.1, e1.trans hHeld.2.1, e2.trans hHeld.2.2⟩
  have hz2 : w.heap.size < w2.heap.size := by
    have h1 := hb2.size
    have h2 : w1.drew.heap.size = w1.heap.size := rfl
    omega
  clear hb2 hHeld r0 r1 r2
  cases b
  · go_wp2_with fail
    refine hK.out _ _ hS2 (fun hHeld => ?_)
    clear hK K
    (try simp only [Act.put, List.setIfInBounds_toArray, List.set_cons_zero, List.set_cons_succ])
    refine wpAnyH_ready (rs := [2]) (by kernel_rfl) (by simp) ?_
    refine AllReadyH.cons rfl (fun K hK => ?_) AllReadyH.nil
    go_simp
    refine hK.out _ _ hHeld (fun hHeld => ?_)
    clear hK K
    (try simp only [Act.put, List.setIfInBounds_toArray, List.set_cons_zero, List.set_cons_succ])
    refine wpAnyH_ready (rs := [3]) (by kernel_rfl) (by simp) ?_
    refine AllReadyH.cons rfl (fun K hK => ?_) AllReadyH.nil
    go_simp
    refine hK.out _ _ hHeld (fun hHeld => ?_)
    clear hK K
    (try simp only [Act.put, List.setIfInBounds_toArray, List.set_cons_zero, List.set_cons_succ])
    refine wpAnyH_take (i := 4) (v := undef) rfl (by kernel_rfl) (by kernel_rfl) (by kernel_rfl) (fun _ _ _ h => h) (Or.inr ⟨by rfl, rfl⟩) (by assumption) ?_
    (try simp only [Act.put, List.setIfInBounds_toArray])
    refine wpAnyH_take (i := 5) (v := undef) rfl (by kernel_rfl) (by kernel_rfl) (by kernel_rfl) (fun _ _ _ h => h) (Or.inr ⟨by rfl, rfl⟩) (by assumption) ?_
    (try simp only [Act.put])
    refine wpAnyH_ready (rs := [6]) (by kernel_rfl) (by simp) ?_
    refine AllReadyH.cons rfl (fun K hK => ?_) AllReadyH.nil
    go_simp
    refine hK.out _ _ hHeld (fun hHeld => ?_)
    clear hK K
    (try simp only [Act.put, List.setIfInBounds_toArray, List.set_cons_zero, List.set_cons_succ])
    refine wpAnyH_ready (rs := [7]) (by kernel_rfl) (by simp) ?_
    refine AllReadyH.cons rfl (fun K hK => ?_) AllReadyH.nil
    go_simp
    refine hK.out _ _ hHeld (fun hHeld => ?_)
    clear hK K
    (try simp only [Act.put, List.setIfInBounds_toArray, List.set_cons_zero, List.set_cons_succ])
    refine wpAnyH_take (i := 8) (v := undef) rfl (by kernel_rfl) (by kernel_rfl) (by kernel_rfl) (fun _ _ _ h => h) (Or.inr ⟨by rfl, rfl⟩) (by assumption) ?_
    (try simp only [Act.put, List.setIfInBounds_toArray])
    refine wpAnyH_take (i := 9) (v := undef) rfl (by kernel_rfl) (by kernel_rfl) (by kernel_rfl) (fun _ _ _ h => h) (Or.inr ⟨by rfl, rfl⟩) (by assumption) ?_
    (try simp only [Act.put])
    refine wpAnyH_take (i := 10) (v := undef) rfl (by kernel_rfl) (by kernel_rfl) (by kernel_rfl) (fun _ _ _ h => h) (Or.inr ⟨by rfl, rfl⟩) (by assumption) ?_
    (try simp only [Act.put])
    refine wpAnyH_take (i := 11) (v := undef) rfl (by kernel_rfl) (by kernel_rfl) (by kernel_rfl) (fun _ _ _ h => h) (Or.inr ⟨by rfl, rfl⟩) (by assumption) ?_
    (try simp only [Act.put])
    refine wpAnyH_take (i := 12) (v := undef) rfl (by kernel_rfl) (by kernel_rfl) (by kernel_rfl) (fun _ _ _ h => h) (Or.inr ⟨by rfl, rfl⟩) (by assumption) ?_
    (try simp only [Act.put])
    refine wpAnyH_take (i := 13) (v := undef) rfl (by kernel_rfl) (by kernel_rfl) (by kernel_rfl) (fun _ _ _ h => h) (Or.inr ⟨by rfl, rfl⟩) (by assumption) ?_
    (try simp only [Act.put])
    refine wpAnyH_take (i := 14) (v := undef) rfl (by kernel_rfl) (by kernel_rfl) (by kernel_rfl) (fun _ _ _ h => h) (Or.inr ⟨by rfl, rfl⟩) (by assumption) ?_
    (try simp only [Act.put])
    refine wpAnyH_ready (rs := [15]) (by kernel_rfl) (by simp) ?_
    refine AllReadyH.cons rfl (fun K hK => ?_) AllReadyH.nil
    go_simp
    refine hK.out _ _ hHeld (fun hHeld => ?_)
    clear hK K
    (try simp only [Act.put, List.setIfInBounds_toArray, List.set_cons_zero, List.set_cons_succ])
    refine wpAnyH_ready (rs := [16]) (by kernel_rfl) (by simp) ?_
    refine AllReadyH.cons rfl (fun K hK => ?_) AllReadyH.nil
    go_simp
    refine hK.out _ _ hHeld (fun hHeld => ?_)
    clear hK K
    (try simp only [Act.put, List.setIfInBounds_toArray, List.set_cons_zero, List.set_cons_succ])
    refine wpAnyH_done (by kernel_rfl) ?_ _
    go_wp2_with fail
    go_ret
    exact ⟨rfl, hbw2⟩
  · have hv := hb rfl
    have HV := Lib.hid hv
    clear hb hv
    cases hse : (nm.toList == [])
    · go_wp2_with fail
      refine hK.out _ _ hS2 (fun hHeld => ?_)
      clear hK K
      (try simp only [Act.put, List.setIfInBounds_toArray, List.set_cons_zero, List.set_cons_succ])
      refine wpAnyH_ready (rs := [2]) (by kernel_rfl) (by simp) ?_
      refine AllReadyH.cons rfl (fun K hK => ?_) AllReadyH.nil
      go_simp
      refine hK.out _ _ hHeld (fun hHeld => ?_)
      clear hK K
      (try simp only [Act.put, List.setIfInBounds_toArray, List.set_cons_zero, List.set_cons_succ])
      refine wpAnyH_ready (rs := [3]) (by kernel_rfl) (by simp) ?_
      refine AllReadyH.cons rfl (fun K hK => ?_) AllReadyH.nil
      go_simp
      refine hK.out _ _ hHeld (fun hHeld => ?_)
      clear hK K
      (try simp only [Act.put, List.setIfInBounds_toArray, List.set_cons_zero, List.set_cons_succ])
      refine wpAnyH_ready (rs := [4]) (by kernel_rfl) (by simp) ?_
      refine AllReadyH.cons rfl (fun K hK => ?_) AllReadyH.nil
      go_simp
      refine hK.out _ _ hHeld (fun hHeld => ?_)
      clear hK K
      (try simp only [Act.put, List.setIfInBounds_toArray, List.set_cons_zero, List.set_cons_succ])
      refine wpAnyH_ready (rs := [5]) (by kernel_rfl) (by simp) ?_
      refine AllReadyH.cons rfl (fun K hK => ?_) AllReadyH.nil
      go_simp
      refine hK.out _ _ hHeld (fun hHeld => ?_)
      clear hK K
      (try simp only [Act.put, List.setIfInBounds_toArray, List.set_cons_zero, List.set_cons_succ])
      refine wpAnyH_ready (rs := [6]) (by kernel_rfl) (by simp) ?_
      refine AllReadyH.cons rfl (fun K hK => ?_) AllReadyH.nil
      go_simp
      refine hK.out _ _ hHeld (fun hHeld => ?_)
      clear hK K
      (try simp only [Act.put, List.setIfInBounds_toArray, List.set_cons_zero, List.set_cons_succ])
      refine wpAnyH_ready (rs := [7]) (by kernel_rfl) (by simp) ?_
      refine AllReadyH.cons rfl (fun K hK => ?_) AllReadyH.nil
      go_simp
      refine hK.out _ _ hHeld (fun hHeld => ?_)
      clear hK K
      (try simp only [Act.put, List.setIfInBounds_toArray, List.set_cons_zero, List.set_cons_succ])
      refine wpAnyH_take (i := 8) (v := .agg #[.string n.kind, .string n.text, .slice n.addr n.kids.length n.cap]) rfl (by kernel_rfl) (by kernel_rfl) (by kernel_rfl) (fun _ _ _ h => h) (Or.inl ⟨by rfl, ?_⟩) (by assumption) ?_
      · intro w' _hSw
        go_simp
      (try simp only [Act.put, List.setIfInBounds_toArray])
      refine wpAnyH_take (i := 9) (v := .string nm) rfl (by kernel_rfl) (by kernel_rfl) (by kernel_rfl) (fun _ _ _ h => h) (Or.inl ⟨by rfl, ?_⟩) (by assumption) ?_
      · intro w' _hSw
        go_simp
      (try simp only [Act.put])
      refine wpAnyH_take (i := 11) (v := .agg #[.string n.kind, .string n.text, .slice n.addr n.kids.length n.cap]) rfl (by kernel_rfl) (by kernel_rfl) (by kernel_rfl) (fun _ _ _ h => h) (Or.inl ⟨by rfl, ?_⟩) (by assumption) ?_
      · intro w' _hSw
        go_simp
      (try simp only [Act.put])
      refine wpAnyH_take (i := 12) (v := .string nm) rfl (by kernel_rfl) (by kernel_rfl) (by kernel_rfl) (fun _ _ _ h => h) (Or.inl ⟨by rfl, ?_⟩) (by assumption) ?_
      · intro w' _hSw
        go_simp
      (try simp only [Act.put])
      refine wpAnyH_ready (rs := [10]) (by kernel_rfl) (by simp) ?_
      refine AllReadyH.cons rfl (fun K hK => ?_) AllReadyH.nil
      go_simp
      refine (HC.out.2.2.1 _ (by go_grown) HV.out).mono ?_
      rintro e w3 ⟨m, rfl, hmin, hme, hmb, hb3⟩
      have hbw3 : Below w.heap.size w w3 := hbw2.trans (hb3.mono hbw2.size)
      have hS3 : w3.cell? ⟨w.heap.size, 0, none⟩ = some (.string n.kind) ∧ w3.cell? ⟨w.heap.size, 1, none⟩ = some (.string n.text) ∧ w3.cell? ⟨w.heap.size, 2, none⟩ = some (.slice n.addr n.kids.length n.cap) := by
        have e0 := hb3.cell (p := ⟨w.heap.size, 0, none⟩) hz2
        have e1 := hb3.cell (p := ⟨w.heap.size, 1, none⟩) hz2
        have e2 := hb3.cell (p := ⟨w.heap.size, 2, none⟩) hz2
        exact ⟨e0.trans hHeld.1, e1.trans hHeld.2.1, e2.trans hHeld.2.2⟩
      have hz3 : w.heap.size < w3.heap.size := Nat.lt_of_lt_of_le hz2 hb3.size
      have HM := Lib.hid (And.intro hmin hme)
      clear hmin hme hmb hb3 hHeld hS2
      go_wp2_with fail
      refine hK.out _ _ hS3 (fun hHeld => ?_)
      clear hK K
      (try simp only [Act.put, List.setIfInBounds_toArray, List.set_cons_zero, List.set_cons_succ])
      refine wpAnyH_ready (rs := [13]) (by kernel_rfl) (by simp) ?_
      refine AllReadyH.cons rfl (fun K hK => ?_) AllReadyH.nil
      go_simp
      refine (HC.out.2.2.2 _ (by go_grown) HV.out).mono ?_
      rintro e w4 ⟨r, rfl, hrin, hre, hrb, hb4⟩
      have hbw4 : Below w.heap.size w w4 := hbw3.trans (hb4.mono hbw3.size)
      have hS4 : w4.cell? ⟨w.heap.size, 0, none⟩ = some (.string n.kind) ∧ w4.cell? ⟨w.heap.size, 1, none⟩ = some (.string n.text) ∧ w4.cell? ⟨w.heap.size, 2, none⟩ = some (.slice n.addr n.kids.length n.cap) := by
        have e0 := hb4.cell (p := ⟨w.heap.size, 0, none⟩) hz3
        have e1 := hb4.cell (p := ⟨w.heap.size, 1, none⟩) hz3
        have e2 := hb4.cell (p := ⟨w.heap.size, 2, none⟩) hz3
        exact ⟨e0.trans hHeld.1, e1.trans hHeld.2.1, e2.trans hHeld.2.2⟩
      have hz4 : w.heap.size < w4.heap.size := Nat.lt_of_lt_of_le hz3 hb4.size
      have hsame := same_any _ m r w4 w4.heap.size (Nat.lt_succ_self _) ((HM.out.1.below hb4 (Nat.le_refl _)).more hb4.size) hrin (Nat.le_refl _) (by rw [HM.out.2, hre])
      have HX := Lib.hid hsame
      clear hsame hrin hrb hre hb4 hHeld hS3
      go_wp2_with fail
      refine hK.out _ _ hS4 (fun hHeld => ?_)
      clear hK K
      (try simp only [Act.put, List.setIfInBounds_toArray, List.set_cons_zero, List.set_cons_succ])
      refine wpAnyH_ready (rs := [14]) (by kernel_rfl) (by simp) ?_
      refine AllReadyH.cons rfl (fun K hK => ?_) AllReadyH.nil
      go_simp
      refine HX.out.mono ?_
      rintro e w5 ⟨rfl, hb5⟩
      have hbw5 : Below w.heap.size w w5 := hbw4.trans (hb5.mono hbw4.size)
      have hS5 : w5.cell? ⟨w.heap.size, 0, none⟩ = some (.string n.kind) ∧ w5.cell? ⟨w.heap.size, 1, none⟩ = some (.string n.text) ∧ w5.cell? ⟨w.heap.size, 2, none⟩ = some (.slice n.addr n.kids.length n.cap) := by
        have e0 := hb5.cell (p := ⟨w.heap.size, 0, none⟩) hz4
        have e1 := hb5.cell (p := ⟨w.heap.size, 1, none⟩) hz4
        have e2 := hb5.cell (p := ⟨w.heap.size, 2, none⟩) hz4
        exact ⟨e0.trans hHeld.1, e1.trans hHeld.2.1, e2.trans hHeld.2.2⟩
      clear hb5 hHeld hS4
      go_wp2_with fail
      refine hK.out _ _ hS5 (fun hHeld => ?_)
      clear hK K
      (try simp only [Act.put, List.setIfInBounds_toArray, List.set_cons_zero, List.set_cons_succ])
      refine wpAnyH_ready (rs := [15]) (by kernel_rfl) (by simp) ?_
      refine AllReadyH.cons rfl (fun K hK => ?_) AllReadyH.nil
      go_simp
      refine hK.out _ _ hHeld (fun hHeld => ?_)
      clear hK K
      (try simp only [Act.put, List.setIfInBounds_toArray, List.set_cons_zero, List.set_cons_succ])
      refine wpAnyH_ready (rs := [16]) (by kernel_rfl) (by simp) ?_
      refine AllReadyH.cons rfl (fun K hK => ?_) AllReadyH.nil
      go_simp
      refine hK.out _ _ hHeld (fun hHeld => ?_)
      clear hK K
      (try simp only [Act.put, List.setIfInBounds_toArray, List.set_cons_zero, List.set_cons_succ])
      refine wpAnyH_done (by kernel_rfl) ?_ _
      go_wp2_with fail
      go_ret
      exact ⟨rfl, hbw5⟩
    · go_wp2_with fail
      refine hK.out _ _ hS2 (fun hHeld => ?_)
      clear hK K
      (try simp only [Act.put, List.setIfInBounds_toArray, List.set_cons_zero, List.set_cons_succ])
      refine wpAnyH_ready (rs := [2]) (by kernel_rfl) (by simp) ?_
      refine AllReadyH.cons rfl (fun K hK => ?_) AllReadyH.nil
      go_simp
      refine hK.out _ _ hHeld (fun hHeld => ?_)
      clear hK K
      (try simp only [Act.put, List.setIfInBounds_toArray, List.set_cons_zero, List.set_cons_succ])
      refine wpAnyH_ready (rs := [3]) (by kernel_rfl) (by simp) ?_
      refine AllReadyH.cons rfl (fun K hK => ?_) AllReadyH.nil
      go_simp
      refine hK.out _ _ hHeld (fun hHeld => ?_)
      clear hK K
      (try simp only [Act.put, List.setIfInBounds_toArray, List.set_cons_zero, List.set_cons_succ])
      refine wpAnyH_ready (rs := [4]) (by kernel_rfl) (by simp) ?_
      refine AllReadyH.cons rfl (fun K hK => ?_) AllReadyH.nil
      go_simp
      refine hK.out _ _ hHeld (fun hHeld => ?_)
      clear hK K
      (try simp only [Act.put, List.setIfInBounds_toArray, List.set_cons_zero, List.set_cons_succ])
      refine wpAnyH_ready (rs := [5]) (by kernel_rfl) (by simp) ?_
      refine AllReadyH.cons rfl (fun K hK => ?_) AllReadyH.nil
      go_simp
      refine hK.out _ _ hHeld (fun hHeld => ?_)
      clear hK K
      (try simp only [Act.put, List.setIfInBounds_toArray, List.set_cons_zero, List.set_cons_succ])
      refine wpAnyH_ready (rs := [6]) (by kernel_rfl) (by simp) ?_
      refine AllReadyH.cons rfl (fun K hK => ?_) AllReadyH.nil
      go_simp
      refine hK.out _ _ hHeld (fun hHeld => ?_)
      clear hK K
      (try simp only [Act.put, List.setIfInBounds_toArray, List.set_cons_zero, List.set_cons_succ])
      refine wpAnyH_ready (rs := [7]) (by kernel_rfl) (by simp) ?_
      refine AllReadyH.cons rfl (fun K hK => ?_) AllReadyH.nil
      go_simp
      refine hK.out _ _ hHeld (fun hHeld => ?_)
      clear hK K
      (try simp only [Act.put, List.setIfInBounds_toArray, List.set_cons_zero, List.set_cons_succ])
      refine wpAnyH_take (i := 8) (v := undef) rfl (by kernel_rfl) (by kernel_rfl) (by kernel_rfl) (fun _ _ _ h => h) (Or.inr ⟨by rfl, rfl⟩) (by assumption) ?_
      (try simp only [Act.put, List.setIfInBounds_toArray])
      refine wpAnyH_take (i := 9) (v := undef) rfl (by kernel_rfl) (by kernel_rfl) (by kernel_rfl) (fun _ _ _ h => h) (Or.inr ⟨by rfl, rfl⟩) (by assumption) ?_
      (try simp only [Act.put])
      refine wpAnyH_take (i := 10) (v := undef) rfl (by kernel_rfl) (by kernel_rfl) (by kernel_rfl) (fun _ _ _ h => h) (Or.inr ⟨by rfl, rfl⟩) (by assumption) ?_
      (try simp only [Act.put])
      refine wpAnyH_take (i := 11) (v := undef) rfl (by kernel_rfl) (by kernel_rfl) (by kernel_rfl) (fun _ _ _ h => h) (Or.inr ⟨by rfl, rfl⟩) (by assumption) ?_
      (try simp only [Act.put])
      refine wpAnyH_take (i := 12) (v := undef) rfl (by kernel_rfl) (by kernel_rfl) (by kernel_rfl) (fun _ _ _ h => h) (Or.inr ⟨by rfl, rfl⟩) (by assumption) ?_
      (try simp only [Act.put])
      refine wpAnyH_take (i := 13) (v := undef) rfl (by kernel_rfl) (by kernel_rfl) (by kernel_rfl) (fun _ _ _ h => h) (Or.inr ⟨by rfl, rfl⟩) (by assumption) ?_
      (try simp only [Act.put])
      refine wpAnyH_take (i := 14) (v := undef) rfl (by kernel_rfl) (by kernel_rfl) (by kernel_rfl) (fun _ _ _ h => h) (Or.inr ⟨by rfl, rfl⟩) (by assumption) ?_
      (try simp only [Act.put])
      refine wpAnyH_ready (rs := [15]) (by kernel_rfl) (by simp) ?_
      refine AllReadyH.cons rfl (fun K hK => ?_) AllReadyH.nil
      go_simp
      refine hK.out _ _ hHeld (fun hHeld => ?_)
      clear hK K
      (try simp only [Act.put, List.setIfInBounds_toArray, List.set_cons_zero, List.set_cons_succ])
      refine wpAnyH_ready (rs := [16]) (by kernel_rfl) (by simp) ?_
      refine AllReadyH.cons rfl (fun K hK => ?_) AllReadyH.nil
      go_simp
      refine hK.out _ _ hHeld (fun hHeld => ?_)
      clear hK K
      (try simp only [Act.put, List.setIfInBounds_toArray, List.set_cons_zero, List.set_cons_succ])
      refine wpAnyH_done (by kernel_rfl) ?_ _
      go_wp2_with fail
      go_ret
      exact ⟨rfl, hbw2⟩
end Go.Proofs.YtgimbgpebpippaaGreatDoor
