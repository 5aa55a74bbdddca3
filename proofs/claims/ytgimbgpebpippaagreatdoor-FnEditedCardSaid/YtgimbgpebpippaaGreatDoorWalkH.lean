/- The contract of nodeOf, kind by kind. -/
import Derived.Test.YtgimbgpebpippaaGreatDoorWalkG
namespace Go.Proofs.YtgimbgpebpippaaGreatDoor
open Go.RowKit
set_option maxRecDepth 100000
set_option maxHeartbeats 4000000

theorem Tryz.zeroPIdent : ∀ w, (zeroValue 79).run Tryz.prog w = .ok (.pointer none) w := fun _ => by kernel_rfl
theorem Tryz.zeroPBasicLit : ∀ w, (zeroValue 125).run Tryz.prog w = .ok (.pointer none) w := fun _ => by kernel_rfl
theorem Tryz.zeroPParenExpr : ∀ w, (zeroValue 71).run Tryz.prog w = .ok (.pointer none) w := fun _ => by kernel_rfl
theorem Tryz.zeroPSelectorExpr : ∀ w, (zeroValue 129).run Tryz.prog w = .ok (.pointer none) w := fun _ => by kernel_rfl
theorem Tryz.zeroPStarExpr : ∀ w, (zeroValue 132).run Tryz.prog w = .ok (.pointer none) w := fun _ => by kernel_rfl
theorem Tryz.zeroPUnaryExpr : ∀ w, (zeroValue 135).run Tryz.prog w = .ok (.pointer none) w := fun _ => by kernel_rfl
theorem Tryz.zeroPBinaryExpr : ∀ w, (zeroValue 139).run Tryz.prog w = .ok (.pointer none) w := fun _ => by kernel_rfl
theorem Tryz.zeroPIndexExpr : ∀ w, (zeroValue 142).run Tryz.prog w = .ok (.pointer none) w := fun _ => by kernel_rfl
theorem Tryz.zeroPCallExpr : ∀ w, (zeroValue 87).run Tryz.prog w = .ok (.pointer none) w := fun _ => by kernel_rfl

theorem nodeOf_ident (b : Nat) (s : ByteArray) (w : World) (hin : (AE.ident b s).In w) :
    Calls Tryz.prog 38 #[.iface 79 (.pointer (some ⟨b, 0, none⟩))] w (MadeN (AE.ident b s).node w) := by
  have hc : w.cell? ⟨b, 1, none⟩ = some (.string s) := hin.2.cell 1
  have hlt := hin.2.lt
  have HS := Lib.hid hin.1
  clear hin
  have m0 := ta_hit (P := Tryz.prog) Tryz.underlying79 59
  go_enter Tryz.func38, Tryz.ntmps38
  go_wp2_with fail
  go_returns
  refine ⟨.mk sName s none 0 [], rfl, ⟨by decide, HS.out, Nat.le_refl _, Nat.zero_le _, trivial⟩, rfl, (fun b hb => by cases hb), by go_grown⟩

theorem nodeOf_lit (b : Nat) (s : ByteArray) (w : World) (hin : (AE.lit b s).In w) :
    Calls Tryz.prog 38 #[.iface 125 (.pointer (some ⟨b, 0, none⟩))] w (MadeN (AE.lit b s).node w) := by
  have hc : w.cell? ⟨b, 3, none⟩ = some (.string s) := hin.2.cell 3
  have hlt := hin.2.lt
  have HS := Lib.hid hin.1
  clear hin
  have m0 := ta_miss (P := Tryz.prog) Tryz.underlying79 Tryz.zeroPIdent 59
  have m1 := ta_hit (P := Tryz.prog) Tryz.underlying125 59
  go_enter Tryz.func38, Tryz.ntmps38
  go_wp2_with fail
  go_returns
  refine ⟨.mk sInt s none 0 [], rfl, ⟨by decide, HS.out, Nat.le_refl _, Nat.zero_le _, trivial⟩, rfl, (fun b hb => by cases hb), by go_grown⟩

theorem nodeOf_paren (k : Nat) (ih : NodeUpTo k) (b : Nat) (x : AE) (w : World) (hs : SizeOf.sizeOf x < k) (hin : (AE.paren b x).In w) (hG : Glob w) :
    Calls Tryz.prog 38 #[.iface 71 (.pointer (some ⟨b, 0, none⟩))] w (MadeN (AE.paren b x).node w) := by
  have hlt := hin.1.lt
  have HX := Lib.hid hin.2
  obtain ⟨tx, vx, hx⟩ := x.val_one
  have hc : w.cell? ⟨b, 1, none⟩ = some (.iface tx vx) := by
    have := hin.1.cell 1
    rw [hx] at this
    exact this
  have HV := Lib.hid hx
  clear hin hx
  have m0 := ta_miss (P := Tryz.prog) Tryz.underlying79 Tryz.zeroPIdent 59
  have m1 := ta_miss (P := Tryz.prog) Tryz.underlying125 Tryz.zeroPBasicLit 59
  have m2 := ta_hit (P := Tryz.prog) Tryz.underlying71 59
  go_enter Tryz.func38, Tryz.ntmps38
  go_wp2_with fail
  refine (nodesOf_any k ih _ 1 [x] _ ?_ (iface_cell HV.out rfl _ (by simp only [World.size_alloc])) ?_ ?_ ?_ ?_).mono ?_
  · intro y hy; cases List.mem_singleton.1 hy; exact hs
  · simp only [World.size_alloc]; omega
  · exact ⟨HX.out.below (B := w.heap.size) (by go_grown) (Nat.le_refl _), trivial⟩
  · simp
  · exact hG.below (B := w.heap.size) (by go_grown) (Nat.le_refl _)
  rintro e w1 ⟨g, c, ns, rfl, hso⟩
  have hb := hso.below
  have rb : Blk w1 w.heap.size 24 #[.string ⟨#[]⟩, .string ⟨#[]⟩, .slice none 0 0] := ((Blk.new w _ _).alloc _).below hb (by simp only [World.size_alloc]; omega)
  have r0 : w1.cell? ⟨w.heap.size, 0, none⟩ = some (.string ⟨#[]⟩) := rb.cell 0
  have r1 : w1.cell? ⟨w.heap.size, 1, none⟩ = some (.string ⟨#[]⟩) := rb.cell 1
  have r2 : w1.cell? ⟨w.heap.size, 2, none⟩ = some (.slice none 0 0) := rb.cell 2
  have f0 := rb.frozen 0
  have f1 := rb.frozen 1
  have f2 := rb.frozen 2
  have hbw : Below w.heap.size w w1 := (((Below.refl _ _).alloc (Nat.le_refl _) _).alloc (by simp only [World.size_alloc]; omega) _).trans (hb.mono (by simp only [World.size_alloc]; omega))
  have HB := Lib.hid (And.intro rb (And.intro hbw hso))
  clear hb hso rb hbw
  go_wp2_with fail
  refine bodyPost_ret (results_struct rfl rfl (load_node (((HB.out.1.set_ 0 (.string ⟨#[112, 97, 114, 101, 110]⟩)).set_ 1 (.string ⟨#[]⟩)).set_ 2 (.slice (some ⟨g, 0, none⟩) ns.length c)) rfl rfl rfl)) rfl ?_
  exact MadeN.of_store HB.out.2.2 (by simp only [World.size_alloc]; omega) (by decide) (by decide) (store3 _ _ _ _ _) (by simp only [World.size_setCell]) (by
    have := HB.out.2.1
    go_grown)

theorem nodeOf_star (k : Nat) (ih : NodeUpTo k) (b : Nat) (x : AE) (w : World) (hs : SizeOf.sizeOf x < k) (hin : (AE.star b x).In w) (hG : Glob w) :
    Calls Tryz.prog 38 #[.iface 132 (.pointer (some ⟨b, 0, none⟩))] w (MadeN (AE.star b x).node w) := by
  have hlt := hin.1.lt
  have HX := Lib.hid hin.2
  obtain ⟨tx, vx, hx⟩ := x.val_one
  have hc : w.cell? ⟨b, 1, none⟩ = some (.iface tx vx) := by
    have := hin.1.cell 1
    rw [hx] at this
    exact this
  have HV := Lib.hid hx
  clear hin hx
  have m0 := ta_miss (P := Tryz.prog) Tryz.underlying79 Tryz.zeroPIdent 59
  have m1 := ta_miss (P := Tryz.prog) Tryz.underlying125 Tryz.zeroPBasicLit 59
  have m2 := ta_miss (P := Tryz.prog) Tryz.underlying71 Tryz.zeroPParenExpr 59
  have m3 := ta_miss (P := Tryz.prog) Tryz.underlying129 Tryz.zeroPSelectorExpr 59
  have m4 := ta_hit (P := Tryz.prog) Tryz.underlying132 59
  go_enter Tryz.func38, Tryz.ntmps38
  go_wp2_with fail
  refine (nodesOf_any k ih _ 1 [x] _ ?_ (iface_cell HV.out rfl _ (by simp only [World.size_alloc])) ?_ ?_ ?_ ?_).mono ?_
  · intro y hy; cases List.mem_singleton.1 hy; exact hs
  · simp only [World.size_alloc]; omega
  · exact ⟨HX.out.below (B := w.heap.size) (by go_grown) (Nat.le_refl _), trivial⟩
  · simp
  · exact hG.below (B := w.heap.size) (by go_grown) (Nat.le_refl _)
  rintro e w1 ⟨g, c, ns, rfl, hso⟩
  have hb := hso.below
  have rb : Blk w1 w.heap.size 24 #[.string ⟨#[]⟩, .string ⟨#[]⟩, .slice none 0 0] := ((Blk.new w _ _).alloc _).below hb (by simp only [World.size_alloc]; omega)
  have r0 : w1.cell? ⟨w.heap.size, 0, none⟩ = some (.string ⟨#[]⟩) := rb.cell 0
  have r1 : w1.cell? ⟨w.heap.size, 1, none⟩ = some (.string ⟨#[]⟩) := rb.cell 1
  have r2 : w1.cell? ⟨w.heap.size, 2, none⟩ = some (.slice none 0 0) := rb.cell 2
  have f0 := rb.frozen 0
  have f1 := rb.frozen 1
  have f2 := rb.frozen 2
  have hbw : Below w.heap.size w w1 := (((Below.refl _ _).alloc (Nat.le_refl _) _).alloc (by simp only [World.size_alloc]; omega) _).trans (hb.mono (by simp only [World.size_alloc]; omega))
  have HB := Lib.hid (And.intro rb (And.intro hbw hso))
  clear hb hso rb hbw
  go_wp2_with fail
  refine bodyPost_ret (results_struct rfl rfl (load_node (((HB.out.1.set_ 0 (.string ⟨#[117, 110, 97, 114, 121]⟩)).set_ 1 (.string ⟨#[42]⟩)).set_ 2 (.slice (some ⟨g, 0, none⟩) ns.length c)) rfl rfl rfl)) rfl ?_
  exact MadeN.of_store HB.out.2.2 (by simp only [World.size_alloc]; omega) (by decide) (by decide) (store3 _ _ _ _ _) (by simp only [World.size_setCell]) (by
    have := HB.out.2.1
    go_grown)

theorem nodeOf_sel (k : Nat) (ih : NodeUpTo k) (b : Nat) (x : AE) (sb : Nat) (nm : ByteArray) (w : World) (hs : SizeOf.sizeOf x < k) (hin : (AE.sel b x sb nm).In w) (hG : Glob w) :
    Calls Tryz.prog 38 #[.iface 129 (.pointer (some ⟨b, 0, none⟩))] w (MadeN (AE.sel b x sb nm).node w) := by
  have hlt := hin.1.lt
  have hltsb := hin.2.1.2.lt
  obtain ⟨tx, vx, hx⟩ := x.val_one
  have hc : w.cell? ⟨b, 0, none⟩ = some (.iface tx vx) := by
    have := hin.1.cell 0
    rw [hx] at this
    exact this
  have hc1 : w.cell? ⟨b, 1, none⟩ = some (.pointer (some ⟨sb, 0, none⟩)) := hin.1.cell 1
  have hc2 : w.cell? ⟨sb, 1, none⟩ = some (.string nm) := hin.2.1.2.cell 1
  have HX : Hid (∀ w', Below w.heap.size w w' → AEInL w' [x]) := fun w' h => ⟨hin.2.2.below h (Nat.le_refl _), trivial⟩
  have HV := Lib.hid hx
  have HN := Lib.hid hin.2.1.1
  clear hin hx
  have SOF : Hid (∀ w', Below w.heap.size w w' → (w'.cell? ⟨b, 0, none⟩ = some (.iface tx vx) ∧ w'.cell? ⟨b, 1, none⟩ = some (.pointer (some ⟨sb, 0, none⟩)) ∧ w'.cell? ⟨sb, 1, none⟩ = some (.string nm))) := by
    intro w' h
    exact ⟨(h.cell (p := ⟨b, 0, none⟩) hlt).trans hc, (h.cell (p := ⟨b, 1, none⟩) hlt).trans hc1, (h.cell (p := ⟨sb, 1, none⟩) hltsb).trans hc2⟩
  have hbw0 : Below w.heap.size w (w.alloc (.cells #[.string ⟨#[]⟩, .string ⟨#[]⟩, .slice none 0 0] 24)) := (Below.refl _ _).alloc (Nat.le_refl _) _
  have hw0 : Below (w.heap.size + 1) (w.alloc (.cells #[.string ⟨#[]⟩, .string ⟨#[]⟩, .slice none 0 0] 24)) (w.alloc (.cells #[.string ⟨#[]⟩, .string ⟨#[]⟩, .slice none 0 0] 24)) := Below.refl _ _
  have RB : Hid (∀ w', Below (w.heap.size + 1) (w.alloc (.cells #[.string ⟨#[]⟩, .string ⟨#[]⟩, .slice none 0 0] 24)) w' → Blk w' w.heap.size 24 #[.string ⟨#[]⟩, .string ⟨#[]⟩, .slice none 0 0]) := fun w' h => (Blk.new w _ _).below h (Nat.lt_succ_self _)
  have m0 := ta_miss (P := Tryz.prog) Tryz.underlying79 Tryz.zeroPIdent 59
  have m1 := ta_miss (P := Tryz.prog) Tryz.underlying125 Tryz.zeroPBasicLit 59
  have m2 := ta_miss (P := Tryz.prog) Tryz.underlying71 Tryz.zeroPParenExpr 59
  have m3 := ta_hit (P := Tryz.prog) Tryz.underlying129 59
  go_enter Tryz.func38, Tryz.ntmps38
  go_wp2_with fail
  go_region_held3 (fun w' => w'.cell? ⟨b, 0, none⟩ = some (.iface tx vx) ∧ w'.cell? ⟨b, 1, none⟩ = some (.pointer (some ⟨sb, 0, none⟩)) ∧ w'.cell? ⟨sb, 1, none⟩ = some (.string nm)) (first | (exact SOF.out _ (by go_grown)) | go_keep)
    (first
      | (go_at_call 71; refine (nodesOf_any k ih _ 1 [x] _ (by intro y hy; simp only [List.mem_cons, List.not_mem_nil, or_false] at hy; subst hy; omega) (iface_cell1 HV.out _ (by simp [go_sem])) (by go_size) (HX.out _ (by go_grown)) (by simp) (hG.below (B := w.heap.size) (by go_grown) (Nat.le_refl _))).mono ?_; rintro e w1 ⟨g, c, ns, rfl, hso⟩; have hb := hso.below; have hw1 : Below (w.heap.size + 1) (w.alloc (.cells #[.string ⟨#[]⟩, .string ⟨#[]⟩, .slice none 0 0] 24)) w1 := Below.trans (by go_grown) (hb.mono (by go_size)); have hbw1 : Below w.heap.size w w1 := hbw0.trans (hw1.mono (Nat.le_add_right _ _)); have rb := RB.out w1 hw1; have r0 : w1.cell? ⟨w.heap.size, 0, none⟩ = some (.string ⟨#[]⟩) := rb.cell 0; have r1 : w1.cell? ⟨w.heap.size, 1, none⟩ = some (.string ⟨#[]⟩) := rb.cell 1; have r2 : w1.cell? ⟨w.heap.size, 2, none⟩ = some (.slice none 0 0) := rb.cell 2; have f0 := rb.frozen 0; have f1 := rb.frozen 1; have f2 := rb.frozen 2; have HB := Lib.hid (And.intro rb hso); clear hb hso rb))
  all_goals
    go_wp2_with fail
    refine bodyPost_ret (results_struct rfl rfl (load_node (((HB.out.1.set_ 0 (.string ⟨#[115, 101, 108, 101, 99, 116, 111, 114]⟩)).set_ 1 (.string nm)).set_ 2 (.slice (some ⟨g, 0, none⟩) ns.length c)) rfl rfl rfl)) rfl ?_
    exact MadeN.of_store HB.out.2 (by go_size) (by decide) HN.out (store3 _ _ _ _ _) (by simp only [World.size_setCell]) (by go_grown)

theorem nodeOf_unary (k : Nat) (ih : NodeUpTo k) (b : Nat) (op : Nat) (x : AE) (w : World) (hs : SizeOf.sizeOf x < k) (hin : (AE.unary b op x).In w) (hG : Glob w) :
    Calls Tryz.prog 38 #[.iface 135 (.pointer (some ⟨b, 0, none⟩))] w (MadeN (AE.unary b op x).node w) := by
  have hlt := hin.2.1.lt
  obtain ⟨tx, vx, hx⟩ := x.val_one
  have hc1 : w.cell? ⟨b, 1, none⟩ = some (.int .i64 op) := hin.2.1.cell 1
  have hc2 : w.cell? ⟨b, 2, none⟩ = some (.iface tx vx) := by
    have := hin.2.1.cell 2
    rw [hx] at this
    exact this
  have HX : Hid (∀ w', Below w.heap.size w w' → AEInL w' [x]) := fun w' h => ⟨hin.2.2.below h (Nat.le_refl _), trivial⟩
  have HV := Lib.hid hx
  have HOP := Lib.hid hin.1
  clear hin hx
  have SOF : Hid (∀ w', Below w.heap.size w w' → (w'.cell? ⟨b, 1, none⟩ = some (.int .i64 op) ∧ w'.cell? ⟨b, 2, none⟩ = some (.iface tx vx))) := by
    intro w' h
    exact ⟨(h.cell (p := ⟨b, 1, none⟩) hlt).trans hc1, (h.cell (p := ⟨b, 2, none⟩) hlt).trans hc2⟩
  have hbw0 : Below w.heap.size w (w.alloc (.cells #[.string ⟨#[]⟩, .string ⟨#[]⟩, .slice none 0 0] 24)) := (Below.refl _ _).alloc (Nat.le_refl _) _
  have hw0 : Below (w.heap.size + 1) (w.alloc (.cells #[.string ⟨#[]⟩, .string ⟨#[]⟩, .slice none 0 0] 24)) (w.alloc (.cells #[.string ⟨#[]⟩, .string ⟨#[]⟩, .slice none 0 0] 24)) := Below.refl _ _
  have RB : Hid (∀ w', Below (w.heap.size + 1) (w.alloc (.cells #[.string ⟨#[]⟩, .string ⟨#[]⟩, .slice none 0 0] 24)) w' → Blk w' w.heap.size 24 #[.string ⟨#[]⟩, .string ⟨#[]⟩, .slice none 0 0]) := fun w' h => (Blk.new w _ _).below h (Nat.lt_succ_self _)
  have m0 := ta_miss (P := Tryz.prog) Tryz.underlying79 Tryz.zeroPIdent 59
  have m1 := ta_miss (P := Tryz.prog) Tryz.underlying125 Tryz.zeroPBasicLit 59
  have m2 := ta_miss (P := Tryz.prog) Tryz.underlying71 Tryz.zeroPParenExpr 59
  have m3 := ta_miss (P := Tryz.prog) Tryz.underlying129 Tryz.zeroPSelectorExpr 59
  have m4 := ta_miss (P := Tryz.prog) Tryz.underlying132 Tryz.zeroPStarExpr 59
  have m5 := ta_hit (P := Tryz.prog) Tryz.underlying135 59
  go_enter Tryz.func38, Tryz.ntmps38
  go_wp2_with fail
  go_region_held3 (fun w' => w'.cell? ⟨b, 1, none⟩ = some (.int .i64 op) ∧ w'.cell? ⟨b, 2, none⟩ = some (.iface tx vx)) (first | (exact SOF.out _ (by go_grown)) | go_keep)
    (first
      | (go_at_call 72; refine (tokString_any op _ HOP.out (hG.below (B := w.heap.size) (by go_grown) (Nat.le_refl _)).1).mono ?_; rintro e w' ⟨rfl, rfl⟩)
      | (go_at_call 71; refine (nodesOf_any k ih _ 1 [x] _ (by intro y hy; simp only [List.mem_cons, List.not_mem_nil, or_false] at hy; subst hy; omega) (iface_cell1 HV.out _ (by simp [go_sem])) (by go_size) (HX.out _ (by go_grown)) (by simp) (hG.below (B := w.heap.size) (by go_grown) (Nat.le_refl _))).mono ?_; rintro e w1 ⟨g, c, ns, rfl, hso⟩; have hb := hso.below; have hw1 : Below (w.heap.size + 1) (w.alloc (.cells #[.string ⟨#[]⟩, .string ⟨#[]⟩, .slice none 0 0] 24)) w1 := Below.trans (by go_grown) (hb.mono (by go_size)); have hbw1 : Below w.heap.size w w1 := hbw0.trans (hw1.mono (Nat.le_add_right _ _)); have rb := RB.out w1 hw1; have r0 : w1.cell? ⟨w.heap.size, 0, none⟩ = some (.string ⟨#[]⟩) := rb.cell 0; have r1 : w1.cell? ⟨w.heap.size, 1, none⟩ = some (.string ⟨#[]⟩) := rb.cell 1; have r2 : w1.cell? ⟨w.heap.size, 2, none⟩ = some (.slice none 0 0) := rb.cell 2; have f0 := rb.frozen 0; have f1 := rb.frozen 1; have f2 := rb.frozen 2; have HB := Lib.hid (And.intro rb hso); clear hb hso rb))
  all_goals
    go_wp2_with fail
    refine bodyPost_ret (results_struct rfl rfl (load_node (((HB.out.1.set_ 0 (.string ⟨#[117, 110, 97, 114, 121]⟩)).set_ 1 (.string (tok op))).set_ 2 (.slice (some ⟨g, 0, none⟩) ns.length c)) rfl rfl rfl)) rfl ?_
    exact MadeN.of_store HB.out.2 (by go_size) (by decide) (tok_size op HOP.out.1) (store3 _ _ _ _ _) (by simp only [World.size_setCell]) (by go_grown)

theorem nodeOf_binary (k : Nat) (ih : NodeUpTo k) (b : Nat) (op : Nat) (x y : AE) (w : World) (hs : SizeOf.sizeOf x < k) (hs2 : SizeOf.sizeOf y < k) (hin : (AE.binary b op x y).In w) (hG : Glob w) :
    Calls Tryz.prog 38 #[.iface 139 (.pointer (some ⟨b, 0, none⟩))] w (MadeN (AE.binary b op x y).node w) := by
  have hlt := hin.2.1.lt
  obtain ⟨tx, vx, hx⟩ := x.val_one
  obtain ⟨ty, vy, hy⟩ := y.val_one
  have hc1 : w.cell? ⟨b, 0, none⟩ = some (.iface tx vx) := by
    have := hin.2.1.cell 0
    rw [hx] at this
    exact this
  have hc2 : w.cell? ⟨b, 3, none⟩ = some (.iface ty vy) := by
    have := hin.2.1.cell 3
    rw [hy] at this
    exact this
  have hc3 : w.cell? ⟨b, 2, none⟩ = some (.int .i64 op) := hin.2.1.cell 2
  have HX : Hid (∀ w', Below w.heap.size w w' → AEInL w' [x, y]) := fun w' h => ⟨hin.2.2.1.below h (Nat.le_refl _), hin.2.2.2.below h (Nat.le_refl _), trivial⟩
  have HV := Lib.hid (And.intro hx hy)
  have HOP := Lib.hid hin.1
  clear hin hx hy
  have SOF : Hid (∀ w', Below w.heap.size w w' → (w'.cell? ⟨b, 0, none⟩ = some (.iface tx vx) ∧ w'.cell? ⟨b, 2, none⟩ = some (.int .i64 op) ∧ w'.cell? ⟨b, 3, none⟩ = some (.iface ty vy))) := by
    intro w' h
    exact ⟨(h.cell (p := ⟨b, 0, none⟩) hlt).trans hc1, (h.cell (p := ⟨b, 2, none⟩) hlt).trans hc3, (h.cell (p := ⟨b, 3, none⟩) hlt).trans hc2⟩
  have hbw0 : Below w.heap.size w (w.alloc (.cells #[.string ⟨#[]⟩, .string ⟨#[]⟩, .slice none 0 0] 24)) := (Below.refl _ _).alloc (Nat.le_refl _) _
  have hw0 : Below (w.heap.size + 1) (w.alloc (.cells #[.string ⟨#[]⟩, .string ⟨#[]⟩, .slice none 0 0] 24)) (w.alloc (.cells #[.string ⟨#[]⟩, .string ⟨#[]⟩, .slice none 0 0] 24)) := Below.refl _ _
  have RB : Hid (∀ w', Below (w.heap.size + 1) (w.alloc (.cells #[.string ⟨#[]⟩, .string ⟨#[]⟩, .slice none 0 0] 24)) w' → Blk w' w.heap.size 24 #[.string ⟨#[]⟩, .string ⟨#[]⟩, .slice none 0 0]) := fun w' h => (Blk.new w _ _).below h (Nat.lt_succ_self _)
  have m0 := ta_miss (P := Tryz.prog) Tryz.underlying79 Tryz.zeroPIdent 59
  have m1 := ta_miss (P := Tryz.prog) Tryz.underlying125 Tryz.zeroPBasicLit 59
  have m2 := ta_miss (P := Tryz.prog) Tryz.underlying71 Tryz.zeroPParenExpr 59
  have m3 := ta_miss (P := Tryz.prog) Tryz.underlying129 Tryz.zeroPSelectorExpr 59
  have m4 := ta_miss (P := Tryz.prog) Tryz.underlying132 Tryz.zeroPStarExpr 59
  have m5 := ta_miss (P := Tryz.prog) Tryz.underlying135 Tryz.zeroPUnaryExpr 59
  have m6 := ta_hit (P := Tryz.prog) Tryz.underlying139 59
  go_enter Tryz.func38, Tryz.ntmps38
  go_wp2_with fail
  go_region_held3 (fun w' => w'.cell? ⟨b, 0, none⟩ = some (.iface tx vx) ∧ w'.cell? ⟨b, 2, none⟩ = some (.int .i64 op) ∧ w'.cell? ⟨b, 3, none⟩ = some (.iface ty vy)) (first | (exact SOF.out _ (by go_grown)) | go_keep)
    (first
      | (go_at_call 72; refine (tokString_any op _ HOP.out (hG.below (B := w.heap.size) (by go_grown) (Nat.le_refl _)).1).mono ?_; rintro e w' ⟨rfl, rfl⟩)
      | (go_at_call 71; refine (nodesOf_any k ih _ 2 [x, y] _ (by intro y hy; simp only [List.mem_cons, List.not_mem_nil, or_false] at hy; rcases hy with rfl | rfl <;> omega) (iface_cell2 HV.out.1 HV.out.2 _ (by simp [go_sem]) (by simp [go_sem])) (by go_size) (HX.out _ (by go_grown)) (by simp) (hG.below (B := w.heap.size) (by go_grown) (Nat.le_refl _))).mono ?_; rintro e w1 ⟨g, c, ns, rfl, hso⟩; have hb := hso.below; have hw1 : Below (w.heap.size + 1) (w.alloc (.cells #[.string ⟨#[]⟩, .string ⟨#[]⟩, .slice none 0 0] 24)) w1 := Below.trans (by go_grown) (hb.mono (by go_size)); have hbw1 : Below w.heap.size w w1 := hbw0.trans (hw1.mono (Nat.le_add_right _ _)); have rb := RB.out w1 hw1; have r0 : w1.cell? ⟨w.heap.size, 0, none⟩ = some (.string ⟨#[]⟩) := rb.cell 0; have r1 : w1.cell? ⟨w.heap.size, 1, none⟩ = some (.string ⟨#[]⟩) := rb.cell 1; have r2 : w1.cell? ⟨w.heap.size, 2, none⟩ = some (.slice none 0 0) := rb.cell 2; have f0 := rb.frozen 0; have f1 := rb.frozen 1; have f2 := rb.frozen 2; have HB := Lib.hid (And.intro rb hso); clear hb hso rb))
  all_goals
    go_wp2_with fail
    refine bodyPost_ret (results_struct rfl rfl (load_node (((HB.out.1.set_ 0 (.string ⟨#[98, 105, 110, 97, 114, 121]⟩)).set_ 1 (.string (tok op))).set_ 2 (.slice (some ⟨g, 0, none⟩) ns.length c)) rfl rfl rfl)) rfl ?_
    exact MadeN.of_store HB.out.2 (by go_size) (by decide) (tok_size op HOP.out.1) (store3 _ _ _ _ _) (by simp only [World.size_setCell]) (by go_grown)

theorem nodeOf_index (k : Nat) (ih : NodeUpTo k) (b : Nat) (x y : AE) (w : World) (hs : SizeOf.sizeOf x < k) (hs2 : SizeOf.sizeOf y < k) (hin : (AE.index b x y).In w) (hG : Glob w) :
    Calls Tryz.prog 38 #[.iface 142 (.pointer (some ⟨b, 0, none⟩))] w (MadeN (AE.index b x y).node w) := by
  have hlt := hin.1.lt
  obtain ⟨tx, vx, hx⟩ := x.val_one
  obtain ⟨ty, vy, hy⟩ := y.val_one
  have hc1 : w.cell? ⟨b, 0, none⟩ = some (.iface tx vx) := by
    have := hin.1.cell 0
    rw [hx] at this
    exact this
  have hc2 : w.cell? ⟨b, 2, none⟩ = some (.iface ty vy) := by
    have := hin.1.cell 2
    rw [hy] at this
    exact this
  have HX : Hid (∀ w', Below w.heap.size w w' → AEInL w' [x, y]) := fun w' h => ⟨hin.2.1.below h (Nat.le_refl _), hin.2.2.below h (Nat.le_refl _), trivial⟩
  have HV := Lib.hid (And.intro hx hy)
  clear hin hx hy
  have SOF : Hid (∀ w', Below w.heap.size w w' → (w'.cell? ⟨b, 0, none⟩ = some (.iface tx vx) ∧ w'.cell? ⟨b, 2, none⟩ = some (.iface ty vy))) := by
    intro w' h
    exact ⟨(h.cell (p := ⟨b, 0, none⟩) hlt).trans hc1, (h.cell (p := ⟨b, 2, none⟩) hlt).trans hc2⟩
  have hbw0 : Below w.heap.size w (w.alloc (.cells #[.string ⟨#[]⟩, .string ⟨#[]⟩, .slice none 0 0] 24)) := (Below.refl _ _).alloc (Nat.le_refl _) _
  have hw0 : Below (w.heap.size + 1) (w.alloc (.cells #[.string ⟨#[]⟩, .string ⟨#[]⟩, .slice none 0 0] 24)) (w.alloc (.cells #[.string ⟨#[]⟩, .string ⟨#[]⟩, .slice none 0 0] 24)) := Below.refl _ _
  have RB : Hid (∀ w', Below (w.heap.size + 1) (w.alloc (.cells #[.string ⟨#[]⟩, .string ⟨#[]⟩, .slice none 0 0] 24)) w' → Blk w' w.heap.size 24 #[.string ⟨#[]⟩, .string ⟨#[]⟩, .slice none 0 0]) := fun w' h => (Blk.new w _ _).below h (Nat.lt_succ_self _)
  have m0 := ta_miss (P := Tryz.prog) Tryz.underlying79 Tryz.zeroPIdent 59
  have m1 := ta_miss (P := Tryz.prog) Tryz.underlying125 Tryz.zeroPBasicLit 59
  have m2 := ta_miss (P := Tryz.prog) Tryz.underlying71 Tryz.zeroPParenExpr 59
  have m3 := ta_miss (P := Tryz.prog) Tryz.underlying129 Tryz.zeroPSelectorExpr 59
  have m4 := ta_miss (P := Tryz.prog) Tryz.underlying132 Tryz.zeroPStarExpr 59
  have m5 := ta_miss (P := Tryz.prog) Tryz.underlying135 Tryz.zeroPUnaryExpr 59
  have m6 := ta_miss (P := Tryz.prog) Tryz.underlying139 Tryz.zeroPBinaryExpr 59
  have m7 := ta_hit (P := Tryz.prog) Tryz.underlying142 59
  go_enter Tryz.func38, Tryz.ntmps38
  go_wp2_with fail
  go_region_held3 (fun w' => w'.cell? ⟨b, 0, none⟩ = some (.iface tx vx) ∧ w'.cell? ⟨b, 2, none⟩ = some (.iface ty vy)) (first | (exact SOF.out _ (by go_grown)) | go_keep)
    (first
      | (go_at_call 71; refine (nodesOf_any k ih _ 2 [x, y] _ (by intro y hy; simp only [List.mem_cons, List.not_mem_nil, or_false] at hy; rcases hy with rfl | rfl <;> omega) (iface_cell2 HV.out.1 HV.out.2 _ (by simp [go_sem]) (by simp [go_sem])) (by go_size) (HX.out _ (by go_grown)) (by simp) (hG.below (B := w.heap.size) (by go_grown) (Nat.le_refl _))).mono ?_; rintro e w1 ⟨g, c, ns, rfl, hso⟩; have hb := hso.below; have hw1 : Below (w.heap.size + 1) (w.alloc (.cells #[.string ⟨#[]⟩, .string ⟨#[]⟩, .slice none 0 0] 24)) w1 := Below.trans (by go_grown) (hb.mono (by go_size)); have hbw1 : Below w.heap.size w w1 := hbw0.trans (hw1.mono (Nat.le_add_right _ _)); have rb := RB.out w1 hw1; have r0 : w1.cell? ⟨w.heap.size, 0, none⟩ = some (.string ⟨#[]⟩) := rb.cell 0; have r1 : w1.cell? ⟨w.heap.size, 1, none⟩ = some (.string ⟨#[]⟩) := rb.cell 1; have r2 : w1.cell? ⟨w.heap.size, 2, none⟩ = some (.slice none 0 0) := rb.cell 2; have f0 := rb.frozen 0; have f1 := rb.frozen 1; have f2 := rb.frozen 2; have HB := Lib.hid (And.intro rb hso); clear hb hso rb))
  all_goals
    go_wp2_with fail
    refine bodyPost_ret (results_struct rfl rfl (load_node (((HB.out.1.set_ 0 (.string ⟨#[105, 110, 100, 101, 120]⟩)).set_ 1 (.string ⟨#[]⟩)).set_ 2 (.slice (some ⟨g, 0, none⟩) ns.length c)) rfl rfl rfl)) rfl ?_
    exact MadeN.of_store HB.out.2 (by go_size) (by decide) (by decide) (store3 _ _ _ _ _) (by simp only [World.size_setCell]) (by go_grown)

theorem nodeOf_call (k : Nat) (ih : NodeUpTo k) (b : Nat) (f : AE) (g0 cap0 : Nat) (args : List AE) (w : World) (hs : SizeOf.sizeOf f < k) (hs2 : ∀ x ∈ args, SizeOf.sizeOf x < k) (hin : (AE.call b f g0 cap0 args).In w) (hG : Glob w) :
    Calls Tryz.prog 38 #[.iface 87 (.pointer (some ⟨b, 0, none⟩))] w (MadeN (AE.call b f g0 cap0 args).node w) := by
  have hlt := hin.1.lt
  have hlg := hin.2.2.1.1.lt
  have hal := hin.2.2.1.2
  obtain ⟨tx, vx, hx⟩ := f.val_one
  obtain ⟨i0, hi0, hz0, hz1, hz2⟩ := info_parts Tryz.infoNode
  have HI := Lib.hid (And.intro hi0 (And.intro hz0 (And.intro hz1 hz2)))
  clear hi0 hz0 hz1 hz2
  have hc1 : w.cell? ⟨b, 0, none⟩ = some (.iface tx vx) := by
    have := hin.1.cell 0
    rw [hx] at this
    exact this
  have hc2 : w.cell? ⟨b, 2, none⟩ = some (.slice (some ⟨g0, 0, none⟩) args.length cap0) := hin.1.cell 2
  have HX : Hid (∀ w', Below w.heap.size w w' → AEInL w' [f]) := fun w' h => ⟨hin.2.1.below h (Nat.le_refl _), trivial⟩
  have HA : Hid (∀ w', Below w.heap.size w w' → AEInL w' args) := fun w' h => hin.2.2.2.below h (Nat.le_refl _)
  have HR : Hid (∀ w', Below w.heap.size w w' → ∀ i x, args[i]? = some x → w'.cell? ⟨g0, i, none⟩ = some x.val) := fun w' h i x hx => (hin.2.2.1.1.below h hlg).cell (by rw [List.getElem?_map, hx]; rfl)
  have HSA := Lib.hid hs2
  have HV := Lib.hid hx
  clear hin hx hs2
  have SOF : Hid (∀ w', Below w.heap.size w w' → (w'.cell? ⟨b, 0, none⟩ = some (.iface tx vx) ∧ w'.cell? ⟨b, 2, none⟩ = some (.slice (some ⟨g0, 0, none⟩) args.length cap0))) := by
    intro w' h
    exact ⟨(h.cell (p := ⟨b, 0, none⟩) hlt).trans hc1, (h.cell (p := ⟨b, 2, none⟩) hlt).trans hc2⟩
  have hbw0 : Below w.heap.size w (w.alloc (.cells #[.string ⟨#[]⟩, .string ⟨#[]⟩, .slice none 0 0] 24)) := (Below.refl _ _).alloc (Nat.le_refl _) _
  have hw0 : Below (w.heap.size + 1) (w.alloc (.cells #[.string ⟨#[]⟩, .string ⟨#[]⟩, .slice none 0 0] 24)) (w.alloc (.cells #[.string ⟨#[]⟩, .string ⟨#[]⟩, .slice none 0 0] 24)) := Below.refl _ _
  have RB : Hid (∀ w', Below (w.heap.size + 1) (w.alloc (.cells #[.string ⟨#[]⟩, .string ⟨#[]⟩, .slice none 0 0] 24)) w' → Blk w' w.heap.size 24 #[.string ⟨#[]⟩, .string ⟨#[]⟩, .slice none 0 0]) := fun w' h => (Blk.new w _ _).below h (Nat.lt_succ_self _)
  have m0 := ta_miss (P := Tryz.prog) Tryz.underlying79 Tryz.zeroPIdent 59
  have m1 := ta_miss (P := Tryz.prog) Tryz.underlying125 Tryz.zeroPBasicLit 59
  have m2 := ta_miss (P := Tryz.prog) Tryz.underlying71 Tryz.zeroPParenExpr 59
  have m3 := ta_miss (P := Tryz.prog) Tryz.underlying129 Tryz.zeroPSelectorExpr 59
  have m4 := ta_miss (P := Tryz.prog) Tryz.underlying132 Tryz.zeroPStarExpr 59
  have m5 := ta_miss (P := Tryz.prog) Tryz.underlying135 Tryz.zeroPUnaryExpr 59
  have m6 := ta_miss (P := Tryz.prog) Tryz.underlying139 Tryz.zeroPBinaryExpr 59
  have m7 := ta_miss (P := Tryz.prog) Tryz.underlying142 Tryz.zeroPIndexExpr 59
  have m8 := ta_hit (P := Tryz.prog) Tryz.underlying87 59
  go_enter Tryz.func38, Tryz.ntmps38
  go_wp2_with fail
  go_region_held3 (fun w' => w'.cell? ⟨b, 0, none⟩ = some (.iface tx vx) ∧ w'.cell? ⟨b, 2, none⟩ = some (.slice (some ⟨g0, 0, none⟩) args.length cap0)) (first | (exact SOF.out _ (by go_grown)) | go_keep)
    (first
      | (go_at_call_of 71 (List.length args); refine (nodesOf_any k ih g0 cap0 args _ HSA.out (HR.out _ (by go_grown)) (by have := hbw1.size; omega) (HA.out _ (by go_grown)) hal (hG.below (B := w.heap.size) (by go_grown) (Nat.le_refl _))).mono ?_; rintro e w2 ⟨g2, c2, ns2, rfl, hso2⟩; have hb2 := hso2.below; have hw2 : Below (w.heap.size + 1) (w.alloc (.cells #[.string ⟨#[]⟩, .string ⟨#[]⟩, .slice none 0 0] 24)) w2 := hw1.trans (hb2.mono (by have := hw1.size; simp only [World.size_alloc] at this; omega)); have hbw2 : Below w.heap.size w w2 := hbw0.trans (hw2.mono (Nat.le_add_right _ _)); have hnl2 : ns2.length ≤ 1000 := (by have := congrArg List.length hso2.node; simp only [nodeL_eq, eraseL_eq, List.length_map] at this; omega); have HB2 := Lib.hid hso2; clear hb2 hso2)
      | (go_at_call 71; refine (nodesOf_any k ih _ 1 [f] _ (by intro y hy; simp only [List.mem_cons, List.not_mem_nil, or_false] at hy; subst hy; omega) (iface_cell1 HV.out _ (by simp [go_sem])) (by go_size) (HX.out _ (by go_grown)) (by simp) (hG.below (B := w.heap.size) (by go_grown) (Nat.le_refl _))).mono ?_; rintro e w1 ⟨g, c, ns, rfl, hso⟩; have hb := hso.below; have hw1 : Below (w.heap.size + 1) (w.alloc (.cells #[.string ⟨#[]⟩, .string ⟨#[]⟩, .slice none 0 0] 24)) w1 := Below.trans (by go_grown) (hb.mono (by go_size)); have hbw1 : Below w.heap.size w w1 := hbw0.trans (hw1.mono (Nat.le_add_right _ _)); have hW0 : w.heap.size + 1 ≤ g := Nat.le_trans (by go_size) hso.lo; have hnl : ns.length = 1 := (by have := congrArg List.length hso.node; simp only [nodeL, eraseL_eq, List.length_map, List.length_cons, List.length_nil] at this; exact this); have hnl1 : ns.length ≤ 1 := Nat.le_of_eq hnl; have HW0 := Lib.hid hW0; have HB := Lib.hid hso; clear hb hso hnl hW0)
      | (refine step_append_row _ (by rfl) _ _ _ (by rfl) 24 i0 (.agg #[.string ⟨#[]⟩, .string ⟨#[]⟩, .slice none 0 0]) 3 56 Tryz.underlying22 HI.out.1 HI.out.2.1 HI.out.2.2.1 HI.out.2.2.2 rfl (by decide) g c ns.length (cellsN ns) (by rfl) (HB.out.row.below HB2.out.below HB.out.row.lt) ⟨g2, 0, none⟩ ns2.length c2 (cellsN ns2) (by rfl) (cellsN_length ns2) (fun j u hu => by rw [add_zero_block]; exact HB2.out.row.cell hu) (fun u hu => cellsN_one hu) (by unfold maxLen; omega) (by omega) ?_; intro g' cap' w3 hrow hg hg'; have hw3 : Below (w.heap.size + 1) (w.alloc (.cells #[.string ⟨#[]⟩, .string ⟨#[]⟩, .slice none 0 0] 24)) w3 := hw2.grown hg (by have := hw2.size; simp only [World.size_alloc] at this; exact this) (fun x hx => by cases hx; exact HW0.out); have hbw3 : Below w.heap.size w w3 := hbw0.trans (hw3.mono (Nat.le_add_right _ _)); have rb := RB.out w3 hw3; have r0 : w3.cell? ⟨w.heap.size, 0, none⟩ = some (.string ⟨#[]⟩) := rb.cell 0; have r1 : w3.cell? ⟨w.heap.size, 1, none⟩ = some (.string ⟨#[]⟩) := rb.cell 1; have r2 : w3.cell? ⟨w.heap.size, 2, none⟩ = some (.slice none 0 0) := rb.cell 2; have f0 := rb.frozen 0; have f1 := rb.frozen 1; have f2 := rb.frozen 2; have HB3 := Lib.hid (And.intro rb (HB.out.join HB2.out hrow hg hg')); clear rb hrow hg hg'))
  all_goals
    go_wp2_with fail
    refine bodyPost_ret (results_struct rfl rfl (load_node (((HB3.out.1.set_ 0 (.string ⟨#[99, 97, 108, 108]⟩)).set_ 1 (.string ⟨#[]⟩)).set_ 2 (.slice (some ⟨g', 0, none⟩) (ns.length + ns2.length) cap')) rfl rfl rfl)) rfl ?_
    exact MadeN.of_store2 HB3.out.2 List.length_append.symm (by go_size) (by decide) (by decide) (store3 _ _ _ _ _) (by simp only [World.size_setCell]) (by go_grown)
end Go.Proofs.YtgimbgpebpippaaGreatDoor
