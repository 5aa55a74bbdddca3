/- Apply itself: its deferred function, and what it answers. -/
import Derived.Test.YtgimbgpebpippaaGreatDoorFrBase
import Derived.Defers
import Derived.Recover
import Derived.Laws.Pointers
namespace Go.Proofs.YtgimbgpebpippaaGreatDoor
open Go.RowKit
set_option maxRecDepth 100000
set_option maxHeartbeats 4000000
theorem aborted_hit (w : World) : (Instr.typeAssert abortP 20 114 true).run Tryz.prog w = .ok (.tuple #[.agg #[], .bool true]) w := by kernel_rfl
theorem abort_neq (w : World) : (binOp .neq 20 abortP .nilIface).run Tryz.prog w = .ok (.bool true) w := by kernel_rfl
theorem nil_neq (w : World) : (binOp .neq 20 .nilIface .nilIface).run Tryz.prog w = .ok (.bool false) w := by kernel_rfl
/-- The deferred function where nothing panics: the root's node is the result. -/
theorem applyD_idle (rp r1 r0 : Nat) (t : TypeId) (u x : Value) (w : World) (h1 : w.cell? ⟨rp, 0, none⟩ = some (.pointer (some ⟨r1, 0, none⟩))) (h2 : w.cell? ⟨r1, 0, none⟩ = some (.iface t u)) (h3 : w.cell? ⟨r0, 0, none⟩ = some x) (h4 : w.frozen? ⟨r0, 0, none⟩ = false) :
    CallsD Tryz.prog 67 #[.pointer (some ⟨rp, 0, none⟩), .pointer (some ⟨r0, 0, none⟩)] .returning w fun e u' w' => e = .returned (.tuple #[]) ∧ u' = .returning ∧ w' = w.setCell ⟨r0, 0, none⟩ (.iface t u) := by
  refine callsD_of_wpS Tryz.func67 rfl fun c₀ cs hu => ?_
  apply wpS_seq
  apply wpS_seq
  apply wpS_region
  simp [wpOpsS, go_sem, recoverD, hu, Tryz.ntmps67, Exit.thenS]
  apply wpS_seq
  apply wpS_region
  simp [wpOpsS, go_sem, nil_neq, Exit.thenS]
  refine wpS_cond (t := false) (by simp [Act.eval, Array.replicate]) ?_
  simp only [Bool.false_eq_true, if_false]
  refine wpS_of_wp (wp_skip ?_)
  simp only [Exit.thenS]
  apply wpS_region
  cases c₀
  simp [wpOpsS, go_sem, h1, h2, h3, h4, bodyPostS, results, Tryz.results67]
  simp_all
theorem applyD_abort (rp r1 r0 : Nat) (t : TypeId) (u x : Value) (older : List PanicEntry) (w : World) (h1 : w.cell? ⟨rp, 0, none⟩ = some (.pointer (some ⟨r1, 0, none⟩))) (h2 : w.cell? ⟨r1, 0, none⟩ = some (.iface t u)) (h3 : w.cell? ⟨r0, 0, none⟩ = some x) (h4 : w.frozen? ⟨r0, 0, none⟩ = false)
    (z1 : rp < w.heap.size) (z2 : r1 < w.heap.size) (z3 : r0 < w.heap.size) :
    CallsD Tryz.prog 67 #[.pointer (some ⟨rp, 0, none⟩), .pointer (some ⟨r0, 0, none⟩)] (.panicking ({ v := abortP, recovered := false } :: older)) w fun e u' w' => e = .returned (.tuple #[]) ∧ u' = .panicking ({ v := abortP, recovered := true } :: older) ∧ w' = (w.alloc (.cells #[] 114)).setCell ⟨r0, 0, none⟩ (.iface t u) := by
  have k1 : (w.alloc (.cells #[] 114)).cell? ⟨rp, 0, none⟩ = some (.pointer (some ⟨r1, 0, none⟩)) := (World.cell?_alloc_past _ _ _ z1).trans h1
  have k2 : (w.alloc (.cells #[] 114)).cell? ⟨r1, 0, none⟩ = some (.iface t u) := (World.cell?_alloc_past _ _ _ z2).trans h2
  have k3 : (w.alloc (.cells #[] 114)).cell? ⟨r0, 0, none⟩ = some x := (World.cell?_alloc_past _ _ _ z3).trans h3
  have k4 : (w.alloc (.cells #[] 114)).frozen? ⟨r0, 0, none⟩ = false := (World.frozen?_of_block (Below.heap_alloc w _ r0 z3)).trans h4
  refine callsD_of_wpS Tryz.func67 rfl fun c₀ cs hu => ?_
  apply wpS_seq
  apply wpS_seq
  apply wpS_region
  simp [wpOpsS, go_sem, recoverD, hu, Tryz.ntmps67, Exit.thenS]
  apply wpS_seq
  apply wpS_region
  simp [wpOpsS, go_sem, abort_neq, Exit.thenS]
  refine wpS_cond (t := true) (by simp [Act.eval, Array.replicate]) ?_
  simp only [if_true]
  apply wpS_seq
  apply wpS_region
  simp [wpOpsS, go_sem, aborted_hit, Exit.thenS]
  apply wpS_seq
  apply wpS_region
  simp [wpOpsS, go_sem, Exit.thenS]
  refine wpS_cond (t := false) (by simp [Act.eval, Array.replicate]) ?_
  simp only [Bool.false_eq_true, if_false]
  refine wpS_of_wp (wp_skip ?_)
  simp only [Exit.thenS]
  apply wpS_region
  cases c₀
  simp [wpOpsS, go_sem, k1, k2, k3, k4, bodyPostS, results, Tryz.results67]
/-- The world in which Apply calls apply: the result, the root's node, the variable that holds it, the application. -/
def ApW (w : World) (fp fq : Value) (t : TypeId) (u : Value) : World :=
  (((w.alloc (.cells #[.nilIface] 59)).alloc (.cells #[.iface t u] 112)).alloc (.cells #[.pointer (some ⟨w.heap.size + 1, 0, none⟩)] 110)).alloc (.cells #[fp, fq, .nilIface, .string ⟨#[]⟩, .pointer none, .nilIface, .int .i64 0, .int .i64 0] 123)
/-- Apply: what it answers stands in the root's node behind apply. -/
theorem applyTop_any {R : World → Prop} {w : World} {t : TypeId} {u fp fq : Value} (hf : (fp = .nilFunc ∨ ∃ F c, fp = .func (.func F) #[] c) ∧ (fq = .nilFunc ∨ ∃ F c, fq = .func (.func F) #[] c))
    (h : Calls Tryz.prog 68 #[.pointer (some ⟨w.heap.size + 1 + 1 + 1, 0, none⟩), .iface 110 (.pointer (some ⟨w.heap.size + 1, 0, none⟩)), .string ⟨#[78, 111, 100, 101]⟩, .pointer none, .iface t u] (ApW w fp fq t u) (ApOut R R))
    (hR : ∀ w', R w' → Blk w' w.heap.size 59 #[.nilIface] ∧ Blk w' (w.heap.size + 1 + 1) 110 #[.pointer (some ⟨w.heap.size + 1, 0, none⟩)] ∧ ∃ t u, Blk w' (w.heap.size + 1) 112 #[.iface t u]) :
    Calls Tryz.prog 34 #[.iface t u, fp, fq] w (fun e w' => ∃ w1 t u, R w1 ∧ w1.cell? ⟨w.heap.size + 1, 0, none⟩ = some (.iface t u) ∧ e = .returned (.iface t u) ∧ (w' = w1.setCell ⟨w.heap.size, 0, none⟩ (.iface t u) ∨ w' = (w1.alloc (.cells #[] 114)).setCell ⟨w.heap.size, 0, none⟩ (.iface t u))) := by
  have H := Lib.hid (And.intro h hR)
  clear h hR
  have hmf : ∀ (fn : Fn) (first cap : Array Value) (w : World), (Instr.makeFunc fn first cap).run Tryz.prog w = .ok (.func fn first cap) w := fun _ _ _ _ => rfl
  go_enter_defers Tryz.func34, Tryz.ntmps34
  rcases hf with ⟨rfl | ⟨F, c, rfl⟩, rfl | ⟨F', c', rfl⟩⟩
  all_goals
    go_wp2_with fail
    refine H.out.1.mono ?_
    rintro e w1 (⟨rfl, hr⟩ | ⟨rfl, hr⟩)
    · obtain ⟨b0, b2, t', u', b1⟩ := H.out.2 w1 hr
      go_wp2_with fail
      refine leaves_cons (f := 67) (args := #[.pointer (some ⟨w.heap.size + 1 + 1, 0, none⟩), .pointer (some ⟨w.heap.size, 0, none⟩)]) (by simp) (by simp [go_sem]) ?_
      refine (applyD_idle _ _ _ t' u' _ w1 (b2.cell 0) (b1.cell 0) (b0.cell 0) (b0.frozen 0)).mono ?_
      rintro e u'' w'' ⟨rfl, rfl, rfl⟩
      have hc : (w1.setCell ⟨w.heap.size, 0, none⟩ (.iface t' u')).cell? ⟨w.heap.size, 0, none⟩ = some (.iface t' u') := (b0.set_ 0 (.iface t' u')).cell 0
      simp [Leaves, settle, results, Tryz.results34, go_sem, hc]
      exact ⟨w1, hr, t', u', b1.cell 0, ⟨rfl, rfl⟩, .inl rfl⟩
    · obtain ⟨b0, b2, t', u', b1⟩ := H.out.2 w1 hr
      go_wp2_with fail
      refine leaves_cons (f := 67) (args := #[.pointer (some ⟨w.heap.size + 1 + 1, 0, none⟩), .pointer (some ⟨w.heap.size, 0, none⟩)]) (by simp) (by simp [go_sem]) ?_
      refine (applyD_abort _ _ _ t' u' _ [] w1 (b2.cell 0) (b1.cell 0) (b0.cell 0) (b0.frozen 0) b2.lt b1.lt b0.lt).mono ?_
      rintro e u'' w'' ⟨rfl, rfl, rfl⟩
      have hc : ((w1.alloc (.cells #[] 114)).setCell ⟨w.heap.size, 0, none⟩ (.iface t' u')).cell? ⟨w.heap.size, 0, none⟩ = some (.iface t' u') := ((b0.alloc _).set_ 0 (.iface t' u')).cell 0
      simp [Leaves, settle, results, Tryz.results34, go_sem, hc]
      exact ⟨w1, hr, t', u', b1.cell 0, ⟨rfl, rfl⟩, .inr rfl⟩
end Go.Proofs.YtgimbgpebpippaaGreatDoor
