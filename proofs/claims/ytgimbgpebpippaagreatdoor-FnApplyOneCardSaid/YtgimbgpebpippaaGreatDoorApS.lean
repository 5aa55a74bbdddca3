/- Apply over a client that only looks: the calls that are due. -/
import Derived.Test.YtgimbgpebpippaaGreatDoorApR
import Derived.Test.YtgimbgpebpippaaGreatDoorApW
namespace Go.Proofs.YtgimbgpebpippaaGreatDoor
open Go.RowKit
set_option maxRecDepth 100000
section
variable {q : Ask} {CI : VSt → World → List Nat → Prop} {fp fq : Value} {w : World}
theorem apply_look (x : AE) (own : List Nat) (s : VSt) (hC : Client q (w.heap.size + 1 + 1 + 1) fp fq CI) (hf : (fp = .nilFunc ∨ ∃ F c, fp = .func (.func F) #[] c) ∧ (fq = .nilFunc ∨ ∃ F c, fq = .func (.func F) #[] c))
    (hci : CI s w own) (hx : x.In w) (hG : Glob w) (hax : ∀ b ∈ x.blocks, b ∉ own) (hgo : 0 ∉ own) (hb : Bd (walkN q x.node ⟨sEmpty, -1, sEmpty⟩ s)) (he : 0 ≤ s.ends) :
    Calls Tryz.prog 34 #[x.val, fp, fq] w (fun e w' => ∃ own' v, e = .returned v ∧ CI (walkN q x.node ⟨sEmpty, -1, sEmpty⟩ s).1 w' own' ∧ Kept own w w' ∧ Grows w.heap.size own own') := by
  obtain ⟨t, u, hv⟩ := x.val_one
  rw [hv]
  have hbl : Below w.heap.size w (ApW w fp fq t u) := ((((Below.refl _ _).alloc (Nat.le_refl _) _).alloc (by rw [World.size_alloc]; omega) _).alloc (by rw [World.size_alloc, World.size_alloc]; omega) _).alloc (by rw [World.size_alloc, World.size_alloc, World.size_alloc]; omega) _
  have hsz : (ApW w fp fq t u).heap.size = w.heap.size + 1 + 1 + 1 + 1 := by simp only [ApW, World.size_alloc]
  have hlt := hC.lt s w own hci
  have hxl := AE.In.lt x hx
  have hGl := hG.2
  have b0 : Blk (ApW w fp fq t u) w.heap.size 59 #[.nilIface] := (((Blk.new w _ _).alloc _).alloc _).alloc _
  have b1 : Blk (ApW w fp fq t u) (w.heap.size + 1) 112 #[.iface t u] := by
    have := ((Blk.new (w.alloc (.cells #[.nilIface] 59)) 112 #[.iface t u]).alloc (.cells #[.pointer (some ⟨w.heap.size + 1, 0, none⟩)] 110)).alloc (.cells #[fp, fq, .nilIface, .string ⟨#[]⟩, .pointer none, .nilIface, .int .i64 0, .int .i64 0] 123)
    rwa [World.size_alloc] at this
  have b2 : Blk (ApW w fp fq t u) (w.heap.size + 1 + 1) 110 #[.pointer (some ⟨w.heap.size + 1, 0, none⟩)] := by
    have := (Blk.new ((w.alloc (.cells #[.nilIface] 59)).alloc (.cells #[.iface t u] 112)) 110 #[.pointer (some ⟨w.heap.size + 1, 0, none⟩)]).alloc (.cells #[fp, fq, .nilIface, .string ⟨#[]⟩, .pointer none, .nilIface, .int .i64 0, .int .i64 0] 123)
    rwa [World.size_alloc, World.size_alloc] at this
  have b3 : App (ApW w fp fq t u) (w.heap.size + 1 + 1 + 1) fp fq .nilIface ⟨#[]⟩ (.pointer none) .nilIface 0 0 := by
    have := Blk.new (((w.alloc (.cells #[.nilIface] 59)).alloc (.cells #[.iface t u] 112)).alloc (.cells #[.pointer (some ⟨w.heap.size + 1, 0, none⟩)] 110)) 123 #[fp, fq, .nilIface, .string ⟨#[]⟩, .pointer none, .nilIface, .int .i64 0, .int .i64 0]
    rwa [World.size_alloc, World.size_alloc, World.size_alloc] at this
  have hciA : CI s (ApW w fp fq t u) own := hC.kept s w _ own hci hbl.size (fun k hk => hbl.block k (hlt k hk))
  have hno : ∀ k, w.heap.size ≤ k → k ∉ own := fun k hk hm => by have := hlt k hm; omega
  have hP : ApPre q CI (w.heap.size + 1 + 1 + 1) fp fq (ApW w fp fq t u) own s x none (.iface 110 (.pointer (some ⟨w.heap.size + 1, 0, none⟩))) ⟨#[78, 111, 100, 101]⟩ (.pointer none) 0 0 (-1) .nilIface ⟨#[]⟩ none .nilIface := {
    ci := hciA
    app := b3
    old := .inl ⟨rfl, rfl⟩
    xin := hx.below hbl (Nat.le_refl _)
    pin := ⟨_, rfl⟩
    ixn := .inl ⟨rfl, rfl⟩
    glob := hG.below hbl (Nat.le_refl _)
    aw := ⟨hno _ (by omega), hgo, by omega⟩
    ax := fun b hb => ⟨hax b hb, by have := hxl b hb; omega⟩
    ap := fun b hb => by cases hb
    bd := ⟨hb, he⟩ }
  have hA := apply_any hC (SizeOf.sizeOf x + 1) x (Nat.lt_succ_self _) (ApW w fp fq t u) own s none _ _ _ 0 0 (-1) .nilIface ⟨#[]⟩ none .nilIface hP
  rw [hv] at hA
  refine (applyTop_any (R := fun w1 => ∃ own', CI (walkN q x.node ⟨sEmpty, -1, sEmpty⟩ s).1 w1 own' ∧ Kept ((w.heap.size + 1 + 1 + 1) :: own) (ApW w fp fq t u) w1 ∧ Grows (ApW w fp fq t u).heap.size own own') hf (hA.mono ?_) ?_).mono ?_
  · rintro e w1 ⟨own', hci', hk, hg, ⟨rfl, _, _⟩ | ⟨rfl, _, _⟩⟩
    · exact .inl ⟨rfl, own', hci', hk, hg⟩
    · exact .inr ⟨rfl, own', hci', hk, hg⟩
  · rintro w1 ⟨own', hci', hk, hg⟩
    have hm : ∀ k, w.heap.size ≤ k → k ≠ w.heap.size + 1 + 1 + 1 → k ∉ (w.heap.size + 1 + 1 + 1) :: own := fun k h1 h2 => by simp only [List.mem_cons, not_or]; exact ⟨h2, hno k h1⟩
    exact ⟨hk.blk b0 (hm _ (by omega) (by omega)), hk.blk b2 (hm _ (by omega) (by omega)), t, u, hk.blk b1 (hm _ (by omega) (by omega))⟩
  · rintro e w' ⟨w1, t', u', ⟨own', hci', hk, hg⟩, hc, rfl, hw'⟩
    have hsz1 := hk.1
    have hg' : Grows w.heap.size own own' := fun k hk => by
      rcases hg k hk with h | h
      · exact .inl h
      · exact .inr (by omega)
    have hk1 : Kept own w w1 := ⟨by omega, fun k h1 h2 => (hk.2 k (by omega) (by simp only [List.mem_cons, not_or]; exact ⟨by omega, h2⟩)).trans (hbl.block k h1), hk.os.trans hbl.os, hk.tape.trans hbl.tape, hk.output.trans hbl.output⟩
    have hn : w.heap.size ∉ own' := fun hm => by
      rcases hg _ hm with h | h
      · exact hno _ (Nat.le_refl _) h
      · omega
    have hlt' := hC.lt _ _ _ hci'
    refine ⟨own', _, rfl, ?_, ?_, hg'⟩
    · rcases hw' with rfl | rfl
      · exact hC.kept _ w1 _ own' hci' (by simp) (fun k hk => Below.heap_setCell _ _ _ _ (by rintro rfl; exact hn hk))
      · exact hC.kept _ w1 _ own' hci' (by simp) (fun k hk => (Below.heap_setCell _ _ _ _ (by rintro rfl; exact hn hk)).trans (Below.heap_alloc w1 _ k (hlt' k hk)))
    · rcases hw' with rfl | rfl
      · exact hk1.set (.inr (Nat.le_refl _)) _
      · exact (hk1.alloc _).set (.inr (Nat.le_refl _)) _
end
end Go.Proofs.YtgimbgpebpippaaGreatDoor
