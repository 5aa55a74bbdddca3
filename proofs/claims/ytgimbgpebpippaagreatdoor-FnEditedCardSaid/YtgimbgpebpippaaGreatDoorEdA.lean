/- apply over a client whose function does nothing where it comes: all stays. -/
import Derived.Test.YtgimbgpebpippaaGreatDoorApW
namespace Go.Proofs.YtgimbgpebpippaaGreatDoor
open Go.RowKit
set_option maxRecDepth 100000
/-- The node of a call, by its block. -/
abbrev callV (b : Nat) : Value := .iface 87 (.pointer (some ⟨b, 0, none⟩))
theorem AE.val_ne {b : Nat} : ∀ x : AE, b ∉ x.blocks → x.val ≠ callV b
  | .ident _ _, _, h => by injection h with h1 _; exact absurd h1 (by decide)
  | .lit _ _, _, h => by injection h with h1 _; exact absurd h1 (by decide)
  | .paren _ _, _, h => by injection h with h1 _; exact absurd h1 (by decide)
  | .sel _ _ _ _, _, h => by injection h with h1 _; exact absurd h1 (by decide)
  | .star _ _, _, h => by injection h with h1 _; exact absurd h1 (by decide)
  | .unary _ _ _, _, h => by injection h with h1 _; exact absurd h1 (by decide)
  | .binary _ _ _ _, _, h => by injection h with h1 _; exact absurd h1 (by decide)
  | .index _ _ _, _, h => by injection h with h1 _; exact absurd h1 (by decide)
  | .call b' _ _ _ _, hb, h => by
    injection h with _ h1
    injection h1 with h1
    injection h1 with h1
    injection h1 with h1
    exact hb (by simp [AE.blocks, h1])
/-- What the walk knows of a node's parent: a pointer; where it is a call, its block. -/
def ParOk (w : World) (ba : Nat) (pv : Value) : Prop := ∃ t p, pv = .iface t (.pointer (some p)) ∧ (t = 87 → p.off = 0 ∧ p.spot = none ∧ p.block ≠ ba ∧ ∃ T cs, Blk w p.block T cs)
theorem ParOk.kept {w w' : World} {ba : Nat} {pv : Value} (h : ParOk w ba pv) (hk : Kept [ba] w w') : ParOk w' ba pv := by
  obtain ⟨t, p, e, h⟩ := h
  refine ⟨t, p, e, fun ht => ?_⟩
  obtain ⟨h1, h2, h3, T, cs, h4⟩ := h ht
  exact ⟨h1, h2, h3, T, cs, hk.blk h4 (by rw [List.mem_singleton]; exact h3)⟩
theorem AE.parOk {w : World} {ba : Nat} : ∀ x : AE, x.In w → ba ∉ x.blocks → ParOk w ba x.val
  | .ident _ _, _, _ => ⟨_, _, rfl, fun h => absurd h (by decide)⟩
  | .lit _ _, _, _ => ⟨_, _, rfl, fun h => absurd h (by decide)⟩
  | .paren _ _, _, _ => ⟨_, _, rfl, fun h => absurd h (by decide)⟩
  | .sel _ _ _ _, _, _ => ⟨_, _, rfl, fun h => absurd h (by decide)⟩
  | .star _ _, _, _ => ⟨_, _, rfl, fun h => absurd h (by decide)⟩
  | .unary _ _ _, _, _ => ⟨_, _, rfl, fun h => absurd h (by decide)⟩
  | .binary _ _ _ _, _, _ => ⟨_, _, rfl, fun h => absurd h (by decide)⟩
  | .index _ _ _, _, _ => ⟨_, _, rfl, fun h => absurd h (by decide)⟩
  | .call b _ _ _ _, hx, hb => ⟨_, _, rfl, fun _ => ⟨rfl, rfl, fun e => hb (by rw [← e]; simp [AE.blocks]), _, _, hx.1⟩⟩
/-- A client whose function comes and looks, but for the arguments of one call. -/
structure QCl (ba : Nat) (fv : Value) (b : Nat) (Q : World → Prop) : Prop where
  keep : ∀ w w', Q w → Kept [ba] w w' → Q w'
  fn : ∃ F cps, fv = .func (.func F) #[] cps ∧ (∀ args w, (callFunc F args).run Tryz.prog w = .ok (.enter F args) w) ∧
    ∀ w t u nm o (x : AE) ix st, App w ba fv .nilFunc (.iface t u) nm (.pointer o) x.val ix st → ParOk w ba (.iface t u) → (Value.iface t u ≠ callV b ∨ nm ≠ fArgs) → Q w → Calls Tryz.prog F (#[cur ba] ++ cps) w fun e w' => e = .returned (.bool true) ∧ Kept [] w w'
/-- apply returns, and all is as it was. -/
def QSo (ba : Nat) (cs : Array Value) (w : World) (e : Ending) (w' : World) : Prop := e = .returned (.tuple #[]) ∧ Blk w' ba 123 cs ∧ Kept [ba] w w'
section
variable {ba : Nat} {fv : Value} {b : Nat} {Q : World → Prop}
theorem q_frame (hC : QCl ba fv b Q) {x : AE} {K : KidsRule} (hF : FrameRule ba x.val K)
    (hK : ∀ w1 t u nm o ix st, App w1 ba fv .nilFunc (.iface t u) nm (.pointer o) x.val ix st → x.In w1 → Q w1 → K w1 (fun w2 => App w2 ba fv .nilFunc (.iface t u) nm (.pointer o) x.val ix st ∧ Kept [ba] w1 w2) (fun _ => False)) (hm : KMono K)
    {w : World} {t : TypeId} {u : Value} {nm : ByteArray} {o : Option Addr} {ix st : Int} {pv0 : Value} {nm0 : ByteArray} {o0 : Option Addr} {nv0 : Value} (happ : App w ba fv .nilFunc pv0 nm0 (.pointer o0) nv0 ix st) (hold : OldCur pv0 nv0) (hx : x.In w) (hb : ba ∉ x.blocks) (hpk : ParOk w ba (.iface t u)) (hne : Value.iface t u ≠ callV b ∨ nm ≠ fArgs) (hq : Q w) :
    Calls Tryz.prog applyF #[.pointer (some ⟨ba, 0, none⟩), .iface t u, .string nm, .pointer o, x.val] w (QSo ba (appCells fv .nilFunc pv0 nm0 (.pointer o0) nv0 ix st) w) := by
  have h7a := W7_app happ (.iface t u) nm (.pointer o) x.val #[pv0, .string nm0, .pointer o0, nv0]
  have h7k := W7_kept w ba (.iface t u) nm (.pointer o) x.val #[pv0, .string nm0, .pointer o0, nv0]
  have h7s := W7_saved w ba (.iface t u) nm (.pointer o) x.val #[pv0, .string nm0, .pointer o0, nv0]
  have hlt := Blk.lt happ
  let M : World → Prop := fun w1 => App w1 ba fv .nilFunc (.iface t u) nm (.pointer o) x.val ix st ∧ Kept [ba] w w1 ∧ Blk w1 w.heap.size 119 #[pv0, .string nm0, .pointer o0, nv0]
  have hMh : Heapy M := fun w1 w2 e h => ⟨Blk.same h.1 (by rw [e.1]), h.2.1.heapy e, h.2.2.same (by rw [e.1])⟩
  have hxM : ∀ w1, M w1 → x.In w1 := fun w1 h => AE.In.same x (fun k hk => h.2.1.2 k (AE.In.lt x hx k hk) (by rw [List.mem_singleton]; rintro rfl; exact hb hk)) hx
  have hQM : ∀ w1, M w1 → Q w1 := fun w1 h => hC.keep w w1 hq h.2.1
  have hfr : ∀ w1, M w1 → Fr ba w.heap.size fv .nilFunc #[pv0, .string nm0, .pointer o0, nv0] w1 := fun w1 h => ⟨⟨_, _, _, _, _, _, h.1⟩, h.2.2⟩
  refine (hF w fv .nilFunc t u nm o ix st pv0 nm0 o0 nv0 (fun r w1 => r = true ∧ M w1) M (fun r w1 => r = true ∧ M w1) (fun _ => False) happ hold ?_ (fun r w1 w2 e h => ⟨h.1, hMh _ _ e h.2⟩) (fun r w1 h => hfr w1 h.2) ?_ hMh hfr (fun w1 h => .inl ⟨rfl, rfl, h⟩) (fun r w1 w2 e h => ⟨h.1, hMh _ _ e h.2⟩) (fun r w1 h => hfr w1 h.2)).mono ?_
  · obtain ⟨F, cps, h1, h2, h3⟩ := hC.fn
    refine .inr ⟨F, cps, h1, h2, fun w' hw => ?_⟩
    have hM : M w' := hMh _ _ hw ⟨h7a, h7k, h7s⟩
    refine (h3 w' t u nm o x ix st hM.1 (hpk.kept hM.2.1) hne (hQM _ hM)).mono ?_
    rintro e w2 ⟨rfl, hk⟩
    exact ⟨true, rfl, rfl, hk.blk hM.1 (by simp), hM.2.1.trans hk (fun k hk => by cases hk), hk.blk hM.2.2 (by simp)⟩
  · rintro w1 ⟨_, hM⟩
    refine hm _ _ _ _ _ (fun w2 h => ?_) (fun _ h => h) (hK w1 t u nm o ix st hM.1 (hxM _ hM) (hQM _ hM))
    exact ⟨h.1, hM.2.1.trans h.2 (Grows.refl _ _), h.2.blk hM.2.2 (by rw [List.mem_singleton]; omega)⟩
  · rintro e w' (⟨rfl, w1, hr, rfl⟩ | ⟨rfl, hp⟩)
    · have hM : M w1 := by
        rcases hr with ⟨h, _⟩ | ⟨_, h⟩
        · cases h
        · exact h
      have hmm : ba ∈ [ba] := List.mem_cons_self
      refine ⟨rfl, (((Blk.set_ hM.1 2 pv0).set_ 3 (.string nm0)).set_ 4 (.pointer o0)).set_ 5 nv0, ?_⟩
      exact (((hM.2.1.set (p := ⟨ba, 2, none⟩) (.inl hmm) pv0).set (p := ⟨ba, 3, none⟩) (.inl hmm) (.string nm0)).set (p := ⟨ba, 4, none⟩) (.inl hmm) (.pointer o0)).set (p := ⟨ba, 5, none⟩) (.inl hmm) nv0
    · rcases hp with h | ⟨h, _⟩
      · exact h.elim
      · cases h
/-- apply at trees smaller than k. -/
def QUpTo (ba : Nat) (fv : Value) (b : Nat) (Q : World → Prop) (k : Nat) : Prop := ∀ x : AE, SizeOf.sizeOf x < k → ∀ (w : World) (t : TypeId) (u : Value) (nm : ByteArray) (o : Option Addr) (ix st : Int) (pv0 : Value) (nm0 : ByteArray) (o0 : Option Addr) (nv0 : Value),
  App w ba fv .nilFunc pv0 nm0 (.pointer o0) nv0 ix st → OldCur pv0 nv0 → x.In w → ba ∉ x.blocks → b ∉ x.blocks → ParOk w ba (.iface t u) → (Value.iface t u ≠ callV b ∨ nm ≠ fArgs) → Q w →
  Calls Tryz.prog applyF #[.pointer (some ⟨ba, 0, none⟩), .iface t u, .string nm, .pointer o, x.val] w (QSo ba (appCells fv .nilFunc pv0 nm0 (.pointer o0) nv0 ix st) w)
section
variable {w1 : World} {t : TypeId} {u : Value} {nm : ByteArray} {o : Option Addr} {x : AE} {ix st : Int} {k : Nat}
/-- A kid, at the cursor of its parent. -/
theorem q_kid {nk : ByteArray} (hC : QCl ba fv b Q) (ih : QUpTo ba fv b Q k) (happ : App w1 ba fv .nilFunc (.iface t u) nm (.pointer o) x.val ix st) (hx : x.In w1) (hxa : ba ∉ x.blocks) (hq : Q w1) (y : AE) (hs : SizeOf.sizeOf y < k) (hy : y.In w1) (hba : ba ∉ y.blocks) (hbb : b ∉ y.blocks) (hxb : x.val ≠ callV b ∨ nk ≠ fArgs) (ok : Option Addr) :
    ∀ w', Sm w1 w' → Calls Tryz.prog applyF #[.pointer (some ⟨ba, 0, none⟩), x.val, .string nk, .pointer ok, y.val] w' (fun e w2 => e = .returned (.tuple #[]) ∧ App w2 ba fv .nilFunc (.iface t u) nm (.pointer o) x.val ix st ∧ Kept [ba] w1 w2) := by
  intro w' hw
  obtain ⟨tx, ux, hv⟩ := x.val_one
  have hk : Kept [ba] w1 w' := (Kept.refl _ _).heapy hw
  have h := ih y hs w' tx ux nk ok ix st (.iface t u) nm o x.val (Blk.same happ (by rw [hw.1])) (.inr ⟨_, _, _, _, rfl, hv⟩) (AE.In.same y (fun k _ => by rw [hw.1]) hy) hba hbb (by rw [← hv]; exact (AE.parOk x hx hxa).kept hk) (by rw [← hv]; exact hxb) (hC.keep _ _ hq hk)
  rw [hv] at h ⊢
  refine h.mono ?_
  rintro e w2 ⟨rfl, h1, h2⟩
  exact ⟨rfl, h1, hk.trans h2 (Grows.refl _ _)⟩
theorem q_one {nk : ByteArray} (hC : QCl ba fv b Q) (ih : QUpTo ba fv b Q k) (happ : App w1 ba fv .nilFunc (.iface t u) nm (.pointer o) x.val ix st) (hx : x.In w1) (hxa : ba ∉ x.blocks) (hq : Q w1) (y : AE) (hs : SizeOf.sizeOf y < k) (hy : y.In w1) (hba : ba ∉ y.blocks) (hbb : b ∉ y.blocks) (hxb : x.val ≠ callV b ∨ nk ≠ fArgs) {g c : Nat} (hc : w1.cell? ⟨g, c, none⟩ = some y.val) :
    kOne ba g c x.val nk w1 (fun w2 => App w2 ba fv .nilFunc (.iface t u) nm (.pointer o) x.val ix st ∧ Kept [ba] w1 w2) (fun _ => False) := by
  obtain ⟨ty, uy, hv⟩ := y.val_one
  refine ⟨ty, uy, by rw [hc, hv], fun w' hw => ?_⟩
  rw [← hv]
  exact (q_kid hC ih happ hx hxa hq y hs hy hba hbb hxb none w' hw).mono (fun e w2 h => .inl h)
theorem q_then {K1 K2 : KidsRule} (_m1 : KMono K1) (hC : QCl ba fv b Q) (hx : x.In w1) (hb : ba ∉ x.blocks) (hq : Q w1)
    (h1 : K1 w1 (fun w2 => App w2 ba fv .nilFunc (.iface t u) nm (.pointer o) x.val ix st ∧ Kept [ba] w1 w2) (fun _ => False))
    (h2 : ∀ w2, App w2 ba fv .nilFunc (.iface t u) nm (.pointer o) x.val ix st → x.In w2 → Q w2 → K2 w2 (fun w3 => App w3 ba fv .nilFunc (.iface t u) nm (.pointer o) x.val ix st ∧ Kept [ba] w2 w3) (fun _ => False)) (m2 : KMono K2) :
    kThen K1 K2 w1 (fun w2 => App w2 ba fv .nilFunc (.iface t u) nm (.pointer o) x.val ix st ∧ Kept [ba] w1 w2) (fun _ => False) := by
  refine ⟨_, h1, fun w2 h => ?_⟩
  have hx2 : x.In w2 := AE.In.same x (fun k hk => h.2.2 k (AE.In.lt x hx k hk) (by rw [List.mem_singleton]; rintro rfl; exact hb hk)) hx
  exact m2 _ _ _ _ _ (fun w3 h3 => ⟨h3.1, h.2.trans h3.2 (Grows.refl _ _)⟩) (fun _ h => h) (h2 w2 h.1 hx2 (hC.keep _ _ hq h.2))
/-- The arguments of a call. -/
theorem q_list (hC : QCl ba fv b Q) (ih : QUpTo ba fv b Q k) (b' : Nat) (f : AE) (g cap : Nat) (args : List AE) (hsz : ∀ y ∈ args, SizeOf.sizeOf y < k) (happ : App w1 ba fv .nilFunc (.iface t u) nm (.pointer o) (AE.call b' f g cap args).val ix st) (hq : Q w1)
    (hx : (AE.call b' f g cap args).In w1) (hba : ba ∉ (AE.call b' f g cap args).blocks) (hbb : b ∉ (AE.call b' f g cap args).blocks) :
    kList ba (AE.call b' f g cap args).val fArgs w1 (fun w2 => App w2 ba fv .nilFunc (.iface t u) nm (.pointer o) (AE.call b' f g cap args).val ix st ∧ Kept [ba] w1 w2) (fun _ => False) := by
  intro w' hw
  have hk0 : Kept [ba] w1 w' := (Kept.refl _ _).heapy hw
  have happ' : App w' ba fv .nilFunc (.iface t u) nm (.pointer o) (AE.call b' f g cap args).val ix st := Blk.same happ (by rw [hw.1])
  have hx' : (AE.call b' f g cap args).In w' := AE.In.same _ (fun k _ => by rw [hw.1]) hx
  have hq' := hC.keep _ _ hq hk0
  have hlt := Blk.lt happ'
  have hlen : args.length ≤ 1000 := hx'.2.2.1.2
  have hmm : ba ∈ [ba] := List.mem_cons_self
  have hin : ∀ w3, Kept [ba] w' w3 → (AE.call b' f g cap args).In w3 := fun w3 h => AE.In.same _ (fun k hk => h.2 k (AE.In.lt _ hx' k hk) (by rw [List.mem_singleton]; rintro rfl; exact hba hk)) hx'
  let J : LD → World → Prop := fun d w3 => d.g = g ∧ d.n = args.length ∧ d.cp = cap ∧ d.i ≤ args.length ∧ d.m = args.length - d.i ∧ ∃ st' : Int, App w3 ba fv .nilFunc (.iface t u) nm (.pointer o) (AE.call b' f g cap args).val d.i st' ∧ Kept [ba] w' w3 ∧ Blk w3 w'.heap.size 121 #[.int .i64 ix, .int .i64 st]
  refine (applyList_rule (J := J) (d0 := ⟨g, args.length, cap, 0, args.length⟩) (PC := fun _ => False) (list_callArgs b') happ' ?_ ?_).mono ?_
  · constructor
    case heapy => exact fun d w3 w4 e h => ⟨h.1, h.2.1, h.2.2.1, h.2.2.2.1, h.2.2.2.2.1, by obtain ⟨st', h1, h2, h3⟩ := h.2.2.2.2.2; exact ⟨st', Blk.same h1 (by rw [e.1]), h2.heapy e, h3.same (by rw [e.1])⟩⟩
    case alloc => exact fun d w3 v h => ⟨h.1, h.2.1, h.2.2.1, h.2.2.2.1, h.2.2.2.2.1, by obtain ⟨st', h1, h2, h3⟩ := h.2.2.2.2.2; exact ⟨st', Blk.alloc h1 _, h2.alloc _, h3.alloc _⟩⟩
    case sl =>
      rintro d w3 ⟨rfl, h2, rfl, h4, h5, st', h6, h7, h8⟩
      rw [h2]
      exact (hin w3 h7).1.cell 2
    case app =>
      rintro d w3 ⟨h1, h2, h3, h4, h5, st', h6, h7, h8⟩
      exact ⟨_, _, _, _, _, _, st', h6⟩
    case sav =>
      rintro d w3 ⟨h1, h2, h3, h4, h5, st', h6, h7, h8⟩
      exact h8
    case bd =>
      rintro d w3 ⟨h1, h2, h3, h4, h5, _⟩
      omega
    case elt =>
      rintro d w3 ⟨h1, h2, h3, h4, h5, st', h6, h7, h8⟩ hl
      obtain ⟨y, hy⟩ : ∃ y, args[d.i]? = some y := ⟨args[d.i]'(by omega), List.getElem?_eq_getElem (by omega)⟩
      have hmem := List.mem_of_getElem? hy
      obtain ⟨ty, uy, hv⟩ := y.val_one
      have hx3 := hin w3 h7
      refine ⟨ty, uy, ?_, fun w4 hw4 => ?_⟩
      · rw [h1]
        have := hx3.2.2.1.1.cell (i := d.i) (v := y.val) (by simp [hy])
        rw [this, hv]
      · have hyb : ∀ c ∈ y.blocks, c ∈ (AE.call b' f g cap args).blocks := fun c hc => by simp only [AE.blocks, List.mem_cons, List.mem_append]; exact .inr (.inr (.inr (mem_blocksL hmem hc)))
        have ha3 : App (w3.setCell ⟨ba, 7, none⟩ (.int .i64 1)) ba fv .nilFunc (.iface t u) nm (.pointer o) (AE.call b' f g cap args).val d.i 1 := Blk.set_ h6 7 _
        have hk3 : Kept [ba] w' (w3.setCell ⟨ba, 7, none⟩ (.int .i64 1)) := h7.set (.inl hmm) _
        have hkid := q_kid (nk := fArgs) hC ih ha3 (hin _ hk3) hba (hC.keep _ _ hq' hk3) y (hsz y hmem) ((AEInL_iff _ args).1 (hin _ hk3).2.2.2 y hmem) (fun h => hba (hyb _ h)) (fun h => hbb (hyb _ h)) (.inl (AE.val_ne _ hbb)) (some ⟨ba, 6, none⟩) w4 hw4
        rw [hv] at hkid
        refine hkid.mono ?_
        rintro e w5 ⟨rfl, ha5, hk5⟩
        refine .inl ⟨rfl, ⟨g, args.length, cap, d.i + 1, args.length - (d.i + 1)⟩, _, _, _, _, _, _, d.i, 1, ha5, by simp only; omega, by simp only; omega, rfl, rfl, rfl, by simp only; omega, rfl, 1, Blk.set_ ha5 6 _, ?_, ?_⟩
        · exact (hk3.trans hk5 (Grows.refl _ _)).set (.inl hmm) _
        · have h9 : Blk (w3.setCell ⟨ba, 7, none⟩ (.int .i64 1)) w'.heap.size 121 #[.int .i64 ix, .int .i64 st] := h8.far (by simp only; omega) _
          exact (hk5.blk h9 (by rw [List.mem_singleton]; omega)).far (by simp only; omega) _
  · refine ⟨rfl, rfl, rfl, Nat.zero_le _, rfl, st, ?_, ?_, ?_⟩
    · exact (Blk.set_ happ' 6 _).alloc _
    · exact ((Kept.refl [ba] w').set (.inl hmm) _).alloc _
    · have := Blk.new (w'.setCell ⟨ba, 6, none⟩ (.int .i64 0)) 121 #[.int .i64 ix, .int .i64 st]
      rwa [World.size_setCell] at this
  · intro e w3 ho
    refine ho.mono ?_ (fun h => h)
    rintro ⟨d, w4, ⟨h1, h2, h3, h4, h5, st', h6, h7, h8⟩, hle, rfl⟩
    exact ⟨(Blk.set_ h6 6 _).set_ 7 _, ((hk0.trans h7 (Grows.refl _ _)).set (.inl hmm) _).set (.inl hmm) _⟩
end
/-- What is below a node, whatever the node. -/
theorem q_kids (hC : QCl ba fv b Q) {k : Nat} (ih : QUpTo ba fv b Q k) (x : AE) (hs : SizeOf.sizeOf x < k + 1) : ∃ K, FrameRule ba x.val K ∧ KMono K ∧
    (ba ∉ x.blocks → b ∉ x.blocks → ∀ w1 t u nm o ix st, App w1 ba fv .nilFunc (.iface t u) nm (.pointer o) x.val ix st → x.In w1 → Q w1 → K w1 (fun w2 => App w2 ba fv .nilFunc (.iface t u) nm (.pointer o) x.val ix st ∧ Kept [ba] w1 w2) (fun _ => False)) := by
  cases x with
  | ident c n => exact ⟨_, frIdent ba c, fun w1 R R' Pn Pn' h1 h2 h => h1 _ h, fun _ _ w1 t u nm o ix st happ _ _ => ⟨happ, Kept.refl _ _⟩⟩
  | lit c n => exact ⟨_, frLit ba c, fun w1 R R' Pn Pn' h1 h2 h => h1 _ h, fun _ _ w1 t u nm o ix st happ _ _ => ⟨happ, Kept.refl _ _⟩⟩
  | paren c y =>
    rw [AE.paren.sizeOf_spec] at hs
    refine ⟨_, frParen ba c, kOne_mono _ _ _ _ _, fun hba hbb w1 t u nm o ix st happ hx hq => ?_⟩
    have hval := AE.val_ne _ hbb
    have hba0 := hba
    simp only [AE.blocks, List.mem_cons, not_or] at hba hbb
    exact q_one hC ih happ hx hba0 hq y (by omega) hx.2 hba.2 hbb.2 (.inl hval) (hx.1.cell 1)
  | star c y =>
    rw [AE.star.sizeOf_spec] at hs
    refine ⟨_, frStar ba c, kOne_mono _ _ _ _ _, fun hba hbb w1 t u nm o ix st happ hx hq => ?_⟩
    have hval := AE.val_ne _ hbb
    have hba0 := hba
    simp only [AE.blocks, List.mem_cons, not_or] at hba hbb
    exact q_one hC ih happ hx hba0 hq y (by omega) hx.2 hba.2 hbb.2 (.inl hval) (hx.1.cell 1)
  | unary c op y =>
    rw [AE.unary.sizeOf_spec] at hs
    refine ⟨_, frUnary ba c, kOne_mono _ _ _ _ _, fun hba hbb w1 t u nm o ix st happ hx hq => ?_⟩
    have hval := AE.val_ne _ hbb
    have hba0 := hba
    simp only [AE.blocks, List.mem_cons, not_or] at hba hbb
    exact q_one hC ih happ hx hba0 hq y (by omega) hx.2.2 hba.2 hbb.2 (.inl hval) (hx.2.1.cell 2)
  | sel c y sb n =>
    have hpos := AE.sizeOf_pos y
    rw [AE.sel.sizeOf_spec] at hs
    refine ⟨_, frSel ba c, kThen.mono (kOne_mono _ _ _ _ _) (kPtr_mono _ _ _ _ _ _), fun hba hbb w1 t u nm o ix st happ hx hq => ?_⟩
    have hval := AE.val_ne _ hbb
    have hba0 := hba
    simp only [AE.blocks, List.mem_cons, not_or] at hba hbb
    refine q_then (kOne_mono _ _ _ _ _) hC hx hba0 hq (q_one hC ih happ hx hba0 hq y (by omega) hx.2.2 hba.2.2 hbb.2.2 (.inl hval) (hx.1.cell 0)) (fun w2 ha2 hx2 hq2 => ?_) (kPtr_mono _ _ _ _ _ _)
    refine ⟨some ⟨sb, 0, none⟩, hx2.1.cell 1, fun w' hw => ?_⟩
    exact (q_kid hC ih ha2 hx2 hba0 hq2 (AE.ident sb n) (by rw [AE.ident.sizeOf_spec]; omega) hx2.2.1 (by simp [AE.blocks]; exact hba.2.1) (by simp [AE.blocks]; exact hbb.2.1) (.inl hval) none w' hw).mono (fun e w2 h => .inl h)
  | binary c op y z =>
    rw [AE.binary.sizeOf_spec] at hs
    refine ⟨_, frBinary ba c, kThen.mono (kOne_mono _ _ _ _ _) (kOne_mono _ _ _ _ _), fun hba hbb w1 t u nm o ix st happ hx hq => ?_⟩
    have hval := AE.val_ne _ hbb
    have hba0 := hba
    simp only [AE.blocks, List.mem_cons, List.mem_append, not_or] at hba hbb
    exact q_then (kOne_mono _ _ _ _ _) hC hx hba0 hq (q_one hC ih happ hx hba0 hq y (by omega) hx.2.2.1 hba.2.1 hbb.2.1 (.inl hval) (hx.2.1.cell 0)) (fun w2 ha2 hx2 hq2 => q_one hC ih ha2 hx2 hba0 hq2 z (by omega) hx2.2.2.2 hba.2.2 hbb.2.2 (.inl hval) (hx2.2.1.cell 3)) (kOne_mono _ _ _ _ _)
  | index c y z =>
    rw [AE.index.sizeOf_spec] at hs
    refine ⟨_, frIndex ba c, kThen.mono (kOne_mono _ _ _ _ _) (kOne_mono _ _ _ _ _), fun hba hbb w1 t u nm o ix st happ hx hq => ?_⟩
    have hval := AE.val_ne _ hbb
    have hba0 := hba
    simp only [AE.blocks, List.mem_cons, List.mem_append, not_or] at hba hbb
    exact q_then (kOne_mono _ _ _ _ _) hC hx hba0 hq (q_one hC ih happ hx hba0 hq y (by omega) hx.2.1 hba.2.1 hbb.2.1 (.inl hval) (hx.1.cell 0)) (fun w2 ha2 hx2 hq2 => q_one hC ih ha2 hx2 hba0 hq2 z (by omega) hx2.2.2 hba.2.2 hbb.2.2 (.inl hval) (hx2.1.cell 2)) (kOne_mono _ _ _ _ _)
  | call c y g cap args =>
    rw [AE.call.sizeOf_spec] at hs
    refine ⟨_, frCall ba c, kThen.mono (kOne_mono _ _ _ _ _) (kList_mono _ _ _), fun hba hbb w1 t u nm o ix st happ hx hq => ?_⟩
    have hval := AE.val_ne _ hbb
    have hba0 := hba
    have hbb0 := hbb
    simp only [AE.blocks, List.mem_cons, List.mem_append, not_or] at hba hbb
    exact q_then (kOne_mono _ _ _ _ _) hC hx hba0 hq (q_one hC ih happ hx hba0 hq y (by omega) hx.2.1 hba.2.2.1 hbb.2.2.1 (.inl hval) (hx.1.cell 0)) (fun w2 ha2 hx2 hq2 => q_list hC ih c y g cap args (fun z hz => by have := List.sizeOf_lt_of_mem hz; omega) ha2 hq2 hx2 hba0 hbb0) (kList_mono _ _ _)
theorem apply_quiet (hC : QCl ba fv b Q) (k : Nat) : QUpTo ba fv b Q k := by
  induction k with
  | zero => intro x hs; omega
  | succ k ih =>
  intro x hs w t u nm o ix st pv0 nm0 o0 nv0 happ hold hx hba hbb hpk hne hq
  obtain ⟨K, hF, hm, hK⟩ := q_kids hC ih x hs
  exact q_frame hC hF (fun w1 t u nm o ix st h1 h2 h3 => hK hba hbb w1 t u nm o ix st h1 h2 h3) hm happ hold hx hba hpk hne hq
end
end Go.Proofs.YtgimbgpebpippaaGreatDoor
