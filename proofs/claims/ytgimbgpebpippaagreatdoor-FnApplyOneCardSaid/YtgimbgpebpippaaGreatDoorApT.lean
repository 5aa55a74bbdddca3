/- impl.Applied: the visits of the walk. -/
import Derived.Test.YtgimbgpebpippaaGreatDoorApS
import Derived.Test.YtgimbgpebpippaaGreatDoorApQ2
import Derived.Test.YtgimbgpebpippaaGreatDoorWalkF
namespace Go.Proofs.YtgimbgpebpippaaGreatDoor
open Go.RowKit
set_option maxRecDepth 100000
set_option maxHeartbeats 4000000

/-! how many calls there are -/
mutual
theorem size_cnt : ∀ (n : Node) (m d : Int), cnt n m d ≤ m → (n.size : Int) = 2 * cnt n m d
  | .mk _ _ ks, m, d, h => by
    have := sizeL_cnt ks m d 1 (by simpa only [cnt] using h)
    simp only [Node.size, cnt]; omega
theorem sizeL_cnt : ∀ (ks : List Node) (m d c : Int), cntL ks m d c ≤ m → (sizeL ks : Int) = 2 * (cntL ks m d c - c)
  | [], m, d, c, h => by simp only [sizeL, cntL]; omega
  | n :: ns, m, d, c, h => by
    simp only [cntL] at h ⊢
    split at h
    · omega
    · rename_i hc
      rw [if_neg hc]
      have h2 := sizeL_cnt ns m d _ h
      have h3 := cntL_ge ns m d _ h
      have h1 := size_cnt n (m - c) (d - 1) (by omega)
      simp only [sizeL]; omega
end
/-- A tree that is small. -/
def Small (n : Node) : Prop := cnt n 4000 26 ≤ 4000
abbrev top : Spot := ⟨sEmpty, -1, sEmpty⟩
abbrev s0 : VSt := ⟨[], 0⟩
theorem bd_of_small {q : Ask} {n : Node} (h : Small n) : Bd (walkN q n top s0) := by
  have h1 := size_cnt n 4000 26 h
  have h2 := walkN_len q n top s0
  unfold Small at h
  unfold Bd
  simp only [List.length_nil] at h2
  omega
/-- Visits that a call answers, in a row. -/
def MadeV (vs : List Vst) (w : World) (e : Ending) (w' : World) : Prop := ∃ v, e = .returned v ∧ LstS w' 0 54 6 vs.length v (cellsV vs) ∧ Below w.heap.size w w'
theorem Tryz.calls1 (args : Array Value) (w : World) : (callFunc 31 args).run Tryz.prog w = .ok (.enter 31 args) w := by kernel_rfl
theorem Tryz.calls2 (args : Array Value) (w : World) : (callFunc 33 args).run Tryz.prog w = .ok (.enter 33 args) w := by kernel_rfl
abbrev fnA1 (bo bs : Nat) : Value := .func (.func 31) #[] #[.pointer (some ⟨bo, 0, none⟩), .pointer (some ⟨bs, 0, none⟩)]
abbrev fnA2 (bo be bt : Nat) : Value := .func (.func 33) #[] #[.pointer (some ⟨bo, 0, none⟩), .pointer (some ⟨be, 0, none⟩), .pointer (some ⟨bt, 0, none⟩)]
theorem clientA {q : Ask} (h1 : q.pre = true) (h2 : q.post = true) (ba bo be bs bt : Nat) : Client q ba (fnA1 bo bs) (fnA2 bo be bt) (ClA q bo be bs bt) where
  kept := fun s w w' own h _ hb => h.same hb
  lt := fun s w own h => h.lt
  pre := fun _ => ⟨_, _, rfl, Tryz.calls1, fun w s own x p pv nm it ix st idx hC hl hat => applied1_any h1 hC hl hat⟩
  nopre := fun h => by rw [h1] at h; cases h
  post := fun _ => ⟨_, _, rfl, Tryz.calls2, fun w s own x p pv nm it ix st idx hC hl he he0 hat => applied2_any h2 hC hl he he0 hat⟩
  nopost := fun h => by rw [h2] at h; cases h
theorem applied_any (n : ANode) (skip : ByteArray) (stop : Int) (w : World) (L : Nat) (hin : n.In w L) (hL : L ≤ w.heap.size) (hG : Glob w) (hV : V n.erase) (hS : Small n.erase) :
    Calls Tryz.prog 13 #[n.val, .string skip, .int .i64 stop] w (MadeV (walkN ⟨skip, stop, true, true⟩ n.erase top s0).1.calls w) := by
  have HIN := Lib.hid (And.intro hin (And.intro hG (And.intro hV hS)))
  have hmf : ∀ (fn : Fn) (first cap : Array Value) (w : World), (Instr.makeFunc fn first cap).run Tryz.prog w = .ok (.func fn first cap) w := fun _ _ _ _ => rfl
  unfold ANode.val
  clear hin hG hV hS
  go_enter Tryz.func13, Tryz.ntmps13
  go_wp2_with fail
  have hci : ClA ⟨skip, stop, true, true⟩ (w.heap.size + 1 + 1 + 1 + 1) (w.heap.size + 1 + 1 + 1 + 1 + 1) (w.heap.size + 1) (w.heap.size + 1 + 1) s0 ((((((w.alloc (.cells #[.string n.kind, .string n.text, .slice n.addr n.kids.length n.cap] 24)).alloc (.cells #[.string skip] 9)).alloc (.cells #[.int .i64 stop] 2)).alloc (.cells #[] 54)).alloc (.cells #[.slice (some ⟨w.heap.size + 1 + 1 + 1, 0, none⟩) 0 0] 27)).alloc (.cells #[.int .i64 0] 2)) [w.heap.size + 1 + 1 + 1 + 1, w.heap.size + 1 + 1 + 1 + 1 + 1, w.heap.size + 1, w.heap.size + 1 + 1, w.heap.size + 1 + 1 + 1] := by
    have b1 : Blk ((((((w.alloc (.cells #[.string n.kind, .string n.text, .slice n.addr n.kids.length n.cap] 24)).alloc (.cells #[.string skip] 9)).alloc (.cells #[.int .i64 stop] 2)).alloc (.cells #[] 54)).alloc (.cells #[.slice (some ⟨w.heap.size + 1 + 1 + 1, 0, none⟩) 0 0] 27)).alloc (.cells #[.int .i64 0] 2)) (w.heap.size + 1) 9 #[.string skip] := by
      have := ((((Blk.new (w.alloc (.cells #[.string n.kind, .string n.text, .slice n.addr n.kids.length n.cap] 24)) 9 #[.string skip]).alloc (.cells #[.int .i64 stop] 2)).alloc (.cells #[] 54)).alloc (.cells #[.slice (some ⟨w.heap.size + 1 + 1 + 1, 0, none⟩) 0 0] 27)).alloc (.cells #[.int .i64 0] 2)
      simpa only [World.size_alloc] using this
    have b2 : Blk ((((((w.alloc (.cells #[.string n.kind, .string n.text, .slice n.addr n.kids.length n.cap] 24)).alloc (.cells #[.string skip] 9)).alloc (.cells #[.int .i64 stop] 2)).alloc (.cells #[] 54)).alloc (.cells #[.slice (some ⟨w.heap.size + 1 + 1 + 1, 0, none⟩) 0 0] 27)).alloc (.cells #[.int .i64 0] 2)) (w.heap.size + 1 + 1) 2 #[.int .i64 stop] := by
      have := (((Blk.new ((w.alloc (.cells #[.string n.kind, .string n.text, .slice n.addr n.kids.length n.cap] 24)).alloc (.cells #[.string skip] 9)) 2 #[.int .i64 stop]).alloc (.cells #[] 54)).alloc (.cells #[.slice (some ⟨w.heap.size + 1 + 1 + 1, 0, none⟩) 0 0] 27)).alloc (.cells #[.int .i64 0] 2)
      simpa only [World.size_alloc] using this
    have b3 : Row ((((((w.alloc (.cells #[.string n.kind, .string n.text, .slice n.addr n.kids.length n.cap] 24)).alloc (.cells #[.string skip] 9)).alloc (.cells #[.int .i64 stop] 2)).alloc (.cells #[] 54)).alloc (.cells #[.slice (some ⟨w.heap.size + 1 + 1 + 1, 0, none⟩) 0 0] 27)).alloc (.cells #[.int .i64 0] 2)) (w.heap.size + 1 + 1 + 1) 54 6 0 [] 0 := by
      have h0 := Row.new (((w.alloc (.cells #[.string n.kind, .string n.text, .slice n.addr n.kids.length n.cap] 24)).alloc (.cells #[.string skip] 9)).alloc (.cells #[.int .i64 stop] 2)) 54 6 #[] 0 rfl (Nat.zero_le _)
      have h1 := h0.same ((Below.heap_alloc _ (.cells #[.slice (some ⟨w.heap.size + 1 + 1 + 1, 0, none⟩) 0 0] 27) _ h0.lt))
      have h2 := h1.same ((Below.heap_alloc _ (.cells #[.int .i64 0] 2) _ h1.lt))
      simpa only [World.size_alloc] using h2
    have b4 : Blk ((((((w.alloc (.cells #[.string n.kind, .string n.text, .slice n.addr n.kids.length n.cap] 24)).alloc (.cells #[.string skip] 9)).alloc (.cells #[.int .i64 stop] 2)).alloc (.cells #[] 54)).alloc (.cells #[.slice (some ⟨w.heap.size + 1 + 1 + 1, 0, none⟩) 0 0] 27)).alloc (.cells #[.int .i64 0] 2)) (w.heap.size + 1 + 1 + 1 + 1) 27 #[.slice (some ⟨w.heap.size + 1 + 1 + 1, 0, none⟩) 0 0] := by
      have := (Blk.new ((((w.alloc (.cells #[.string n.kind, .string n.text, .slice n.addr n.kids.length n.cap] 24)).alloc (.cells #[.string skip] 9)).alloc (.cells #[.int .i64 stop] 2)).alloc (.cells #[] 54)) 27 #[.slice (some ⟨w.heap.size + 1 + 1 + 1, 0, none⟩) 0 0]).alloc (.cells #[.int .i64 0] 2)
      simpa only [World.size_alloc] using this
    have b5 : Blk ((((((w.alloc (.cells #[.string n.kind, .string n.text, .slice n.addr n.kids.length n.cap] 24)).alloc (.cells #[.string skip] 9)).alloc (.cells #[.int .i64 stop] 2)).alloc (.cells #[] 54)).alloc (.cells #[.slice (some ⟨w.heap.size + 1 + 1 + 1, 0, none⟩) 0 0] 27)).alloc (.cells #[.int .i64 0] 2)) (w.heap.size + 1 + 1 + 1 + 1 + 1) 2 #[.int .i64 0] := by
      have := Blk.new (((((w.alloc (.cells #[.string n.kind, .string n.text, .slice n.addr n.kids.length n.cap] 24)).alloc (.cells #[.string skip] 9)).alloc (.cells #[.int .i64 stop] 2)).alloc (.cells #[] 54)).alloc (.cells #[.slice (some ⟨w.heap.size + 1 + 1 + 1, 0, none⟩) 0 0] 27)) 2 #[.int .i64 0]
      simpa only [World.size_alloc] using this
    have hr : rowOf (.slice (some ⟨w.heap.size + 1 + 1 + 1, 0, none⟩) 0 0) = [w.heap.size + 1 + 1 + 1] := rfl
    refine ⟨⟨.slice (some ⟨w.heap.size + 1 + 1 + 1, 0, none⟩) 0 0, rfl, ⟨b4, .inr ⟨_, 0, rfl, b3, Nat.zero_le _⟩, ?_⟩, ?_, ?_, ?_⟩, b5, b1, b2, ?_⟩
    · simp only [Value.ownBlock, ne_eq, Option.some.injEq]; omega
    · rw [hr, List.mem_singleton]; omega
    · rw [hr, List.mem_singleton]; omega
    · rw [hr, List.mem_singleton]; omega
    · refine ⟨?_, ?_, ?_, ?_, ?_⟩ <;> omega
  have hb6 : Below w.heap.size w ((((((w.alloc (.cells #[.string n.kind, .string n.text, .slice n.addr n.kids.length n.cap] 24)).alloc (.cells #[.string skip] 9)).alloc (.cells #[.int .i64 stop] 2)).alloc (.cells #[] 54)).alloc (.cells #[.slice (some ⟨w.heap.size + 1 + 1 + 1, 0, none⟩) 0 0] 27)).alloc (.cells #[.int .i64 0] 2)) := by go_grown
  have hs6 : ((((((w.alloc (.cells #[.string n.kind, .string n.text, .slice n.addr n.kids.length n.cap] 24)).alloc (.cells #[.string skip] 9)).alloc (.cells #[.int .i64 stop] 2)).alloc (.cells #[] 54)).alloc (.cells #[.slice (some ⟨w.heap.size + 1 + 1 + 1, 0, none⟩) 0 0] 27)).alloc (.cells #[.int .i64 0] 2)).heap.size = w.heap.size + 1 + 1 + 1 + 1 + 1 + 1 := by simp only [World.size_alloc]
  generalize ((((((w.alloc (.cells #[.string n.kind, .string n.text, .slice n.addr n.kids.length n.cap] 24)).alloc (.cells #[.string skip] 9)).alloc (.cells #[.int .i64 stop] 2)).alloc (.cells #[] 54)).alloc (.cells #[.slice (some ⟨w.heap.size + 1 + 1 + 1, 0, none⟩) 0 0] 27)).alloc (.cells #[.int .i64 0] 2)) = w6 at hci hb6 hs6 ⊢
  have H6 := Lib.hid (And.intro hci (And.intro hb6 hs6))
  clear hci hb6 hs6
  refine (exprOf_any (SizeOf.sizeOf n + 1) n w6 L (Nat.lt_succ_self _) (HIN.out.1.below H6.out.2.1 hL) (Nat.le_trans hL H6.out.2.1.size) (HIN.out.2.1.below H6.out.2.1 (Nat.le_refl _)) HIN.out.2.2.1).mono ?_
  rintro e w7 ⟨x, he, hxin, hxn, hxnew, hb7⟩
  obtain ⟨tx, vx, hx⟩ := x.val_one
  have hci7 : ClA ⟨skip, stop, true, true⟩ (w.heap.size + 1 + 1 + 1 + 1) (w.heap.size + 1 + 1 + 1 + 1 + 1) (w.heap.size + 1) (w.heap.size + 1 + 1) s0 w7 [w.heap.size + 1 + 1 + 1 + 1, w.heap.size + 1 + 1 + 1 + 1 + 1, w.heap.size + 1, w.heap.size + 1 + 1, w.heap.size + 1 + 1 + 1] := H6.out.1.same (fun k hk => hb7.block k (H6.out.1.lt k hk))
  have hax : ∀ b ∈ x.blocks, b ∉ [w.heap.size + 1 + 1 + 1 + 1, w.heap.size + 1 + 1 + 1 + 1 + 1, w.heap.size + 1, w.heap.size + 1 + 1, w.heap.size + 1 + 1 + 1] := fun b hb => by
    have h1 := hxnew.1 b hb
    have h2 := H6.out.2.2
    simp only [List.mem_cons, List.not_mem_nil, or_false]
    omega
  have hgo : 0 ∉ [w.heap.size + 1 + 1 + 1 + 1, w.heap.size + 1 + 1 + 1 + 1 + 1, w.heap.size + 1, w.heap.size + 1 + 1, w.heap.size + 1 + 1 + 1] := by
    have := HIN.out.2.1.2
    simp only [List.mem_cons, List.not_mem_nil, or_false]
    omega
  have hb07 : Below w.heap.size w w7 := H6.out.2.1.trans (hb7.mono H6.out.2.1.size)
  have hal := apply_look (q := ⟨skip, stop, true, true⟩) (w := w7) x _ s0 (clientA rfl rfl (w7.heap.size + 1 + 1 + 1) (w.heap.size + 1 + 1 + 1 + 1) (w.heap.size + 1 + 1 + 1 + 1 + 1) (w.heap.size + 1) (w.heap.size + 1 + 1)) ⟨.inr ⟨_, _, rfl⟩, .inr ⟨_, _, rfl⟩⟩ hci7 hxin (HIN.out.2.1.below hb07 (Nat.le_refl _)) hax hgo (by rw [hxn]; exact bd_of_small HIN.out.2.2.2) (Int.le_refl _)
  rw [hx, hxn] at hal
  rw [hx] at he
  subst he
  have HA := Lib.hid (And.intro hal (And.intro hb07 hci7))
  have hz7 := hb7.size
  have hs6 := H6.out.2.2
  have HS := Lib.hid (And.intro hz7 hs6)
  clear hal hb07 hci7 hax hgo hxin hxn hxnew hb7 hz7 hs6
  go_wp2_with fail
  refine HA.out.1.mono ?_
  rintro e w8 ⟨own', v, rfl, hci8, hk8, hg8⟩
  obtain ⟨v8, hov, ho8, _⟩ := hci8.ex
  have c8 : w8.cell? ⟨w.heap.size + 1 + 1 + 1 + 1, 0, none⟩ = some v8 := ho8.box.cell 0
  have z8 := ho8.box.lt
  have hb8 : Below w.heap.size w7 w8 := hk8.below (by have := HS.out; omega) (fun k hk => by simp only [List.mem_cons, List.not_mem_nil, or_false] at hk; omega)
  have H8 := Lib.hid (And.intro ho8 (HA.out.2.1.trans hb8))
  clear hci8 hk8 hg8 hov ho8 hb8
  go_wp2_with fail
  go_ret
  exact ⟨v8, rfl, H8.out.1.lst, H8.out.2⟩
end Go.Proofs.YtgimbgpebpippaaGreatDoor
