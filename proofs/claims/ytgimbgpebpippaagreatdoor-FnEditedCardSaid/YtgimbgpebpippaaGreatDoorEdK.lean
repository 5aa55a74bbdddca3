/- impl.Edited: the arguments and the visits that are due. -/
import Derived.Test.YtgimbgpebpippaaGreatDoorEdG
import Derived.Test.YtgimbgpebpippaaGreatDoorWalkI
namespace Go.Proofs.YtgimbgpebpippaaGreatDoor
open Go.RowKit
set_option maxRecDepth 100000
set_option maxHeartbeats 8000000
/-- A list of whole numbers in memory. -/
def IntsIn (w : World) (B : Nat) (A : Option Addr) (hs : List Int) : Prop := ∀ j u, hs[j]? = some u → ∃ gb off, A = some ⟨gb, off, none⟩ ∧ gb < B ∧ w.cell? ⟨gb, off + j, none⟩ = some (.int .i64 u)
/-- What impl.Edited answers. -/
def EdAns (ms : List Node) (vs : List Vst) (w : World) (e : Ending) (w' : World) : Prop := ∃ (A : Option Addr) (c : Nat) (ns : List ANode) (v : Value), e = .returned (.tuple #[.slice A ns.length c, v]) ∧ KidsIn w' w'.heap.size A 0 ns ∧ eraseL ns = ms ∧ LstS w' 0 54 6 vs.length v (cellsV vs) ∧ Below w.heap.size w w'
theorem implEdited_any (A : Option Addr) (ks : List ANode) (cap : Nat) (Ah : Option Addr) (hs : List Int) (ch : Nat) (w : World) (hin : KidsIn w w.heap.size A 0 ks) (hkl : ks.length ≤ 20) (hG : Glob w) (hv : VL (eraseL ks)) (hhs : ∀ u ∈ hs, 0 ≤ u ∧ u ≤ 5) (hhl : hs.length ≤ 9000000000000000000) (hints : IntsIn w w.heap.size Ah hs) :
    Calls Tryz.prog 25 #[.slice A ks.length cap, .slice Ah hs.length ch] w (EdAns (edL hs 0 (eraseL ks)) (edV hs 0 0 (eraseL ks)) w) := by
  have HX : Hid (∀ w', Below w.heap.size w w' → Calls Tryz.prog 50 #[.slice A ks.length cap] w' (MadeL (eraseL ks) w')) := fun w' h =>
    exprsOf_any (SizeOf.sizeOf ks + 1) (exprOf_any _) A ks cap w.heap.size w' (fun n hn => by have := List.sizeOf_lt_of_mem hn; omega) (hin.below h (Nat.le_refl _)) (by omega) h.size (hG.below h (Nat.le_refl _)) hv
  have H := Lib.hid (And.intro hG (And.intro hhs (And.intro hhl hints)))
  clear hin hv hG hhs hhl hints
  go_enter Tryz.func25, Tryz.ntmps25
  go_wp2_with fail
  refine (newIdent_any ⟨#[102]⟩ _).mono ?_
  rintro e w1 ⟨rfl, rfl⟩
  go_wp2_with fail
  refine (HX.out _ (by go_grown)).mono ?_
  rintro e w2 ⟨g, cp, xs, rfl, hso⟩
  have HS := Lib.hid hso
  clear hso
  go_wp2_with fail
  have HW1 : Hid (Below w.heap.size w ((w.alloc (.cells #[.slice Ah hs.length ch] 40)).alloc (.cells #[.int .i64 0, .string ⟨#[102]⟩, .pointer none] 83))) := by
    show Below _ _ _
    go_grown
  have hs1 : w.heap.size + 1 + 1 ≤ w2.heap.size := by have := HS.out.below.size; simpa only [World.size_alloc] using this
  have hxl : xs.length = ks.length := by have := congrArg List.length HS.out.node; rwa [nodeL_length, eraseL_length] at this
  have hglo : w.heap.size + 1 + 1 ≤ g ∧ g < w2.heap.size := ⟨by have := HS.out.lo; simpa only [World.size_alloc] using this, HS.out.row.lt⟩
  have hxb : ∀ k ∈ blocksL xs, w.heap.size + 1 + 1 ≤ k ∧ k < w2.heap.size := fun k hk => ⟨by have := HS.out.new.1 k hk; simpa only [World.size_alloc] using this, by
    obtain ⟨y, hy, hm⟩ := mem_blocksL' hk
    exact AE.In.lt y ((AEInL_iff _ _).1 HS.out.inn y hy) k hm⟩
  generalize hW : ((((w2.alloc (.cells #[.iface 79 (.pointer (some ⟨w.heap.size + 1, 0, none⟩)), .int .i64 0, .slice (some ⟨g, 0, none⟩) xs.length cp, .int .i64 0, .int .i64 0] 91)).alloc (.cells #[] 54)).alloc (.cells #[.pointer (some ⟨w2.heap.size, 0, none⟩)] 87)).alloc (.cells #[.slice (some ⟨w2.heap.size + 1, 0, none⟩) 0 0] 27)) = W
  have hWb : Below w2.heap.size w2 W := by
    rw [← hW]
    exact ((((Below.refl _ _).alloc (Nat.le_refl _) _).alloc (by rw [World.size_alloc]; omega) _).alloc (by rw [World.size_alloc, World.size_alloc]; omega) _).alloc (by rw [World.size_alloc, World.size_alloc, World.size_alloc]; omega) _
  have hw2W : Below w.heap.size w W := HW1.out.trans ((HS.out.below.mono HW1.out.size).trans (hWb.mono (by omega)))
  have k0 : Blk W w2.heap.size 91 #[.iface 79 (.pointer (some ⟨w.heap.size + 1, 0, none⟩)), .int .i64 0, .slice (some ⟨g, 0, none⟩) xs.length cp, .int .i64 0, .int .i64 0] := by
    rw [← hW]
    exact (((Blk.new w2 _ _).alloc _).alloc _).alloc _
  have k1 : Blk W (w2.heap.size + 1) 54 #[] := by
    rw [← hW]
    have := ((Blk.new (w2.alloc (.cells #[.iface 79 (.pointer (some ⟨w.heap.size + 1, 0, none⟩)), .int .i64 0, .slice (some ⟨g, 0, none⟩) xs.length cp, .int .i64 0, .int .i64 0] 91)) 54 #[]).alloc (.cells #[.pointer (some ⟨w2.heap.size, 0, none⟩)] 87)).alloc (.cells #[.slice (some ⟨w2.heap.size + 1, 0, none⟩) 0 0] 27)
    simpa only [World.size_alloc] using this
  have k2 : Blk W (w2.heap.size + 1 + 1) 87 #[.pointer (some ⟨w2.heap.size, 0, none⟩)] := by
    rw [← hW]
    have := (Blk.new ((w2.alloc (.cells #[.iface 79 (.pointer (some ⟨w.heap.size + 1, 0, none⟩)), .int .i64 0, .slice (some ⟨g, 0, none⟩) xs.length cp, .int .i64 0, .int .i64 0] 91)).alloc (.cells #[] 54)) 87 #[.pointer (some ⟨w2.heap.size, 0, none⟩)]).alloc (.cells #[.slice (some ⟨w2.heap.size + 1, 0, none⟩) 0 0] 27)
    simpa only [World.size_alloc] using this
  have k3 : Blk W (w2.heap.size + 1 + 1 + 1) 27 #[.slice (some ⟨w2.heap.size + 1, 0, none⟩) 0 0] := by
    rw [← hW]
    have := Blk.new (((w2.alloc (.cells #[.iface 79 (.pointer (some ⟨w.heap.size + 1, 0, none⟩)), .int .i64 0, .slice (some ⟨g, 0, none⟩) xs.length cp, .int .i64 0, .int .i64 0] 91)).alloc (.cells #[] 54)).alloc (.cells #[.pointer (some ⟨w2.heap.size, 0, none⟩)] 87)) 27 #[.slice (some ⟨w2.heap.size + 1, 0, none⟩) 0 0]
    simpa only [World.size_alloc] using this
  have kh : Blk W w.heap.size 40 #[.slice Ah hs.length ch] := by
    have h0 := (Blk.new w 40 #[.slice Ah hs.length ch]).alloc (.cells #[.int .i64 0, .string ⟨#[102]⟩, .pointer none] 83)
    exact (h0.below HS.out.below (by simp only [World.size_alloc]; omega)).below hWb (by omega)
  have kf : Blk W (w.heap.size + 1) 83 #[.int .i64 0, .string ⟨#[102]⟩, .pointer none] := by
    have h0 := Blk.new (w.alloc (.cells #[.slice Ah hs.length ch] 40)) 83 #[.int .i64 0, .string ⟨#[102]⟩, .pointer none]
    rw [World.size_alloc] at h0
    exact (h0.below HS.out.below (by simp only [World.size_alloc]; omega)).below hWb (by omega)
  have hall : ∀ k ∈ w2.heap.size :: g :: ((AE.ident (w.heap.size + 1) ⟨#[102]⟩).blocks ++ blocksL xs), w.heap.size < k ∧ k ≤ w2.heap.size := fun k hk => by
    simp only [AE.blocks, List.mem_cons, List.mem_append, List.not_mem_nil, or_false] at hk
    rcases hk with rfl | rfl | rfl | hk
    · omega
    · omega
    · omega
    · have := hxb k hk; omega
  have HA := Lib.hid (apply_edited (w0 := w) (w := W) (b := w2.heap.size) (bc := w2.heap.size + 1 + 1) (bo := w2.heap.size + 1 + 1 + 1) (bh := w.heap.size) (bf := w.heap.size + 1) (nmf := ⟨#[102]⟩) (args := xs) (A := Ah) (ch := ch) (hs := hs) (g := g) (cp := cp) (v := .slice (some ⟨w2.heap.size + 1, 0, none⟩) 0 0) H.out.1 H.out.2.1 H.out.2.2.1 (by omega)
    ⟨k0, ⟨by decide, kf⟩, ⟨HS.out.row.below hWb hglo.2, by omega⟩, (AEInL_iff _ _).2 (fun y hy => ((AEInL_iff _ _).1 HS.out.inn y hy).below hWb (Nat.le_refl _))⟩
    (by
      rw [List.nodup_cons]
      refine ⟨fun hm => ?_, ?_⟩
      · simp only [AE.blocks, List.mem_append, List.mem_singleton] at hm
        rcases hm with h | h
        · omega
        · have := hxb _ h; omega
      · simp only [AE.blocks, List.singleton_append, List.nodup_cons]
        exact ⟨fun h => by have := hxb _ h; omega, HS.out.new.2⟩)
    (by
      simp only [AE.blocks, List.mem_cons, List.mem_append, List.not_mem_nil, or_false, not_or]
      exact ⟨by omega, by omega, HS.out.out⟩)
    ⟨k2, ⟨k3, .inr ⟨w2.heap.size + 1, 0, rfl, ⟨rfl, Nat.le_refl _, Nat.zero_le _, #[], k1, rfl, rfl⟩, Nat.zero_le _⟩, by simp [Value.ownBlock]⟩, kh, fun j u hj => by
      obtain ⟨gb, off, h1, h2, h3⟩ := H.out.2.2.2 j u hj
      exact ⟨gb, off, h1, h2, (hw2W.cell (p := ⟨gb, off + j, none⟩) h2).trans h3⟩, ⟨by omega, by omega, Nat.le_refl _, fun k hk => by
      have e : k = w2.heap.size + 1 := List.mem_singleton.1 hk
      omega⟩, by omega, by omega, by omega, fun hk => by have e : _ = w2.heap.size + 1 := List.mem_singleton.1 hk; omega, fun hk => by have e : _ = w2.heap.size + 1 := List.mem_singleton.1 hk; omega⟩
    (fun k hk => by
      have := hall k hk
      exact ⟨by omega, by omega, by omega, by omega, fun hk => by have e : _ = w2.heap.size + 1 := List.mem_singleton.1 hk; omega⟩) hw2W)
  clear k0 k1 k2 k3 kh kf hWb hall hxb hW
  refine HA.out.mono ?_
  rintro e w5 ⟨rfl, g', cp', dn, v', hn, hcall, hown, hbel⟩
  have HNO : Hid (∀ w', Sm w5 w' → Calls Tryz.prog 38 #[.iface 87 (.pointer (some ⟨w2.heap.size, 0, none⟩))] w' (fun e w'' => ∃ (k t : ByteArray) (gb off c' : Nat) (rest : List ANode), e = .returned (.agg #[.string k, .string t, .slice (some ⟨gb, off, none⟩) (rest.length + 1) c']) ∧ rest.length + 1 ≤ c' ∧ c' ≤ maxLen ∧
      KidsIn w'' w''.heap.size (some ⟨gb, off + 3, none⟩) 0 rest ∧ eraseL rest = nodeL dn ∧ Below w5.heap.size w5 w'')) := fun w' hw => by
    have hG5 : Glob w' := ⟨fun i hi => (World.cell?_of_block (by rw [hw.1])).trans ((H.out.1.below hbel (Nat.le_refl _)).1 i hi), by rw [hw.1]; exact (H.out.1.below hbel (Nat.le_refl _)).2⟩
    refine (nodeOf_any _ (.call w2.heap.size (.ident (w.heap.size + 1) ⟨#[102]⟩) g' cp' dn) w' (Nat.lt_succ_self _) (AE.In.same _ (fun k _ => by rw [hw.1]) hcall) hG5).mono ?_
    rintro e w'' ⟨m, rfl, hmi, hme, _, hmb⟩
    obtain ⟨k, t, A', c', ms⟩ := m
    rw [ANode.erase, AE.node] at hme
    injection hme with e1 e2 e3
    match ms, hmi, e3 with
    | m0 :: rest, hmi, e3 =>
      rw [eraseL] at e3
      injection e3 with e3 e4
      obtain ⟨⟨gb, off, rfl, _⟩, _, hr⟩ := hmi.2.2.2.2
      refine ⟨k, t, gb, off, c', rest, rfl, hmi.2.2.1, hmi.2.2.2.1, hr.shift, e4, ?_⟩
      exact ⟨hmb.os.trans hw.2.1, hmb.tape.trans hw.2.2.1, hmb.output.trans hw.2.2.2, by rw [← hw.1]; exact hmb.size, fun x hx => by rw [hmb.block x (by rw [hw.1]; exact hx), hw.1]⟩
  have o0 : w5.cell? ⟨w2.heap.size + 1 + 1 + 1, 0, none⟩ = some v' := hown.outs.box.cell 0
  have zo := hown.outs.box.lt
  have H5 := Lib.hid (And.intro hn (And.intro hown hbel))
  clear hn hcall hown hbel
  have hfield : ∀ (k t : ByteArray) (A : Option Addr) (n c : Nat) (w : World), (Instr.field 24 (.agg #[.string k, .string t, .slice A n c]) 2).run Tryz.prog w = .ok (.slice A n c) w := fun k t A n c w => by kernel_rfl
  go_wp2_with fail
  go_region_law
    (first
      | (go_simp; go_at_call 38; refine (HNO.out _ (by exact ⟨rfl, rfl, rfl, rfl⟩)).mono ?_; rintro e w6 ⟨k, t, gb, off, c', rest, rfl, hc1, hc2, h1, h2, h3⟩; have o1 := (h3.cell (p := ⟨w2.heap.size + 1 + 1 + 1, 0, none⟩) zo).trans o0; have z1 := Nat.lt_of_lt_of_le zo h3.size; have qa : (1 : Int) ≤ (rest.length : Int) + 1 := by omega
         have HM := Lib.hid (And.intro hc1 (And.intro hc2 (And.intro h1 (And.intro h2 h3)))); clear hc1 hc2 h1 h2 h3))
  all_goals
    have hfin : Hid (KidsIn w6 w6.heap.size (if c' = 1 then some ⟨gb, off, none⟩ else some ⟨gb, off + 3, none⟩) 0 rest ∧ eraseL rest = edL hs 0 (eraseL ks) ∧ LstS w6 0 54 6 (edV hs 0 0 (eraseL ks)).length v' (cellsV (edV hs 0 0 (eraseL ks))) ∧ Below w.heap.size w w6) := by
      have hnode := HS.out.node
      refine ⟨?_, ?_, ?_, H5.out.2.2.trans (HM.out.2.2.2.2.mono H5.out.2.2.size)⟩
      · split
        · have hr : rest = [] := List.eq_nil_of_length_eq_zero (by have := HM.out.1; omega)
          rw [hr]
          trivial
        · exact HM.out.2.2.1
      · rw [HM.out.2.2.2.1, H5.out.1, hnode]
      · have := H5.out.2.1.outs.lst
        rw [hnode] at this
        exact this.kept (.of HM.out.2.2.2.2)
    generalize (if c' = 1 then some (⟨gb, off, none⟩ : Addr) else some ⟨gb, off + 3, none⟩) = ad at hfin ⊢
    go_wp2_with fail
    refine bodyPost_ret (v := .tuple #[.slice ad rest.length (c' - 1), v']) (by
      simp [results, Tryz.f25, Act.put]) rfl ?_
    exact ⟨ad, c' - 1, rest, v', rfl, hfin.out.1, hfin.out.2.1, hfin.out.2.2.1, hfin.out.2.2.2⟩
end Go.Proofs.YtgimbgpebpippaaGreatDoor
