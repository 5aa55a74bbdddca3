/- spec.Edited: the arguments and the visits that are due. -/
import Derived.Test.YtgimbgpebpippaaGreatDoorEdK
import Derived.Test.YtgimbgpebpippaaGreatDoorRqA
namespace Go.Proofs.YtgimbgpebpippaaGreatDoor
open Go.RowKit
set_option maxRecDepth 100000
set_option maxHeartbeats 8000000
def Spot.agg (p : Spot) : Value := .agg #[.string p.field, .int .i64 p.index, .string p.parent]
theorem specVisit_any (kd tx : ByteArray) (A : Option Addr) (l cp : Nat) (p : Spot) (post : Bool) (w : World) : Calls Tryz.prog 49 #[.agg #[.string kd, .string tx, .slice A l cp], p.agg, .bool post] w fun e w' => e = .returned (Vst.agg ⟨post, kd, tx, p⟩) ∧ Below w.heap.size w w' := by
  obtain ⟨f, i, pk⟩ := p
  unfold Spot.agg Vst.agg
  go_enter Tryz.func49, Tryz.ntmps49
  go_wp2_with fail
  have hb := Blk.new ((w.alloc (.cells #[.string kd, .string tx, .slice A l cp] 24)).alloc (.cells #[.string f, .int .i64 i, .string pk] 69)) 54 #[.bool post, .string kd, .string tx, .string f, .int .i64 i, .string pk]
  simp only [World.size_alloc] at hb
  refine bodyPost_ret (results_struct rfl rfl (load_vst hb rfl rfl rfl rfl rfl rfl)) rfl ?_
  exact ⟨rfl, by go_grown⟩
/-- The two lists of spec.Edited. -/
structure St0 (w : World) (n m : Nat) (ms : List Node) (vs : List Vst) (wx : World) (o vv : Value) (ns : List ANode) : Prop where
  nso : NsO w.heap.size w.heap.size ms wx o ns
  old : ∀ b ∈ rbL ns, b < w.heap.size
  nl : ms.length = n ∧ vs.length = m
  vl : LstS wx w.heap.size 54 6 m vv (cellsV vs)
  ne : ∀ g, o.ownBlock = some g → vv.ownBlock ≠ some g
  bel : Below w.heap.size w wx
/-- And a node that lies by. -/
structure St (w : World) (kb : Nat) (kc : Array Value) (n m : Nat) (ms : List Node) (vs : List Vst) (wx : World) (o vv : Value) (ns : List ANode) : Prop where
  s : St0 w n m ms vs wx o vv ns
  kid : Blk wx kb 24 kc
  kbn : w.heap.size ≤ kb ∧ o.ownBlock ≠ some kb ∧ vv.ownBlock ≠ some kb
section
variable {w wx wy w3 : World} {kb n m : Nat} {kc : Array Value} {ms : List Node} {vs : List Vst} {o vv : Value} {ns : List ANode}
theorem St0.more (h : St0 w n m ms vs wx o vv ns) (hb : Below wx.heap.size wx wy) : St0 w n m ms vs wy o vv ns :=
  ⟨h.nso.more hb, h.old, h.nl, h.vl.same (fun g hg => hb.block g (h.vl.lt g hg).1), h.ne, h.bel.trans (hb.mono h.bel.size)⟩
theorem St.more (h : St w kb kc n m ms vs wx o vv ns) (hb : Below wx.heap.size wx wy) : St w kb kc n m ms vs wy o vv ns := ⟨h.s.more hb, h.kid.below hb h.kid.lt, h.kbn⟩
theorem St0.kid (h : St0 w n m ms vs wx o vv ns) (kc : Array Value) : St w wx.heap.size kc n m ms vs (wx.alloc (.cells kc 24)) o vv ns :=
  ⟨h.more ((Below.refl _ _).alloc (Nat.le_refl _) _), Blk.new wx _ _, h.bel.size, fun e => Nat.lt_irrefl _ (h.nso.lst.lt _ e).1, fun e => Nat.lt_irrefl _ (h.vl.lt _ e).1⟩
theorem St0.lst (h : St0 w n m ms vs wx o vv ns) : LstS wx w.heap.size 24 3 n o (cellsN ns) := by
  have := h.nso.lst
  rwa [h.nl.1] at this
/-- One node more. -/
theorem St.node {g' cap' : Nat} {x : ANode} {ob : Obj} (h : St w kb kc n m ms vs wx o vv ns) (hin : x.In wx wx.heap.size) (hrb : ∀ b ∈ x.rb, b < w.heap.size) (hg : (wx.alloc ob).grownBy w3 o.ownBlock) (hg' : o.ownBlock = some g' ∨ g' = (wx.alloc ob).heap.size)
    (hrow : Row w3 g' 24 3 (n + 1) (cellsN ns ++ cellsN [x]) cap') : St w kb kc (n + 1) m (ms ++ [x.erase]) vs w3 (.slice (some ⟨g', 0, none⟩) (n + 1) cap') vv (ns ++ [x]) := by
  have ha : Below wx.heap.size wx (wx.alloc ob) := (Below.refl _ _).alloc (Nat.le_refl _) _
  have hst := h.s.nso.step (m := x.erase) (Nat.le_refl _) h.s.bel.size hin rfl (fun b hb => .inl (hrb b hb)) (Below.refl _ _) ha hg hg' (by rw [h.s.nl.1]; exact hrow)
  rw [h.s.nl.1] at hst
  have hsz := hg.size
  rw [World.size_alloc] at hsz
  have hbl : ∀ k, k < wx.heap.size → o.ownBlock ≠ some k → w3.heap[k]? = wx.heap[k]? := fun k hk hn => (hg.block k (by rw [World.size_alloc]; omega) (fun e => hn e.symm)).trans (ha.block k hk)
  have hne : ∀ k, k < wx.heap.size → o.ownBlock ≠ some k → g' ≠ k := fun k hk hn e => by
    rcases hg' with e1 | e1
    · exact hn (by rw [e1, e])
    · rw [World.size_alloc] at e1; omega
  refine ⟨⟨hst, fun b hb => ?_, ⟨by rw [List.length_append, h.s.nl.1]; rfl, h.s.nl.2⟩, h.s.vl.same (fun g hg2 => hbl g (h.s.vl.lt g hg2).1 (fun e => h.s.ne g e hg2)), fun g hg2 hg3 => ?_, ?_⟩, h.kid.same (hbl _ h.kid.lt h.kbn.2.1), ⟨h.kbn.1, ?_, h.kbn.2.2⟩⟩
  · rw [rbL_append, List.mem_append] at hb
    rcases hb with hb | hb
    · exact h.s.old b hb
    · rw [rbL, rbL, List.append_nil] at hb
      exact hrb b hb
  · simp only [Value.ownBlock, Option.some.injEq] at hg2
    subst hg2
    exact hne _ (h.s.vl.lt _ hg3).1 (fun e => h.s.ne _ e hg3) rfl
  · have h1' := h.s.bel.trans (ha.mono h.s.bel.size)
    exact h1'.grown hg (by rw [World.size_alloc]; have := h.s.bel.size; omega) (fun k hk => (h.s.nso.lst.lt k hk).2)
  · simp only [Value.ownBlock, ne_eq, Option.some.injEq]
    exact hne _ h.kid.lt h.kbn.2.1
/-- One visit more. -/
theorem St.vis {g' cap' : Nat} {x : Vst} {ob : Obj} (h : St w kb kc n m ms vs wx o vv ns) (hg : (wx.alloc ob).grownBy w3 vv.ownBlock) (hg' : vv.ownBlock = some g' ∨ g' = (wx.alloc ob).heap.size)
    (hrow : Row w3 g' 54 6 (m + 1) (cellsV vs ++ x.cells) cap') : St w kb kc n (m + 1) ms (vs ++ [x]) w3 o (.slice (some ⟨g', 0, none⟩) (m + 1) cap') ns := by
  have ha : Below wx.heap.size wx (wx.alloc ob) := (Below.refl _ _).alloc (Nat.le_refl _) _
  have hsz := hg.size
  rw [World.size_alloc] at hsz
  have hbl : ∀ k, k < wx.heap.size → vv.ownBlock ≠ some k → w3.heap[k]? = wx.heap[k]? := fun k hk hn => (hg.block k (by rw [World.size_alloc]; omega) (fun e => hn e.symm)).trans (ha.block k hk)
  have hne : ∀ k, k < wx.heap.size → vv.ownBlock ≠ some k → g' ≠ k := fun k hk hn e => by
    rcases hg' with e1 | e1
    · exact hn (by rw [e1, e])
    · rw [World.size_alloc] at e1; omega
  have hge : w.heap.size ≤ g' := by
    rcases hg' with e1 | e1
    · exact (h.s.vl.lt _ e1).2
    · rw [World.size_alloc] at e1
      have := h.s.bel.size
      omega
  have hn1 := h.s.nso
  refine ⟨⟨⟨hn1.lst.same (fun g hg2 => hbl g (hn1.lst.lt g hg2).1 (h.s.ne g hg2)), fun y hy => ANode.In.samer y (fun b hb => hbl b (ANode.In.rb_lt y (hn1.inn y hy) b hb) (fun e => by have := (h.s.vl.lt _ e).2; have := h.s.old b (mem_rbL hy hb); omega)) (ANode.In.more (by omega) y (hn1.inn y hy)), hn1.node, hn1.rb, hn1.out⟩, h.s.old, ⟨h.s.nl.1, by rw [List.length_append, h.s.nl.2]; rfl⟩, ?_, fun g hg2 hg3 => ?_, ?_⟩, h.kid.same (hbl _ h.kid.lt h.kbn.2.2), ⟨h.kbn.1, h.kbn.2.1, ?_⟩⟩
  · refine .inr ⟨g', cap', rfl, ?_, hge⟩
    have e : cellsV (vs ++ [x]) = cellsV vs ++ x.cells := by simp [cellsV_append, cellsV]
    rw [e]
    exact hrow
  · simp only [Value.ownBlock, Option.some.injEq] at hg3
    subst hg3
    exact hne _ (hn1.lst.lt _ hg2).1 (h.s.ne _ hg2) rfl
  · have h1' := h.s.bel.trans (ha.mono h.s.bel.size)
    exact h1'.grown hg (by rw [World.size_alloc]; have := h.s.bel.size; omega) (fun k hk => (h.s.vl.lt k hk).2)
  · simp only [Value.ownBlock, ne_eq, Option.some.injEq]
    exact hne _ h.kid.lt h.kbn.2.2
end
/-- What spec.Edited answers. -/
def SpAns (ms : List Node) (vs : List Vst) (w : World) (e : Ending) (w' : World) : Prop := ∃ (A : Option Addr) (c : Nat) (ns : List ANode) (v : Value), e = .returned (.tuple #[.slice A ns.length c, v]) ∧ KidsIn w' w'.heap.size A 0 ns ∧ eraseL ns = ms ∧ LstS w' 0 54 6 vs.length v (cellsV vs) ∧ Below w.heap.size w w'
theorem edL_take {hs : List Int} {ks : List ANode} {j : Nat} {c : ANode} (h : ks[j]? = some c) : edL hs 0 ((eraseL ks).take (j + 1)) = edL hs 0 ((eraseL ks).take j) ++ edN (howAt hs j) c.erase ∧
    edV hs 0 0 ((eraseL ks).take (j + 1)) = edV hs 0 0 ((eraseL ks).take j) ++ [⟨false, c.kind, c.text, ⟨fArgs, ((edL hs 0 ((eraseL ks).take j)).length : Int), sCall⟩⟩] := by
  have hj : j < ks.length := by
    rcases Nat.lt_or_ge j ks.length with h1 | h1
    · exact h1
    · rw [List.getElem?_eq_none h1] at h; cases h
  have hl : ((eraseL ks).take j).length = j := by rw [List.length_take, eraseL_length]; omega
  rw [take_erase h, edL_append, edV_append, hl]
  constructor
  · rw [edL, edL, List.append_nil, Nat.zero_add]
  · rw [edV, edV, Nat.zero_add, ANode.erase_kind, ANode.erase_text]
theorem specEdited_any (A : Option Addr) (ks : List ANode) (cap : Nat) (Ah : Option Addr) (hs : List Int) (ch : Nat) (w : World) (hin : KidsIn w w.heap.size A 0 ks) (hkl : ks.length ≤ 20) (hhs : ∀ u ∈ hs, 0 ≤ u ∧ u ≤ 5) (_hhl : hs.length ≤ 9000000000000000000) (hints : IntsIn w w.heap.size Ah hs) :
    Calls Tryz.prog 24 #[.slice A ks.length cap, .slice Ah hs.length ch] w (SpAns (edL hs 0 (eraseL ks)) (edV hs 0 0 (eraseL ks)) w) := by
  obtain ⟨i0, hi0, hz0, hz1, hz2⟩ := info_parts Tryz.infoNode
  obtain ⟨v0, gi0, gz0, gz1, gz2⟩ := info_parts Tryz.infoVisit
  have HI := Lib.hid (And.intro hi0 (And.intro hz0 (And.intro hz1 hz2)))
  have HV := Lib.hid (And.intro gi0 (And.intro gz0 (And.intro gz1 gz2)))
  have H := Lib.hid (And.intro hin (And.intro hhs hints))
  clear hi0 hz0 hz1 hz2 gi0 gz0 gz1 gz2 hin hhs hints
  go_enter Tryz.func24, Tryz.ntmps24
  go_wp2_with fail
  go_loopw [6, 7, 15] (fun o vv i wr => ∃ (j n : Nat) (A1 : Option Addr) (c1 : Nat) (A2 : Option Addr) (c2 : Nat), j ≤ ks.length ∧ i = .int .i64 j ∧ o = .slice A1 n c1 ∧ vv = .slice A2 j c2 ∧ n ≤ 60 ∧
    Hid (∃ ns, St0 w n j (edL hs 0 ((eraseL ks).take j)) (edV hs 0 0 ((eraseL ks).take j)) wr (.slice A1 n c1) (.slice A2 j c2) ns)) (fun _ _ i _ => ks.length - (intOf i).toNat)
  case atStart =>
    refine ⟨0, 0, _, 0, _, 0, Nat.zero_le _, rfl, rfl, rfl, Nat.zero_le _, Lib.hid ⟨[], ⟨.inr ⟨w.heap.size, 0, rfl, ?_, Nat.le_refl _⟩, fun y hy => (by cases hy), rfl, fun b hb => (by cases hb), fun g _ hm => (by cases hm)⟩, fun b hb => (by cases hb), ⟨rfl, rfl⟩, .inr ⟨w.heap.size + 1, 0, rfl, ?_, Nat.le_succ _⟩, fun g e1 e2 => ?_, by go_grown⟩⟩
    · exact ⟨rfl, Nat.le_refl _, Nat.zero_le _, #[], (Blk.new w _ _).alloc _, rfl, rfl⟩
    · have h1 := Blk.new (w.alloc (.cells #[] 24)) 54 #[]
      rw [World.size_alloc] at h1
      exact ⟨rfl, Nat.le_refl _, Nat.zero_le _, #[], h1, rfl, rfl⟩
    · simp only [Value.ownBlock, Option.some.injEq] at e1 e2
      omega
  case round =>
    obtain ⟨j, n, A1, c1, A2, c2, hj, rfl, rfl, rfl, hn60, hst⟩ := hrel
    obtain ⟨ns, hst⟩ := hst.out
    have hbw := hst.bel
    by_cases hjl : j < ks.length
    · obtain ⟨c, hc⟩ : ∃ c, ks[j]? = some c := ⟨ks[j], List.getElem?_eq_getElem hjl⟩
      obtain ⟨hkat, hcin⟩ := H.out.1.get hc
      rw [Nat.zero_add] at hkat
      obtain ⟨b, off, rfl, hbL, k0, k1, k2⟩ := hkat
      have k0' := (hbw.cell (p := ⟨b, off + j * 3, none⟩) (by show b < _; omega)).trans k0
      have k1' := (hbw.cell (p := ⟨b, off + j * 3 + 1, none⟩) (by show b < _; omega)).trans k1
      have k2' := (hbw.cell (p := ⟨b, off + j * 3 + 2, none⟩) (by show b < _; omega)).trans k2
      have zz := hbw.size
      have q1 : (0 : Int) ≤ (j : Int) := by omega
      have q2 : (j : Int) < (ks.length : Int) := by omega
      have HS0 := Lib.hid (hst.kid #[.string c.kind, .string c.text, .slice c.addr c.kids.length c.cap])
      have HT := Lib.hid (edL_take (hs := hs) hc)
      have HNL := Lib.hid (hst.nl)
      have HC := Lib.hid (And.intro hcin (ANode.In.rb_lt c hcin))
      have HBW := Lib.hid hbw
      clear k0 k1 k2 hc hcin hst
      have HSV : Hid (∀ w', Calls Tryz.prog 49 #[.agg #[.string c.kind, .string c.text, .slice c.addr c.kids.length c.cap], .agg #[.string ⟨#[65, 114, 103, 115]⟩, .int .i64 n, .string ⟨#[99, 97, 108, 108]⟩], .bool false] w' fun e w'' => e = .returned (Vst.agg ⟨false, c.kind, c.text, ⟨fArgs, (n : Int), sCall⟩⟩) ∧ Below w'.heap.size w' w'') := fun w' => specVisit_any c.kind c.text c.addr c.kids.length c.cap ⟨fArgs, (n : Int), sCall⟩ false w'
      clear hbw
      by_cases hjh : j < hs.length
      · obtain ⟨u, hu⟩ : ∃ u, hs[j]? = some u := ⟨_, List.getElem?_eq_getElem hjh⟩
        obtain ⟨gb, offh, hA, hgb, hcell⟩ := H.out.2.2 j u hu
        subst hA
        have hub := H.out.2.1 u (List.mem_of_getElem? hu)
        have q3 : (j : Int) < (hs.length : Int) := by omega
        have k3 := (HBW.out.cell (p := ⟨gb, offh + j, none⟩) hgb).trans hcell
        have zg : gb < wr.heap.size := by omega
        have HU := Lib.hid (howAt_lt hu)
        clear hu hgb hcell hjh
        obtain rfl | rfl | rfl | rfl | rfl | rfl : u = 0 ∨ u = 1 ∨ u = 2 ∨ u = 3 ∨ u = 4 ∨ u = 5 := by omega
        · go_wp2_with fail
          refine (HSV.out _).mono ?_
          rintro e w1 ⟨rfl, hb1⟩
          have HS1 := Lib.hid (HS0.out.more hb1)
          clear hb1
          unfold Vst.agg
          go_wp2_with (at_builtin; refine wpList_append_lsts _ rfl (.tmp 28) (.tmp 34) 27 rfl 54 v0 _ 6 80 Tryz.underlying27 HV.out.1 HV.out.2.1 HV.out.2.2.1 HV.out.2.2.2 rfl (by decide) w.heap.size j (.slice A2 j c2) (cellsV (edV hs 0 0 ((eraseL ks).take j))) rfl ?v1 ⟨w1.heap.size, 0, none⟩ 1 1 (Vst.cells ⟨false, c.kind, c.text, ⟨fArgs, (n : Int), sCall⟩⟩) rfl rfl (by decide) ?v2 ?v3 ?v4 ?v5 ?_)
          case v1 => exact (HS1.out.more ((Below.refl _ _).alloc (Nat.le_refl _) _)).s.vl
          case v2 => exact cells_new rfl _ rfl
          case v3 => exact Vst.cells_one _
          case v4 => unfold maxLen; omega
          case v5 => omega
          intro g1 p1 w2 hrow hg hg'
          have HS2 := Lib.hid (HS1.out.vis (x := ⟨false, c.kind, c.text, ⟨fArgs, (n : Int), sCall⟩⟩) hg (by rw [World.size_alloc]; exact hg') hrow)
          clear hrow hg hg'
          have x0 : w2.cell? ⟨wr.heap.size, 0, none⟩ = some (.string c.kind) := HS2.out.kid.cell 0
          have x1 : w2.cell? ⟨wr.heap.size, 1, none⟩ = some (.string c.text) := HS2.out.kid.cell 1
          have x2 : w2.cell? ⟨wr.heap.size, 2, none⟩ = some (.slice c.addr c.kids.length c.cap) := HS2.out.kid.cell 2
          have zk := HS2.out.kid.lt
          go_wp2_with (at_builtin; refine wpList_append_lsts _ rfl (.tmp 47) (.tmp 49) 22 rfl 24 i0 _ 3 56 Tryz.underlying22 HI.out.1 HI.out.2.1 HI.out.2.2.1 HI.out.2.2.2 rfl (by decide) w.heap.size (n) (.slice A1 n c1) (cellsN (ns)) rfl ?a21 ⟨w2.heap.size, 0, none⟩ 1 1 [.string c.kind, .string c.text, .slice c.addr c.kids.length c.cap] rfl rfl (by decide) ?a22 ?a23 ?a24 ?a25 ?_)
          case a21 => exact (HS2.out.more ((Below.refl _ _).alloc (Nat.le_refl _) _)).s.lst
          case a22 => exact cells_new rfl _ rfl
          case a23 => intro u hu; exact cellsN_one (l := [c]) hu
          case a24 => unfold maxLen; omega
          case a25 => omega
          intro g2 p2 w3 hrow hg hg'
          have HS3 := Lib.hid (HS2.out.node (x := c) ((HC.out.1.below HS2.out.s.bel (Nat.le_refl _)).more HS2.out.s.bel.size) HC.out.2 hg (by rw [World.size_alloc]; exact hg') hrow)
          clear hrow hg hg'
          go_wp2_with fail
          go_roundw
          case rel =>
            have hfin := HS3.out.s
            have h1 := edL_len hs 0 ((eraseL ks).take (j + 1))
            have h2 := HT.out.1
            have h3 := HT.out.2
            rw [HU.out] at h2
            rw [HNL.out.1] at h3
            have h4 : edL hs 0 ((eraseL ks).take j) ++ edN 0 c.erase = edL hs 0 ((eraseL ks).take j) ++ [c.erase] := by
              simp [edN]
            rw [h4] at h2
            rw [← h2, ← h3] at hfin
            refine ⟨j + 1, n + 1, _, _, _, _, by omega, by go_num, rfl, rfl, ?_, Lib.hid ⟨_, hfin⟩⟩
            have h5 := hfin.nl.1
            rw [List.length_take] at h1
            omega
          case measure => simp [intOf]; omega
        · go_wp2_with fail
          refine (HSV.out _).mono ?_
          rintro e w1 ⟨rfl, hb1⟩
          have HS1 := Lib.hid (HS0.out.more hb1)
          clear hb1
          unfold Vst.agg
          go_wp2_with (at_builtin; refine wpList_append_lsts _ rfl (.tmp 28) (.tmp 34) 27 rfl 54 v0 _ 6 80 Tryz.underlying27 HV.out.1 HV.out.2.1 HV.out.2.2.1 HV.out.2.2.2 rfl (by decide) w.heap.size j (.slice A2 j c2) (cellsV (edV hs 0 0 ((eraseL ks).take j))) rfl ?v1 ⟨w1.heap.size, 0, none⟩ 1 1 (Vst.cells ⟨false, c.kind, c.text, ⟨fArgs, (n : Int), sCall⟩⟩) rfl rfl (by decide) ?v2 ?v3 ?v4 ?v5 ?_)
          case v1 => exact (HS1.out.more ((Below.refl _ _).alloc (Nat.le_refl _) _)).s.vl
          case v2 => exact cells_new rfl _ rfl
          case v3 => exact Vst.cells_one _
          case v4 => unfold maxLen; omega
          case v5 => omega
          intro g1 p1 w2 hrow hg hg'
          have HS2 := Lib.hid (HS1.out.vis (x := ⟨false, c.kind, c.text, ⟨fArgs, (n : Int), sCall⟩⟩) hg (by rw [World.size_alloc]; exact hg') hrow)
          clear hrow hg hg'
          have x0 : w2.cell? ⟨wr.heap.size, 0, none⟩ = some (.string c.kind) := HS2.out.kid.cell 0
          have x1 : w2.cell? ⟨wr.heap.size, 1, none⟩ = some (.string c.text) := HS2.out.kid.cell 1
          have x2 : w2.cell? ⟨wr.heap.size, 2, none⟩ = some (.slice c.addr c.kids.length c.cap) := HS2.out.kid.cell 2
          have zk := HS2.out.kid.lt
          go_wp2_with fail
          go_roundw
          case rel =>
            have hfin := HS2.out.s
            have h1 := edL_len hs 0 ((eraseL ks).take (j + 1))
            have h2 := HT.out.1
            have h3 := HT.out.2
            rw [HU.out] at h2
            rw [HNL.out.1] at h3
            have h4 : edL hs 0 ((eraseL ks).take j) ++ edN 1 c.erase = edL hs 0 ((eraseL ks).take j) := by
              simp [edN]
            rw [h4] at h2
            rw [← h2, ← h3] at hfin
            refine ⟨j + 1, n, _, _, _, _, by omega, by go_num, rfl, rfl, ?_, Lib.hid ⟨_, hfin⟩⟩
            have h5 := hfin.nl.1
            rw [List.length_take] at h1
            omega
          case measure => simp [intOf]; omega
        · go_wp2_with fail
          refine (HSV.out _).mono ?_
          rintro e w1 ⟨rfl, hb1⟩
          have HS1 := Lib.hid (HS0.out.more hb1)
          clear hb1
          unfold Vst.agg
          go_wp2_with (at_builtin; refine wpList_append_lsts _ rfl (.tmp 28) (.tmp 34) 27 rfl 54 v0 _ 6 80 Tryz.underlying27 HV.out.1 HV.out.2.1 HV.out.2.2.1 HV.out.2.2.2 rfl (by decide) w.heap.size j (.slice A2 j c2) (cellsV (edV hs 0 0 ((eraseL ks).take j))) rfl ?v1 ⟨w1.heap.size, 0, none⟩ 1 1 (Vst.cells ⟨false, c.kind, c.text, ⟨fArgs, (n : Int), sCall⟩⟩) rfl rfl (by decide) ?v2 ?v3 ?v4 ?v5 ?_)
          case v1 => exact (HS1.out.more ((Below.refl _ _).alloc (Nat.le_refl _) _)).s.vl
          case v2 => exact cells_new rfl _ rfl
          case v3 => exact Vst.cells_one _
          case v4 => unfold maxLen; omega
          case v5 => omega
          intro g1 p1 w2 hrow hg hg'
          have HS2 := Lib.hid (HS1.out.vis (x := ⟨false, c.kind, c.text, ⟨fArgs, (n : Int), sCall⟩⟩) hg (by rw [World.size_alloc]; exact hg') hrow)
          clear hrow hg hg'
          have x0 : w2.cell? ⟨wr.heap.size, 0, none⟩ = some (.string c.kind) := HS2.out.kid.cell 0
          have x1 : w2.cell? ⟨wr.heap.size, 1, none⟩ = some (.string c.text) := HS2.out.kid.cell 1
          have x2 : w2.cell? ⟨wr.heap.size, 2, none⟩ = some (.slice c.addr c.kids.length c.cap) := HS2.out.kid.cell 2
          have zk := HS2.out.kid.lt
          go_wp2_with (at_builtin; refine wpList_append_lsts _ rfl (.tmp 42) (.tmp 44) 22 rfl 24 i0 _ 3 56 Tryz.underlying22 HI.out.1 HI.out.2.1 HI.out.2.2.1 HI.out.2.2.2 rfl (by decide) w.heap.size (n) (.slice A1 n c1) (cellsN (ns)) rfl ?a21 ⟨w2.heap.size, 0, none⟩ 1 1 [.string ⟨#[105, 110, 116]⟩, .string ⟨#[55]⟩, .slice none 0 0] rfl rfl (by decide) ?a22 ?a23 ?a24 ?a25 ?_)
          case a21 => exact (HS2.out.more ((Below.refl _ _).alloc (Nat.le_refl _) _)).s.lst
          case a22 => exact cells_new rfl _ rfl
          case a23 => intro u hu; exact cellsN_one (l := [(.mk sInt ⟨#[55]⟩ none 0 [])]) hu
          case a24 => unfold maxLen; omega
          case a25 => omega
          intro g2 p2 w3 hrow hg hg'
          have HS3 := Lib.hid (HS2.out.node (x := (.mk sInt ⟨#[55]⟩ none 0 [])) ⟨by decide, by decide, Nat.le_refl _, Nat.zero_le _, trivial⟩ (fun b hb => by cases hb) hg (by rw [World.size_alloc]; exact hg') hrow)
          clear hrow hg hg'
          clear x0 x1 x2 zk
          have x0 : w3.cell? ⟨wr.heap.size, 0, none⟩ = some (.string c.kind) := HS3.out.kid.cell 0
          have x1 : w3.cell? ⟨wr.heap.size, 1, none⟩ = some (.string c.text) := HS3.out.kid.cell 1
          have x2 : w3.cell? ⟨wr.heap.size, 2, none⟩ = some (.slice c.addr c.kids.length c.cap) := HS3.out.kid.cell 2
          have zk := HS3.out.kid.lt
          go_wp2_with (at_builtin; refine wpList_append_lsts _ rfl (.tmp 47) (.tmp 49) 22 rfl 24 i0 _ 3 56 Tryz.underlying22 HI.out.1 HI.out.2.1 HI.out.2.2.1 HI.out.2.2.2 rfl (by decide) w.heap.size (n + 1) (.slice (some ⟨g2, 0, none⟩) (n + 1) p2) (cellsN (ns ++ [(.mk sInt ⟨#[55]⟩ none 0 [])])) rfl ?a31 ⟨w3.heap.size, 0, none⟩ 1 1 [.string c.kind, .string c.text, .slice c.addr c.kids.length c.cap] rfl rfl (by decide) ?a32 ?a33 ?a34 ?a35 ?_)
          case a31 => exact (HS3.out.more ((Below.refl _ _).alloc (Nat.le_refl _) _)).s.lst
          case a32 => exact cells_new rfl _ rfl
          case a33 => intro u hu; exact cellsN_one (l := [c]) hu
          case a34 => unfold maxLen; omega
          case a35 => omega
          intro g3 p3 w4 hrow hg hg'
          have HS4 := Lib.hid (HS3.out.node (x := c) ((HC.out.1.below HS3.out.s.bel (Nat.le_refl _)).more HS3.out.s.bel.size) HC.out.2 hg (by rw [World.size_alloc]; exact hg') hrow)
          clear hrow hg hg'
          go_wp2_with fail
          go_roundw
          case rel =>
            have hfin := HS4.out.s
            have h1 := edL_len hs 0 ((eraseL ks).take (j + 1))
            have h2 := HT.out.1
            have h3 := HT.out.2
            rw [HU.out] at h2
            rw [HNL.out.1] at h3
            have h4 : edL hs 0 ((eraseL ks).take j) ++ edN 2 c.erase = edL hs 0 ((eraseL ks).take j) ++ [(ANode.mk sInt ⟨#[55]⟩ none 0 []).erase] ++ [c.erase] := by
              simp [edN, ANode.erase, eraseL]
            rw [h4] at h2
            rw [← h2, ← h3] at hfin
            refine ⟨j + 1, n + 1 + 1, _, _, _, _, by omega, by go_num, rfl, rfl, ?_, Lib.hid ⟨_, hfin⟩⟩
            have h5 := hfin.nl.1
            rw [List.length_take] at h1
            omega
          case measure => simp [intOf]; omega
        · go_wp2_with fail
          refine (HSV.out _).mono ?_
          rintro e w1 ⟨rfl, hb1⟩
          have HS1 := Lib.hid (HS0.out.more hb1)
          clear hb1
          unfold Vst.agg
          go_wp2_with (at_builtin; refine wpList_append_lsts _ rfl (.tmp 28) (.tmp 34) 27 rfl 54 v0 _ 6 80 Tryz.underlying27 HV.out.1 HV.out.2.1 HV.out.2.2.1 HV.out.2.2.2 rfl (by decide) w.heap.size j (.slice A2 j c2) (cellsV (edV hs 0 0 ((eraseL ks).take j))) rfl ?v1 ⟨w1.heap.size, 0, none⟩ 1 1 (Vst.cells ⟨false, c.kind, c.text, ⟨fArgs, (n : Int), sCall⟩⟩) rfl rfl (by decide) ?v2 ?v3 ?v4 ?v5 ?_)
          case v1 => exact (HS1.out.more ((Below.refl _ _).alloc (Nat.le_refl _) _)).s.vl
          case v2 => exact cells_new rfl _ rfl
          case v3 => exact Vst.cells_one _
          case v4 => unfold maxLen; omega
          case v5 => omega
          intro g1 p1 w2 hrow hg hg'
          have HS2 := Lib.hid (HS1.out.vis (x := ⟨false, c.kind, c.text, ⟨fArgs, (n : Int), sCall⟩⟩) hg (by rw [World.size_alloc]; exact hg') hrow)
          clear hrow hg hg'
          have x0 : w2.cell? ⟨wr.heap.size, 0, none⟩ = some (.string c.kind) := HS2.out.kid.cell 0
          have x1 : w2.cell? ⟨wr.heap.size, 1, none⟩ = some (.string c.text) := HS2.out.kid.cell 1
          have x2 : w2.cell? ⟨wr.heap.size, 2, none⟩ = some (.slice c.addr c.kids.length c.cap) := HS2.out.kid.cell 2
          have zk := HS2.out.kid.lt
          go_wp2_with (at_builtin; refine wpList_append_lsts _ rfl (.tmp 47) (.tmp 49) 22 rfl 24 i0 _ 3 56 Tryz.underlying22 HI.out.1 HI.out.2.1 HI.out.2.2.1 HI.out.2.2.2 rfl (by decide) w.heap.size (n) (.slice A1 n c1) (cellsN (ns)) rfl ?a21 ⟨w2.heap.size, 0, none⟩ 1 1 [.string c.kind, .string c.text, .slice c.addr c.kids.length c.cap] rfl rfl (by decide) ?a22 ?a23 ?a24 ?a25 ?_)
          case a21 => exact (HS2.out.more ((Below.refl _ _).alloc (Nat.le_refl _) _)).s.lst
          case a22 => exact cells_new rfl _ rfl
          case a23 => intro u hu; exact cellsN_one (l := [c]) hu
          case a24 => unfold maxLen; omega
          case a25 => omega
          intro g2 p2 w3 hrow hg hg'
          have HS3 := Lib.hid (HS2.out.node (x := c) ((HC.out.1.below HS2.out.s.bel (Nat.le_refl _)).more HS2.out.s.bel.size) HC.out.2 hg (by rw [World.size_alloc]; exact hg') hrow)
          clear hrow hg hg'
          clear x0 x1 x2 zk
          have x0 : w3.cell? ⟨wr.heap.size, 0, none⟩ = some (.string c.kind) := HS3.out.kid.cell 0
          have x1 : w3.cell? ⟨wr.heap.size, 1, none⟩ = some (.string c.text) := HS3.out.kid.cell 1
          have x2 : w3.cell? ⟨wr.heap.size, 2, none⟩ = some (.slice c.addr c.kids.length c.cap) := HS3.out.kid.cell 2
          have zk := HS3.out.kid.lt
          go_wp2_with (at_builtin; refine wpList_append_lsts _ rfl (.tmp 65) (.tmp 67) 22 rfl 24 i0 _ 3 56 Tryz.underlying22 HI.out.1 HI.out.2.1 HI.out.2.2.1 HI.out.2.2.2 rfl (by decide) w.heap.size (n + 1) (.slice (some ⟨g2, 0, none⟩) (n + 1) p2) (cellsN (ns ++ [c])) rfl ?a31 ⟨w3.heap.size, 0, none⟩ 1 1 [.string ⟨#[105, 110, 116]⟩, .string ⟨#[56]⟩, .slice none 0 0] rfl rfl (by decide) ?a32 ?a33 ?a34 ?a35 ?_)
          case a31 => exact (HS3.out.more ((Below.refl _ _).alloc (Nat.le_refl _) _)).s.lst
          case a32 => exact cells_new rfl _ rfl
          case a33 => intro u hu; exact cellsN_one (l := [(.mk sInt ⟨#[56]⟩ none 0 [])]) hu
          case a34 => unfold maxLen; omega
          case a35 => omega
          intro g3 p3 w4 hrow hg hg'
          have HS4 := Lib.hid (HS3.out.node (x := (.mk sInt ⟨#[56]⟩ none 0 [])) ⟨by decide, by decide, Nat.le_refl _, Nat.zero_le _, trivial⟩ (fun b hb => by cases hb) hg (by rw [World.size_alloc]; exact hg') hrow)
          clear hrow hg hg'
          go_wp2_with fail
          go_roundw
          case rel =>
            have hfin := HS4.out.s
            have h1 := edL_len hs 0 ((eraseL ks).take (j + 1))
            have h2 := HT.out.1
            have h3 := HT.out.2
            rw [HU.out] at h2
            rw [HNL.out.1] at h3
            have h4 : edL hs 0 ((eraseL ks).take j) ++ edN 3 c.erase = edL hs 0 ((eraseL ks).take j) ++ [c.erase] ++ [(ANode.mk sInt ⟨#[56]⟩ none 0 []).erase] := by
              simp [edN, ANode.erase, eraseL]
            rw [h4] at h2
            rw [← h2, ← h3] at hfin
            refine ⟨j + 1, n + 1 + 1, _, _, _, _, by omega, by go_num, rfl, rfl, ?_, Lib.hid ⟨_, hfin⟩⟩
            have h5 := hfin.nl.1
            rw [List.length_take] at h1
            omega
          case measure => simp [intOf]; omega
        · go_wp2_with fail
          refine (HSV.out _).mono ?_
          rintro e w1 ⟨rfl, hb1⟩
          have HS1 := Lib.hid (HS0.out.more hb1)
          clear hb1
          unfold Vst.agg
          go_wp2_with (at_builtin; refine wpList_append_lsts _ rfl (.tmp 28) (.tmp 34) 27 rfl 54 v0 _ 6 80 Tryz.underlying27 HV.out.1 HV.out.2.1 HV.out.2.2.1 HV.out.2.2.2 rfl (by decide) w.heap.size j (.slice A2 j c2) (cellsV (edV hs 0 0 ((eraseL ks).take j))) rfl ?v1 ⟨w1.heap.size, 0, none⟩ 1 1 (Vst.cells ⟨false, c.kind, c.text, ⟨fArgs, (n : Int), sCall⟩⟩) rfl rfl (by decide) ?v2 ?v3 ?v4 ?v5 ?_)
          case v1 => exact (HS1.out.more ((Below.refl _ _).alloc (Nat.le_refl _) _)).s.vl
          case v2 => exact cells_new rfl _ rfl
          case v3 => exact Vst.cells_one _
          case v4 => unfold maxLen; omega
          case v5 => omega
          intro g1 p1 w2 hrow hg hg'
          have HS2 := Lib.hid (HS1.out.vis (x := ⟨false, c.kind, c.text, ⟨fArgs, (n : Int), sCall⟩⟩) hg (by rw [World.size_alloc]; exact hg') hrow)
          clear hrow hg hg'
          have x0 : w2.cell? ⟨wr.heap.size, 0, none⟩ = some (.string c.kind) := HS2.out.kid.cell 0
          have x1 : w2.cell? ⟨wr.heap.size, 1, none⟩ = some (.string c.text) := HS2.out.kid.cell 1
          have x2 : w2.cell? ⟨wr.heap.size, 2, none⟩ = some (.slice c.addr c.kids.length c.cap) := HS2.out.kid.cell 2
          have zk := HS2.out.kid.lt
          go_wp2_with (at_builtin; refine wpList_append_lsts _ rfl (.tmp 42) (.tmp 44) 22 rfl 24 i0 _ 3 56 Tryz.underlying22 HI.out.1 HI.out.2.1 HI.out.2.2.1 HI.out.2.2.2 rfl (by decide) w.heap.size (n) (.slice A1 n c1) (cellsN (ns)) rfl ?a21 ⟨w2.heap.size, 0, none⟩ 1 1 [.string ⟨#[105, 110, 116]⟩, .string ⟨#[55]⟩, .slice none 0 0] rfl rfl (by decide) ?a22 ?a23 ?a24 ?a25 ?_)
          case a21 => exact (HS2.out.more ((Below.refl _ _).alloc (Nat.le_refl _) _)).s.lst
          case a22 => exact cells_new rfl _ rfl
          case a23 => intro u hu; exact cellsN_one (l := [(.mk sInt ⟨#[55]⟩ none 0 [])]) hu
          case a24 => unfold maxLen; omega
          case a25 => omega
          intro g2 p2 w3 hrow hg hg'
          have HS3 := Lib.hid (HS2.out.node (x := (.mk sInt ⟨#[55]⟩ none 0 [])) ⟨by decide, by decide, Nat.le_refl _, Nat.zero_le _, trivial⟩ (fun b hb => by cases hb) hg (by rw [World.size_alloc]; exact hg') hrow)
          clear hrow hg hg'
          clear x0 x1 x2 zk
          have x0 : w3.cell? ⟨wr.heap.size, 0, none⟩ = some (.string c.kind) := HS3.out.kid.cell 0
          have x1 : w3.cell? ⟨wr.heap.size, 1, none⟩ = some (.string c.text) := HS3.out.kid.cell 1
          have x2 : w3.cell? ⟨wr.heap.size, 2, none⟩ = some (.slice c.addr c.kids.length c.cap) := HS3.out.kid.cell 2
          have zk := HS3.out.kid.lt
          go_wp2_with (at_builtin; refine wpList_append_lsts _ rfl (.tmp 47) (.tmp 49) 22 rfl 24 i0 _ 3 56 Tryz.underlying22 HI.out.1 HI.out.2.1 HI.out.2.2.1 HI.out.2.2.2 rfl (by decide) w.heap.size (n + 1) (.slice (some ⟨g2, 0, none⟩) (n + 1) p2) (cellsN (ns ++ [(.mk sInt ⟨#[55]⟩ none 0 [])])) rfl ?a31 ⟨w3.heap.size, 0, none⟩ 1 1 [.string c.kind, .string c.text, .slice c.addr c.kids.length c.cap] rfl rfl (by decide) ?a32 ?a33 ?a34 ?a35 ?_)
          case a31 => exact (HS3.out.more ((Below.refl _ _).alloc (Nat.le_refl _) _)).s.lst
          case a32 => exact cells_new rfl _ rfl
          case a33 => intro u hu; exact cellsN_one (l := [c]) hu
          case a34 => unfold maxLen; omega
          case a35 => omega
          intro g3 p3 w4 hrow hg hg'
          have HS4 := Lib.hid (HS3.out.node (x := c) ((HC.out.1.below HS3.out.s.bel (Nat.le_refl _)).more HS3.out.s.bel.size) HC.out.2 hg (by rw [World.size_alloc]; exact hg') hrow)
          clear hrow hg hg'
          clear x0 x1 x2 zk
          have x0 : w4.cell? ⟨wr.heap.size, 0, none⟩ = some (.string c.kind) := HS4.out.kid.cell 0
          have x1 : w4.cell? ⟨wr.heap.size, 1, none⟩ = some (.string c.text) := HS4.out.kid.cell 1
          have x2 : w4.cell? ⟨wr.heap.size, 2, none⟩ = some (.slice c.addr c.kids.length c.cap) := HS4.out.kid.cell 2
          have zk := HS4.out.kid.lt
          go_wp2_with (at_builtin; refine wpList_append_lsts _ rfl (.tmp 65) (.tmp 67) 22 rfl 24 i0 _ 3 56 Tryz.underlying22 HI.out.1 HI.out.2.1 HI.out.2.2.1 HI.out.2.2.2 rfl (by decide) w.heap.size (n + 1 + 1) (.slice (some ⟨g3, 0, none⟩) (n + 1 + 1) p3) (cellsN (ns ++ [(.mk sInt ⟨#[55]⟩ none 0 [])] ++ [c])) rfl ?a41 ⟨w4.heap.size, 0, none⟩ 1 1 [.string ⟨#[105, 110, 116]⟩, .string ⟨#[56]⟩, .slice none 0 0] rfl rfl (by decide) ?a42 ?a43 ?a44 ?a45 ?_)
          case a41 => exact (HS4.out.more ((Below.refl _ _).alloc (Nat.le_refl _) _)).s.lst
          case a42 => exact cells_new rfl _ rfl
          case a43 => intro u hu; exact cellsN_one (l := [(.mk sInt ⟨#[56]⟩ none 0 [])]) hu
          case a44 => unfold maxLen; omega
          case a45 => omega
          intro g4 p4 w5 hrow hg hg'
          have HS5 := Lib.hid (HS4.out.node (x := (.mk sInt ⟨#[56]⟩ none 0 [])) ⟨by decide, by decide, Nat.le_refl _, Nat.zero_le _, trivial⟩ (fun b hb => by cases hb) hg (by rw [World.size_alloc]; exact hg') (by rw [List.append_assoc]; exact hrow))
          clear hrow hg hg'
          go_wp2_with fail
          go_roundw
          case rel =>
            have hfin := HS5.out.s
            have h1 := edL_len hs 0 ((eraseL ks).take (j + 1))
            have h2 := HT.out.1
            have h3 := HT.out.2
            rw [HU.out] at h2
            rw [HNL.out.1] at h3
            have h4 : edL hs 0 ((eraseL ks).take j) ++ edN 4 c.erase = edL hs 0 ((eraseL ks).take j) ++ [(ANode.mk sInt ⟨#[55]⟩ none 0 []).erase] ++ [c.erase] ++ [(ANode.mk sInt ⟨#[56]⟩ none 0 []).erase] := by
              simp [edN, ANode.erase, eraseL]
            rw [h4] at h2
            rw [← h2, ← h3] at hfin
            refine ⟨j + 1, n + 1 + 1 + 1, _, _, _, _, by omega, by go_num, rfl, rfl, ?_, Lib.hid ⟨_, hfin⟩⟩
            have h5 := hfin.nl.1
            rw [List.length_take] at h1
            omega
          case measure => simp [intOf]; omega
        · go_wp2_with fail
          refine (HSV.out _).mono ?_
          rintro e w1 ⟨rfl, hb1⟩
          have HS1 := Lib.hid (HS0.out.more hb1)
          clear hb1
          unfold Vst.agg
          go_wp2_with (at_builtin; refine wpList_append_lsts _ rfl (.tmp 28) (.tmp 34) 27 rfl 54 v0 _ 6 80 Tryz.underlying27 HV.out.1 HV.out.2.1 HV.out.2.2.1 HV.out.2.2.2 rfl (by decide) w.heap.size j (.slice A2 j c2) (cellsV (edV hs 0 0 ((eraseL ks).take j))) rfl ?v1 ⟨w1.heap.size, 0, none⟩ 1 1 (Vst.cells ⟨false, c.kind, c.text, ⟨fArgs, (n : Int), sCall⟩⟩) rfl rfl (by decide) ?v2 ?v3 ?v4 ?v5 ?_)
          case v1 => exact (HS1.out.more ((Below.refl _ _).alloc (Nat.le_refl _) _)).s.vl
          case v2 => exact cells_new rfl _ rfl
          case v3 => exact Vst.cells_one _
          case v4 => unfold maxLen; omega
          case v5 => omega
          intro g1 p1 w2 hrow hg hg'
          have HS2 := Lib.hid (HS1.out.vis (x := ⟨false, c.kind, c.text, ⟨fArgs, (n : Int), sCall⟩⟩) hg (by rw [World.size_alloc]; exact hg') hrow)
          clear hrow hg hg'
          have x0 : w2.cell? ⟨wr.heap.size, 0, none⟩ = some (.string c.kind) := HS2.out.kid.cell 0
          have x1 : w2.cell? ⟨wr.heap.size, 1, none⟩ = some (.string c.text) := HS2.out.kid.cell 1
          have x2 : w2.cell? ⟨wr.heap.size, 2, none⟩ = some (.slice c.addr c.kids.length c.cap) := HS2.out.kid.cell 2
          have zk := HS2.out.kid.lt
          go_wp2_with (at_builtin; refine wpList_append_lsts _ rfl (.tmp 55) (.tmp 57) 22 rfl 24 i0 _ 3 56 Tryz.underlying22 HI.out.1 HI.out.2.1 HI.out.2.2.1 HI.out.2.2.2 rfl (by decide) w.heap.size (n) (.slice A1 n c1) (cellsN (ns)) rfl ?a21 ⟨w2.heap.size, 0, none⟩ 1 1 [.string ⟨#[110, 97, 109, 101]⟩, .string ⟨#[114]⟩, .slice none 0 0] rfl rfl (by decide) ?a22 ?a23 ?a24 ?a25 ?_)
          case a21 => exact (HS2.out.more ((Below.refl _ _).alloc (Nat.le_refl _) _)).s.lst
          case a22 => exact cells_new rfl _ rfl
          case a23 => intro u hu; exact cellsN_one (l := [(.mk sName ⟨#[114]⟩ none 0 [])]) hu
          case a24 => unfold maxLen; omega
          case a25 => omega
          intro g2 p2 w3 hrow hg hg'
          have HS3 := Lib.hid (HS2.out.node (x := (.mk sName ⟨#[114]⟩ none 0 [])) ⟨by decide, by decide, Nat.le_refl _, Nat.zero_le _, trivial⟩ (fun b hb => by cases hb) hg (by rw [World.size_alloc]; exact hg') hrow)
          clear hrow hg hg'
          go_wp2_with fail
          go_roundw
          case rel =>
            have hfin := HS3.out.s
            have h1 := edL_len hs 0 ((eraseL ks).take (j + 1))
            have h2 := HT.out.1
            have h3 := HT.out.2
            rw [HU.out] at h2
            rw [HNL.out.1] at h3
            have h4 : edL hs 0 ((eraseL ks).take j) ++ edN 5 c.erase = edL hs 0 ((eraseL ks).take j) ++ [(ANode.mk sName ⟨#[114]⟩ none 0 []).erase] := by
              simp [edN, ANode.erase, eraseL]
            rw [h4] at h2
            rw [← h2, ← h3] at hfin
            refine ⟨j + 1, n + 1, _, _, _, _, by omega, by go_num, rfl, rfl, ?_, Lib.hid ⟨_, hfin⟩⟩
            have h5 := hfin.nl.1
            rw [List.length_take] at h1
            omega
          case measure => simp [intOf]; omega
      · have HU := Lib.hid (howAt_ge (hs := hs) (Nat.le_of_not_lt hjh))
        have q3 : (hs.length : Int) ≤ (j : Int) := by omega
        clear hjh
        go_wp2_with fail
        refine (HSV.out _).mono ?_
        rintro e w1 ⟨rfl, hb1⟩
        have HS1 := Lib.hid (HS0.out.more hb1)
        clear hb1
        unfold Vst.agg
        go_wp2_with (at_builtin; refine wpList_append_lsts _ rfl (.tmp 28) (.tmp 34) 27 rfl 54 v0 _ 6 80 Tryz.underlying27 HV.out.1 HV.out.2.1 HV.out.2.2.1 HV.out.2.2.2 rfl (by decide) w.heap.size j (.slice A2 j c2) (cellsV (edV hs 0 0 ((eraseL ks).take j))) rfl ?v1 ⟨w1.heap.size, 0, none⟩ 1 1 (Vst.cells ⟨false, c.kind, c.text, ⟨fArgs, (n : Int), sCall⟩⟩) rfl rfl (by decide) ?v2 ?v3 ?v4 ?v5 ?_)
        case v1 => exact (HS1.out.more ((Below.refl _ _).alloc (Nat.le_refl _) _)).s.vl
        case v2 => exact cells_new rfl _ rfl
        case v3 => exact Vst.cells_one _
        case v4 => unfold maxLen; omega
        case v5 => omega
        intro g1 p1 w2 hrow hg hg'
        have HS2 := Lib.hid (HS1.out.vis (x := ⟨false, c.kind, c.text, ⟨fArgs, (n : Int), sCall⟩⟩) hg (by rw [World.size_alloc]; exact hg') hrow)
        clear hrow hg hg'
        have x0 : w2.cell? ⟨wr.heap.size, 0, none⟩ = some (.string c.kind) := HS2.out.kid.cell 0
        have x1 : w2.cell? ⟨wr.heap.size, 1, none⟩ = some (.string c.text) := HS2.out.kid.cell 1
        have x2 : w2.cell? ⟨wr.heap.size, 2, none⟩ = some (.slice c.addr c.kids.length c.cap) := HS2.out.kid.cell 2
        have zk := HS2.out.kid.lt
        go_wp2_with (at_builtin; refine wpList_append_lsts _ rfl (.tmp 47) (.tmp 49) 22 rfl 24 i0 _ 3 56 Tryz.underlying22 HI.out.1 HI.out.2.1 HI.out.2.2.1 HI.out.2.2.2 rfl (by decide) w.heap.size (n) (.slice A1 n c1) (cellsN (ns)) rfl ?a21 ⟨w2.heap.size, 0, none⟩ 1 1 [.string c.kind, .string c.text, .slice c.addr c.kids.length c.cap] rfl rfl (by decide) ?a22 ?a23 ?a24 ?a25 ?_)
        case a21 => exact (HS2.out.more ((Below.refl _ _).alloc (Nat.le_refl _) _)).s.lst
        case a22 => exact cells_new rfl _ rfl
        case a23 => intro u hu; exact cellsN_one (l := [c]) hu
        case a24 => unfold maxLen; omega
        case a25 => omega
        intro g2 p2 w3 hrow hg hg'
        have HS3 := Lib.hid (HS2.out.node (x := c) ((HC.out.1.below HS2.out.s.bel (Nat.le_refl _)).more HS2.out.s.bel.size) HC.out.2 hg (by rw [World.size_alloc]; exact hg') hrow)
        clear hrow hg hg'
        go_wp2_with fail
        go_roundw
        case rel =>
          have hfin := HS3.out.s
          have h1 := edL_len hs 0 ((eraseL ks).take (j + 1))
          have h2 := HT.out.1
          have h3 := HT.out.2
          rw [HU.out] at h2
          rw [HNL.out.1] at h3
          have h4 : edL hs 0 ((eraseL ks).take j) ++ edN 0 c.erase = edL hs 0 ((eraseL ks).take j) ++ [c.erase] := by
            simp [edN]
          rw [h4] at h2
          rw [← h2, ← h3] at hfin
          refine ⟨j + 1, n + 1, _, _, _, _, by omega, by go_num, rfl, rfl, ?_, Lib.hid ⟨_, hfin⟩⟩
          have h5 := hfin.nl.1
          rw [List.length_take] at h1
          omega
        case measure => simp [intOf]; omega
    · obtain rfl : j = ks.length := by omega
      have HF := Lib.hid hst
      clear hst hbw
      go_wp2_with fail
      refine bodyPost_ret (v := .tuple #[.slice A1 n c1, .slice A2 ks.length c2]) (by
        simp [results, Tryz.f24]) rfl ?_
      have hfull : (eraseL ks).take ks.length = eraseL ks := by rw [← eraseL_length ks, List.take_length]
      have hf := HF.out
      rw [hfull] at hf
      have hl := hf.nso.len
      rw [hf.nl.1] at hl
      refine ⟨A1, c1, ns, _, by rw [hl], ?_, hf.nso.node, ?_, hf.bel⟩
      · rcases hf.lst with ⟨h1, h2, h3⟩ | ⟨g, cap', h1, h2, _⟩
        · obtain rfl : ns = [] := List.eq_nil_of_length_eq_zero (by omega)
          trivial
        · injection h1 with h1 _ _
          rw [h1]
          rw [← hl] at h2
          exact Row.kids (ms := []) h2 h2.lt hf.nso.inn
      · rw [hf.nl.2]
        rcases hf.vl with ⟨h1, h2, h3⟩ | ⟨g, cap', h1, h2, _⟩
        · exact .inl ⟨h1, h2, h3⟩
        · exact .inr ⟨g, cap', h1, h2, Nat.zero_le _⟩
end Go.Proofs.YtgimbgpebpippaaGreatDoor
