/- The cursor of Apply, and the visit of what it stands at. -/
import Derived.Test.YtgimbgpebpippaaGreatDoorWalkI
import Derived.Test.YtgimbgpebpippaaGreatDoorApMem
import Derived.Deep.RegionHeld3
import Derived.BigRegion
import Derived.Deep.CutBlock
namespace Go.Proofs.YtgimbgpebpippaaGreatDoor
open Go.RowKit
set_option maxRecDepth 100000
set_option maxHeartbeats 4000000

/-- The application of Apply: its two functions, the cursor, the iterator. -/
def App (w : World) (ba : Nat) (fp fq pv : Value) (nm : ByteArray) (it nv : Value) (ix st : Int) : Prop := Blk w ba 123 #[fp, fq, pv, .string nm, it, nv, .int .i64 ix, .int .i64 st]
abbrev cur (ba : Nat) : Value := .pointer (some ⟨ba, 2, none⟩)
abbrev iterV (ba : Nat) : Value := .pointer (some ⟨ba, 6, none⟩)
section
variable {w : World} {ba : Nat} {fp fq pv it nv : Value} {nm : ByteArray} {ix st : Int}
theorem curNode_any (t : TypeId) (u : Value) (h : App w ba fp fq pv nm it (.iface t u) ix st) : Calls Tryz.prog 40 #[cur ba] w fun e w' => e = .returned (.iface t u) ∧ w = w' := by
  have c : w.cell? ⟨ba, 2 + 3, none⟩ = some (.iface t u) := Blk.cell h 5
  clear h
  go_enter Tryz.func40, Tryz.ntmps40
  go_wp2_with fail
  go_ret
  exact ⟨rfl, rfl⟩
theorem curParent_any (t : TypeId) (u : Value) (h : App w ba fp fq (.iface t u) nm it nv ix st) : Calls Tryz.prog 52 #[cur ba] w fun e w' => e = .returned (.iface t u) ∧ w = w' := by
  have c : w.cell? ⟨ba, 2, none⟩ = some (.iface t u) := Blk.cell h 2
  clear h
  go_enter Tryz.func52, Tryz.ntmps52
  go_wp2_with fail
  go_ret
  exact ⟨rfl, rfl⟩
theorem curName_any (h : App w ba fp fq pv nm it nv ix st) : Calls Tryz.prog 44 #[cur ba] w fun e w' => e = .returned (.string nm) ∧ w = w' := by
  have c : w.cell? ⟨ba, 2 + 1, none⟩ = some (.string nm) := Blk.cell h 3
  clear h
  go_enter Tryz.func44, Tryz.ntmps44
  go_wp2_with fail
  go_ret
  exact ⟨rfl, rfl⟩
theorem curIndex_none (h : App w ba fp fq pv nm (.pointer none) nv ix st) : Calls Tryz.prog 57 #[cur ba] w fun e w' => e = .returned (.int .i64 (-1)) ∧ w = w' := by
  have c : w.cell? ⟨ba, 2 + 2, none⟩ = some (.pointer none) := Blk.cell h 4
  clear h
  go_enter Tryz.func57, Tryz.ntmps57
  go_wp2_with fail
  go_ret
  exact ⟨rfl, rfl⟩
theorem curIndex_some (h : App w ba fp fq pv nm (iterV ba) nv ix st) : Calls Tryz.prog 57 #[cur ba] w fun e w' => e = .returned (.int .i64 ix) ∧ w = w' := by
  have c : w.cell? ⟨ba, 2 + 2, none⟩ = some (iterV ba) := Blk.cell h 4
  have c2 : w.cell? ⟨ba, 6, none⟩ = some (.int .i64 ix) := Blk.cell h 6
  clear h
  go_enter Tryz.func57, Tryz.ntmps57
  go_wp2_with fail
  go_ret
  exact ⟨rfl, rfl⟩
end
def sOther : ByteArray := ⟨#[111, 116, 104, 101, 114]⟩
theorem nodeOf_root (u : Value) (w : World) : Calls Tryz.prog 38 #[.iface 110 u] w (MadeN (.mk sOther sEmpty []) w) := by
  have m0 := ta_miss (P := Tryz.prog) Tryz.underlying79 Tryz.zeroPIdent 59
  have m1 := ta_miss (P := Tryz.prog) Tryz.underlying125 Tryz.zeroPBasicLit 59
  have m2 := ta_miss (P := Tryz.prog) Tryz.underlying71 Tryz.zeroPParenExpr 59
  have m3 := ta_miss (P := Tryz.prog) Tryz.underlying129 Tryz.zeroPSelectorExpr 59
  have m4 := ta_miss (P := Tryz.prog) Tryz.underlying132 Tryz.zeroPStarExpr 59
  have m5 := ta_miss (P := Tryz.prog) Tryz.underlying135 Tryz.zeroPUnaryExpr 59
  have m6 := ta_miss (P := Tryz.prog) Tryz.underlying139 Tryz.zeroPBinaryExpr 59
  have m7 := ta_miss (P := Tryz.prog) Tryz.underlying142 Tryz.zeroPIndexExpr 59
  have m8 := ta_miss (P := Tryz.prog) Tryz.underlying87 Tryz.zeroPCallExpr 59
  go_enter Tryz.func38, Tryz.ntmps38
  go_wp2_with fail
  go_returns
  refine ⟨.mk sOther ⟨#[]⟩ none 0 [], rfl, ⟨by decide, by decide, Nat.le_refl _, Nat.zero_le _, trivial⟩, rfl, (fun b hb => by cases hb), by go_grown⟩

/-- Where a cursor stands: the parent (none: the root's), the field, the index. -/
def spotAt (p : Option AE) (nm : ByteArray) (idx : Int) : Spot := match p with | none => ⟨sEmpty, -1, sEmpty⟩ | some p => ⟨nm, idx, p.node.kind⟩
def Vst.agg (v : Vst) : Value := .agg #[.bool v.post, .string v.kind, .string v.text, .string v.at_.field, .int .i64 v.at_.index, .string v.at_.parent]
theorem kind_other (p : AE) : p.node.kind ≠ sOther := by cases p <;> simp [AE.node, Node.kind, sOther, sName, sInt, sParen, sSel, sUn, sBin, sIndex, sCall]
/-- What a visit is told of. -/
def Seen (post : Bool) (k t f : ByteArray) (i : Int) (pk : ByteArray) (w : World) (e : Ending) (w' : World) : Prop := e = .returned (.agg #[.bool post, .string k, .string t, .string f, .int .i64 i, .string pk]) ∧ Below w.heap.size w w'
abbrev noVst : Array Value := #[.bool false, .string ⟨#[]⟩, .string ⟨#[]⟩, .string ⟨#[]⟩, .int .i64 0, .string ⟨#[]⟩]
theorem load_vst {w : World} {g : Nat} {a b c d e f : Value} (h : Blk w g 54 #[a, b, c, d, e, f]) (_ha : a.oneCell' = true) (_hb : b.oneCell' = true) (_hc : c.oneCell' = true) (_hd : d.oneCell' = true) (_he : e.oneCell' = true) (_hf : f.oneCell' = true) : (loadVar 54 ⟨g, 0, none⟩).run Tryz.prog w = .ok (.agg #[a, b, c, d, e, f]) w := by
  have h0 : w.cell? ⟨g, 0, none⟩ = some a := h.cell 0
  have h1 : w.cell? ⟨g, 1, none⟩ = some b := h.cell 1
  have h2 : w.cell? ⟨g, 2, none⟩ = some c := h.cell 2
  have h3 : w.cell? ⟨g, 3, none⟩ = some d := h.cell 3
  have h4 : w.cell? ⟨g, 4, none⟩ = some e := h.cell 4
  have h5 : w.cell? ⟨g, 5, none⟩ = some f := h.cell 5
  clear h
  simp [go_sem, h0, h1, h2, h3, h4, h5]
theorem Blk.vst {w : World} {g : Nat} (h : Blk w g 54 noVst) (a b c d e f : Value) : Blk ((((((w.setCell ⟨g, 0, none⟩ a).setCell ⟨g, 1, none⟩ b).setCell ⟨g, 2, none⟩ c).setCell ⟨g, 3, none⟩ d).setCell ⟨g, 4, none⟩ e).setCell ⟨g, 5, none⟩ f) g 54 #[a, b, c, d, e, f] :=
  (((((h.set_ 0 a).set_ 1 b).set_ 2 c).set_ 3 d).set_ 4 e).set_ 5 f
/-- The index at a cursor. -/
def IdxIn (ba : Nat) (it : Value) (ix idx : Int) : Prop := (it = .pointer none ∧ idx = -1) ∨ (it = iterV ba ∧ idx = ix ∧ 0 ≤ ix)
theorem visitRoot_any {w : World} {ba : Nat} {fp fq it u : Value} {nm : ByteArray} {ix st : Int} (x : AE) (post : Bool) (h : App w ba fp fq (.iface 110 u) nm it x.val ix st) (hx : x.In w) (hG : Glob w) :
    Calls Tryz.prog 32 #[cur ba, .bool post] w (Seen post x.node.kind x.node.text sEmpty (-1) sEmpty w) := by
  obtain ⟨tx, vx, hv⟩ := x.val_one
  rw [hv] at h
  have HX := Lib.hid (And.intro h (And.intro hx (And.intro hG hv)))
  have HNU := Lib.hid (fun (w : World) => nodeOf_root u w)
  obtain ⟨tp, hpr⟩ : ∃ tp, 110 = tp := ⟨_, rfl⟩
  clear hpr
  clear h hx hG hv
  go_enter Tryz.func32, Tryz.ntmps32
  go_wp2_with fail
  refine (curNode_any tx vx (HX.out.1.alloc _)).mono ?_
  rintro e w1 ⟨rfl, rfl⟩
  go_wp2_with fail
  have hnd := nodeOf_any (SizeOf.sizeOf x + 1) x (w.alloc (.cells noVst 54)) (Nat.lt_succ_self _) (HX.out.2.1.below ((Below.refl _ _).alloc (Nat.le_refl _) _) (Nat.le_refl _)) (HX.out.2.2.1.below ((Below.refl _ _).alloc (Nat.le_refl _) _) (Nat.le_refl _))
  rw [HX.out.2.2.2] at hnd
  refine hnd.mono ?_
  clear hnd
  rintro e w2 ⟨m, rfl, hmin, hme, _, hb2⟩
  have HB2 := Lib.hid (((Below.refl _ w).alloc (Nat.le_refl _) (.cells noVst 54)).trans (hb2.mono (by rw [World.size_alloc]; omega)))
  have HM := Lib.hid (And.intro hme ((Blk.new w 54 noVst).below hb2 (by rw [World.size_alloc]; omega)))
  unfold ANode.val
  clear hmin hme hb2
  go_wp2_with fail
  refine (curParent_any 110 u (Blk.below HX.out.1 HB2.out (Blk.lt HX.out.1))).mono ?_
  rintro e w' ⟨rfl, rfl⟩
  go_wp2_with fail
  refine (HNU.out w2).mono ?_
  rintro e w3 ⟨mu, rfl, hmin, hmue, _, hb3⟩
  have HB3 := Lib.hid (HB2.out.trans (hb3.mono HB2.out.size))
  have HM3 := Lib.hid (And.intro hmue (HM.out.2.below hb3 HM.out.2.lt))
  unfold ANode.val
  clear hmin hmue hb3
  have hkm : mu.kind = sOther := by rw [← mu.erase_kind, HM3.out.1]; rfl
  rw [hkm]
  have hkc : (sOther.toList == sOther.toList) = true := by simp
  clear hkm
  unfold sOther at *
  go_upto_region 5 with fail
  have hbW : Below w.heap.size w (((w3.alloc (.cells #[.string m.kind, .string m.text, .slice m.addr m.kids.length m.cap] 24)).alloc (.cells #[.string ⟨#[111, 116, 104, 101, 114]⟩, .string mu.text, .slice mu.addr mu.kids.length mu.cap] 24)).alloc (.cells #[.bool post, .string m.kind, .string m.text, .string ⟨#[]⟩, .int .i64 (-1), .string ⟨#[]⟩] 54)) := by
    have h1 := HB3.out.size
    exact ((HB3.out.alloc h1 _).alloc (by rw [World.size_alloc]; omega) _).alloc (by rw [World.size_alloc, World.size_alloc]; omega) _
  have bR := ((HM3.out.2.alloc (.cells #[.string m.kind, .string m.text, .slice m.addr m.kids.length m.cap] 24)).alloc (.cells #[.string ⟨#[111, 116, 104, 101, 114]⟩, .string mu.text, .slice mu.addr mu.kids.length mu.cap] 24)).alloc (.cells #[.bool post, .string m.kind, .string m.text, .string ⟨#[]⟩, .int .i64 (-1), .string ⟨#[]⟩] 54)
  have bO := Blk.new ((w3.alloc (.cells #[.string m.kind, .string m.text, .slice m.addr m.kids.length m.cap] 24)).alloc (.cells #[.string ⟨#[111, 116, 104, 101, 114]⟩, .string mu.text, .slice mu.addr mu.kids.length mu.cap] 24)) 54 #[.bool post, .string m.kind, .string m.text, .string ⟨#[]⟩, .int .i64 (-1), .string ⟨#[]⟩]
  have bU := (Blk.new (w3.alloc (.cells #[.string m.kind, .string m.text, .slice m.addr m.kids.length m.cap] 24)) 24 #[.string ⟨#[111, 116, 104, 101, 114]⟩, .string mu.text, .slice mu.addr mu.kids.length mu.cap]).alloc (.cells #[.bool post, .string m.kind, .string m.text, .string ⟨#[]⟩, .int .i64 (-1), .string ⟨#[]⟩] 54)
  rw [World.size_alloc, World.size_alloc] at bO
  rw [World.size_alloc] at bU
  generalize (((w3.alloc (.cells #[.string m.kind, .string m.text, .slice m.addr m.kids.length m.cap] 24)).alloc (.cells #[.string ⟨#[111, 116, 104, 101, 114]⟩, .string mu.text, .slice mu.addr mu.kids.length mu.cap] 24)).alloc (.cells #[.bool post, .string m.kind, .string m.text, .string ⟨#[]⟩, .int .i64 (-1), .string ⟨#[]⟩] 54)) = w4 at hbW bR bO bU ⊢
  have hmk : m.kind = x.node.kind := by rw [← m.erase_kind, HM.out.1]
  have hmt : m.text = x.node.text := by rw [← m.erase_text, HM.out.1]
  have HMK := Lib.hid (And.intro hmk hmt)
  obtain ⟨mk, hk⟩ : ∃ y, m.kind = y := ⟨_, rfl⟩
  obtain ⟨mt, ht⟩ : ∃ y, m.text = y := ⟨_, rfl⟩
  rw [hk, ht] at HMK bO
  rw [hk, ht]
  obtain ⟨g, hg⟩ : ∃ g, w3.heap.size + 1 + 1 = g := ⟨_, rfl⟩
  obtain ⟨gu, hgu⟩ : ∃ g, w3.heap.size + 1 = g := ⟨_, rfl⟩
  obtain ⟨gr, hgr⟩ : ∃ g, w.heap.size = g := ⟨_, rfl⟩
  have hne : g ≠ gr ∧ w.heap.size ≤ gr ∧ w.heap.size ≤ g := by have := HM3.out.2.lt; omega
  rw [hg] at bO
  rw [hgu] at bU
  rw [hg, hgu]
  rw [hgr] at bR ⊢
  have HW := Lib.hid (And.intro hbW (And.intro bR (And.intro bO (And.intro bU (And.intro hne hgr)))))
  have b0 : w4.cell? ⟨gr, 0, none⟩ = some (.bool false) := bR.cell 0
  have b1 : w4.cell? ⟨gr, 1, none⟩ = some (.string ⟨#[]⟩) := bR.cell 1
  have b2 : w4.cell? ⟨gr, 2, none⟩ = some (.string ⟨#[]⟩) := bR.cell 2
  have b3 : w4.cell? ⟨gr, 3, none⟩ = some (.string ⟨#[]⟩) := bR.cell 3
  have b4 : w4.cell? ⟨gr, 4, none⟩ = some (.int .i64 0) := bR.cell 4
  have b5 : w4.cell? ⟨gr, 5, none⟩ = some (.string ⟨#[]⟩) := bR.cell 5
  have f0 := bR.frozen 0
  have f1 := bR.frozen 1
  have f2 := bR.frozen 2
  have f3 := bR.frozen 3
  have f4 := bR.frozen 4
  have f5 := bR.frozen 5
  have o0 : w4.cell? ⟨g, 0, none⟩ = some (.bool post) := bO.cell 0
  have o1 : w4.cell? ⟨g, 1, none⟩ = some (.string mk) := bO.cell 1
  have o2 : w4.cell? ⟨g, 2, none⟩ = some (.string mt) := bO.cell 2
  have o3 : w4.cell? ⟨g, 3, none⟩ = some (.string ⟨#[]⟩) := bO.cell 3
  have o4 : w4.cell? ⟨g, 4, none⟩ = some (.int .i64 (-1)) := bO.cell 4
  have o5 : w4.cell? ⟨g, 5, none⟩ = some (.string ⟨#[]⟩) := bO.cell 5
  clear hbW bR bO bU hmk hmt hk ht hg hgu hne hgr
  go_wp2_with fail
  refine bodyPost_ret (results_struct rfl rfl (load_vst (HW.out.2.1.vst _ _ _ _ _ _) rfl rfl rfl rfl rfl rfl)) rfl ?_
  obtain ⟨e1, e2⟩ := HMK.out
  subst e1 e2
  refine ⟨rfl, ?_⟩
  have hb := HW.out.1
  have hge := HW.out.2.2.2.2.1.2.1
  exact (((((hb.setCell hge _).setCell hge _).setCell hge _).setCell hge _).setCell hge _).setCell hge _
theorem visitIn_any {w : World} {ba : Nat} {fp fq it : Value} {nm : ByteArray} {ix st idx : Int} (x P : AE) (post : Bool) (h : App w ba fp fq P.val nm it x.val ix st) (hit : IdxIn ba it ix idx) (hx : x.In w) (hP : P.In w) (hG : Glob w) :
    Calls Tryz.prog 32 #[cur ba, .bool post] w (Seen post x.node.kind x.node.text nm idx P.node.kind w) := by
  obtain ⟨tx, vx, hv⟩ := x.val_one
  obtain ⟨tp, u, hpv⟩ := P.val_one
  rw [hv, hpv] at h
  have HX := Lib.hid (And.intro h (And.intro hx (And.intro hG hv)))
  have HP := Lib.hid (And.intro hP (And.intro hpv hit))
  clear h hx hG hv hP hpv hit
  go_enter Tryz.func32, Tryz.ntmps32
  go_wp2_with fail
  refine (curNode_any tx vx (HX.out.1.alloc _)).mono ?_
  rintro e w1 ⟨rfl, rfl⟩
  go_wp2_with fail
  have hnd := nodeOf_any (SizeOf.sizeOf x + 1) x (w.alloc (.cells noVst 54)) (Nat.lt_succ_self _) (HX.out.2.1.below ((Below.refl _ _).alloc (Nat.le_refl _) _) (Nat.le_refl _)) (HX.out.2.2.1.below ((Below.refl _ _).alloc (Nat.le_refl _) _) (Nat.le_refl _))
  rw [HX.out.2.2.2] at hnd
  refine hnd.mono ?_
  clear hnd
  rintro e w2 ⟨m, rfl, hmin, hme, _, hb2⟩
  have HB2 := Lib.hid (((Below.refl _ w).alloc (Nat.le_refl _) (.cells noVst 54)).trans (hb2.mono (by rw [World.size_alloc]; omega)))
  have HM := Lib.hid (And.intro hme ((Blk.new w 54 noVst).below hb2 (by rw [World.size_alloc]; omega)))
  unfold ANode.val
  clear hmin hme hb2
  go_wp2_with fail
  refine (curParent_any tp u (Blk.below HX.out.1 HB2.out (Blk.lt HX.out.1))).mono ?_
  rintro e w' ⟨rfl, rfl⟩
  go_wp2_with fail
  have hup := nodeOf_any (SizeOf.sizeOf P + 1) P w2 (Nat.lt_succ_self _) (HP.out.1.below HB2.out (Nat.le_refl _)) (HX.out.2.2.1.below HB2.out (Nat.le_refl _))
  rw [HP.out.2.1] at hup
  refine hup.mono ?_
  clear hup
  rintro e w3 ⟨mu, rfl, hmin, hmue, _, hb3⟩
  have HB3 := Lib.hid (HB2.out.trans (hb3.mono HB2.out.size))
  have HM3 := Lib.hid (And.intro hmue (HM.out.2.below hb3 HM.out.2.lt))
  unfold ANode.val
  clear hmin hmue hb3
  have hkm : mu.kind = P.node.kind := by rw [← mu.erase_kind, HM3.out.1]
  obtain ⟨pk, hpk⟩ : ∃ pk, P.node.kind = pk := ⟨_, rfl⟩
  have hko : (pk.toList == [111, 116, 104, 101, 114]) = false := by
    have h0 : (pk.toList == sOther.toList) = false := beq_of_ne (by rw [← hpk]; exact kind_other P)
    rwa [show sOther.toList = [111, 116, 104, 101, 114] from by decide +kernel] at h0
  rw [hkm, hpk]
  have HK := Lib.hid hpk
  clear hkm hpk
  unfold sOther at *
  go_upto_region 4 with fail
  have hbW : Below w.heap.size w (((w3.alloc (.cells #[.string m.kind, .string m.text, .slice m.addr m.kids.length m.cap] 24)).alloc (.cells #[.string pk, .string mu.text, .slice mu.addr mu.kids.length mu.cap] 24)).alloc (.cells #[.bool post, .string m.kind, .string m.text, .string ⟨#[]⟩, .int .i64 (-1), .string ⟨#[]⟩] 54)) := by
    have h1 := HB3.out.size
    exact ((HB3.out.alloc h1 _).alloc (by rw [World.size_alloc]; omega) _).alloc (by rw [World.size_alloc, World.size_alloc]; omega) _
  have bR := ((HM3.out.2.alloc (.cells #[.string m.kind, .string m.text, .slice m.addr m.kids.length m.cap] 24)).alloc (.cells #[.string pk, .string mu.text, .slice mu.addr mu.kids.length mu.cap] 24)).alloc (.cells #[.bool post, .string m.kind, .string m.text, .string ⟨#[]⟩, .int .i64 (-1), .string ⟨#[]⟩] 54)
  have bO := Blk.new ((w3.alloc (.cells #[.string m.kind, .string m.text, .slice m.addr m.kids.length m.cap] 24)).alloc (.cells #[.string pk, .string mu.text, .slice mu.addr mu.kids.length mu.cap] 24)) 54 #[.bool post, .string m.kind, .string m.text, .string ⟨#[]⟩, .int .i64 (-1), .string ⟨#[]⟩]
  have bU := (Blk.new (w3.alloc (.cells #[.string m.kind, .string m.text, .slice m.addr m.kids.length m.cap] 24)) 24 #[.string pk, .string mu.text, .slice mu.addr mu.kids.length mu.cap]).alloc (.cells #[.bool post, .string m.kind, .string m.text, .string ⟨#[]⟩, .int .i64 (-1), .string ⟨#[]⟩] 54)
  rw [World.size_alloc, World.size_alloc] at bO
  rw [World.size_alloc] at bU
  generalize (((w3.alloc (.cells #[.string m.kind, .string m.text, .slice m.addr m.kids.length m.cap] 24)).alloc (.cells #[.string pk, .string mu.text, .slice mu.addr mu.kids.length mu.cap] 24)).alloc (.cells #[.bool post, .string m.kind, .string m.text, .string ⟨#[]⟩, .int .i64 (-1), .string ⟨#[]⟩] 54)) = w4 at hbW bR bO bU ⊢
  have hmk : m.kind = x.node.kind := by rw [← m.erase_kind, HM.out.1]
  have hmt : m.text = x.node.text := by rw [← m.erase_text, HM.out.1]
  have HMK := Lib.hid (And.intro hmk hmt)
  obtain ⟨mk, hk⟩ : ∃ y, m.kind = y := ⟨_, rfl⟩
  obtain ⟨mt, ht⟩ : ∃ y, m.text = y := ⟨_, rfl⟩
  rw [hk, ht] at HMK bO
  rw [hk, ht]
  obtain ⟨g, hg⟩ : ∃ g, w3.heap.size + 1 + 1 = g := ⟨_, rfl⟩
  obtain ⟨gu, hgu⟩ : ∃ g, w3.heap.size + 1 = g := ⟨_, rfl⟩
  obtain ⟨gr, hgr⟩ : ∃ g, w.heap.size = g := ⟨_, rfl⟩
  have hne : g ≠ gr ∧ w.heap.size ≤ gr ∧ w.heap.size ≤ g := by have := HM3.out.2.lt; omega
  have HX4 := Lib.hid (Blk.below HX.out.1 hbW (Blk.lt HX.out.1))
  rw [hg] at bO
  rw [hgu] at bU
  rw [hg, hgu]
  rw [hgr] at bR ⊢
  have HW := Lib.hid (And.intro hbW (And.intro bR (And.intro bO (And.intro bU (And.intro hne hgr)))))
  have b0 : w4.cell? ⟨gr, 0, none⟩ = some (.bool false) := bR.cell 0
  have b1 : w4.cell? ⟨gr, 1, none⟩ = some (.string ⟨#[]⟩) := bR.cell 1
  have b2 : w4.cell? ⟨gr, 2, none⟩ = some (.string ⟨#[]⟩) := bR.cell 2
  have b3 : w4.cell? ⟨gr, 3, none⟩ = some (.string ⟨#[]⟩) := bR.cell 3
  have b4 : w4.cell? ⟨gr, 4, none⟩ = some (.int .i64 0) := bR.cell 4
  have b5 : w4.cell? ⟨gr, 5, none⟩ = some (.string ⟨#[]⟩) := bR.cell 5
  have f0 := bR.frozen 0
  have f1 := bR.frozen 1
  have f2 := bR.frozen 2
  have f3 := bR.frozen 3
  have f4 := bR.frozen 4
  have f5 := bR.frozen 5
  have o0 : w4.cell? ⟨g, 0, none⟩ = some (.bool post) := bO.cell 0
  have o1 : w4.cell? ⟨g, 1, none⟩ = some (.string mk) := bO.cell 1
  have o2 : w4.cell? ⟨g, 2, none⟩ = some (.string mt) := bO.cell 2
  have o3 : w4.cell? ⟨g, 3, none⟩ = some (.string ⟨#[]⟩) := bO.cell 3
  have o4 : w4.cell? ⟨g, 4, none⟩ = some (.int .i64 (-1)) := bO.cell 4
  have o5 : w4.cell? ⟨g, 5, none⟩ = some (.string ⟨#[]⟩) := bO.cell 5
  have g3 := bO.frozen 3
  have g4 := bO.frozen 4
  have g5 := bO.frozen 5
  have u0 : w4.cell? ⟨gu, 0, none⟩ = some (.string pk) := bU.cell 0
  have zg := bO.lt
  have hgug : gu ≠ g := by omega
  clear hbW bR bO bU hmk hmt hk ht hg hgu hne hgr
  rcases HP.out.2.2 with ⟨hit, hix⟩ | ⟨hit, hix, hpos⟩
  · subst hit hix
    have HI := Lib.hid (fun (w' : World) (h : w'.heap = w4.heap) => curIndex_none (Blk.same HX4.out (by rw [h])))
    have HNm := Lib.hid (fun (w' : World) (h : w'.heap = w4.heap) => curName_any (Blk.same HX4.out (by rw [h])))
    have KU : Hid (∀ (w' : World) (o : Nat) (v : Value), w'.cell? ⟨gu, 0, none⟩ = some (.string pk) → (w'.setCell ⟨g, o, none⟩ v).cell? ⟨gu, 0, none⟩ = some (.string pk)) := fun w' o v h => (World.cell?_of_block (Below.heap_setCell _ _ _ _ (by exact hgug))).trans h
    go_region_held3 (fun w' => w'.cell? ⟨gu, 0, none⟩ = some (.string pk)) (first | (change (World.cell? (World.setCell _ _ _) _ = _); (repeat refine KU.out _ _ _ ?_); exact u0) | go_keep)
      (first
        | (go_at_call 44; refine (HNm.out _ (by rfl)).mono ?_; rintro e w5 ⟨rfl, rfl⟩)
        | (go_at_call 57; refine (HI.out _ (by rfl)).mono ?_; rintro e w5 ⟨rfl, rfl⟩))
    all_goals
      have bO5 : Blk ((((w4.setCell ⟨g, 3, none⟩ (.string nm)).setCell ⟨g, 4, none⟩ (.int .i64 (-1))).setCell ⟨g, 5, none⟩ (.string pk)).drew) g 54 #[.bool post, .string mk, .string mt, .string nm, .int .i64 (-1), .string pk] := (((HW.out.2.2.1.set_ 3 (.string nm)).set_ 4 (.int .i64 (-1))).set_ 5 (.string pk))
      have bR5 : Blk ((((w4.setCell ⟨g, 3, none⟩ (.string nm)).setCell ⟨g, 4, none⟩ (.int .i64 (-1))).setCell ⟨g, 5, none⟩ (.string pk)).drew) gr 54 noVst := (((HW.out.2.1.far (p := ⟨g, 3, none⟩) (Ne.symm HW.out.2.2.2.2.1.1) (.string nm)).far (p := ⟨g, 4, none⟩) (Ne.symm HW.out.2.2.2.2.1.1) (.int .i64 (-1))).far (p := ⟨g, 5, none⟩) (Ne.symm HW.out.2.2.2.2.1.1) (.string pk))
      have hb5 : Below w.heap.size w ((((w4.setCell ⟨g, 3, none⟩ (.string nm)).setCell ⟨g, 4, none⟩ (.int .i64 (-1))).setCell ⟨g, 5, none⟩ (.string pk)).drew) := (((HW.out.1.setCell HW.out.2.2.2.2.1.2.2 _).setCell HW.out.2.2.2.2.1.2.2 _).setCell HW.out.2.2.2.2.1.2.2 _).drew
      clear u0 b0 b1 b2 b3 b4 b5 f0 f1 f2 f3 f4 f5 o0 o1 o2 o3 o4 o5 g3 g4 g5
      generalize ((((w4.setCell ⟨g, 3, none⟩ (.string nm)).setCell ⟨g, 4, none⟩ (.int .i64 (-1))).setCell ⟨g, 5, none⟩ (.string pk)).drew) = w5 at bO5 bR5 hb5 ⊢
      have b0 : w5.cell? ⟨gr, 0, none⟩ = some (.bool false) := bR5.cell 0
      have b1 : w5.cell? ⟨gr, 1, none⟩ = some (.string ⟨#[]⟩) := bR5.cell 1
      have b2 : w5.cell? ⟨gr, 2, none⟩ = some (.string ⟨#[]⟩) := bR5.cell 2
      have b3 : w5.cell? ⟨gr, 3, none⟩ = some (.string ⟨#[]⟩) := bR5.cell 3
      have b4 : w5.cell? ⟨gr, 4, none⟩ = some (.int .i64 0) := bR5.cell 4
      have b5 : w5.cell? ⟨gr, 5, none⟩ = some (.string ⟨#[]⟩) := bR5.cell 5
      have f0 := bR5.frozen 0
      have f1 := bR5.frozen 1
      have f2 := bR5.frozen 2
      have f3 := bR5.frozen 3
      have f4 := bR5.frozen 4
      have f5 := bR5.frozen 5
      have o0 : w5.cell? ⟨g, 0, none⟩ = some (.bool post) := bO5.cell 0
      have o1 : w5.cell? ⟨g, 1, none⟩ = some (.string mk) := bO5.cell 1
      have o2 : w5.cell? ⟨g, 2, none⟩ = some (.string mt) := bO5.cell 2
      have o3 : w5.cell? ⟨g, 3, none⟩ = some (.string nm) := bO5.cell 3
      have o4 : w5.cell? ⟨g, 4, none⟩ = some (.int .i64 (-1)) := bO5.cell 4
      have o5 : w5.cell? ⟨g, 5, none⟩ = some (.string pk) := bO5.cell 5
      have HW5 := Lib.hid (And.intro bR5 hb5)
      clear bO5 bR5 hb5
      go_wp2_with fail
      refine bodyPost_ret (results_struct rfl rfl (load_vst (HW5.out.1.vst _ _ _ _ _ _) rfl rfl rfl rfl rfl rfl)) rfl ?_
      obtain ⟨e1, e2⟩ := HMK.out
      have e3 := HK.out
      subst e1 e2 e3
      refine ⟨rfl, ?_⟩
      have hb := HW5.out.2
      have hge := HW.out.2.2.2.2.1.2.1
      exact (((((hb.setCell hge _).setCell hge _).setCell hge _).setCell hge _).setCell hge _).setCell hge _
  · subst hit hix
    have HI := Lib.hid (fun (w' : World) (h : w'.heap = w4.heap) => curIndex_some (Blk.same HX4.out (by rw [h])))
    have hm1 : -1 ≤ idx := by omega
    have hm2 : ¬ idx < -1 := by omega
    have HNm := Lib.hid (fun (w' : World) (h : w'.heap = w4.heap) => curName_any (Blk.same HX4.out (by rw [h])))
    have KU : Hid (∀ (w' : World) (o : Nat) (v : Value), w'.cell? ⟨gu, 0, none⟩ = some (.string pk) → (w'.setCell ⟨g, o, none⟩ v).cell? ⟨gu, 0, none⟩ = some (.string pk)) := fun w' o v h => (World.cell?_of_block (Below.heap_setCell _ _ _ _ (by exact hgug))).trans h
    go_region_held3 (fun w' => w'.cell? ⟨gu, 0, none⟩ = some (.string pk)) (first | (change (World.cell? (World.setCell _ _ _) _ = _); (repeat refine KU.out _ _ _ ?_); exact u0) | go_keep)
      (first
        | (go_at_call 44; refine (HNm.out _ (by rfl)).mono ?_; rintro e w5 ⟨rfl, rfl⟩)
        | (go_at_call 57; refine (HI.out _ (by rfl)).mono ?_; rintro e w5 ⟨rfl, rfl⟩))
    all_goals
      rw [if_neg (show ¬ idx < -1 by omega)]
      have bO5 : Blk ((((w4.setCell ⟨g, 3, none⟩ (.string nm)).setCell ⟨g, 4, none⟩ (.int .i64 idx)).setCell ⟨g, 5, none⟩ (.string pk)).drew) g 54 #[.bool post, .string mk, .string mt, .string nm, .int .i64 idx, .string pk] := (((HW.out.2.2.1.set_ 3 (.string nm)).set_ 4 (.int .i64 idx)).set_ 5 (.string pk))
      have bR5 : Blk ((((w4.setCell ⟨g, 3, none⟩ (.string nm)).setCell ⟨g, 4, none⟩ (.int .i64 idx)).setCell ⟨g, 5, none⟩ (.string pk)).drew) gr 54 noVst := (((HW.out.2.1.far (p := ⟨g, 3, none⟩) (Ne.symm HW.out.2.2.2.2.1.1) (.string nm)).far (p := ⟨g, 4, none⟩) (Ne.symm HW.out.2.2.2.2.1.1) (.int .i64 idx)).far (p := ⟨g, 5, none⟩) (Ne.symm HW.out.2.2.2.2.1.1) (.string pk))
      have hb5 : Below w.heap.size w ((((w4.setCell ⟨g, 3, none⟩ (.string nm)).setCell ⟨g, 4, none⟩ (.int .i64 idx)).setCell ⟨g, 5, none⟩ (.string pk)).drew) := (((HW.out.1.setCell HW.out.2.2.2.2.1.2.2 _).setCell HW.out.2.2.2.2.1.2.2 _).setCell HW.out.2.2.2.2.1.2.2 _).drew
      clear u0 b0 b1 b2 b3 b4 b5 f0 f1 f2 f3 f4 f5 o0 o1 o2 o3 o4 o5 g3 g4 g5
      generalize ((((w4.setCell ⟨g, 3, none⟩ (.string nm)).setCell ⟨g, 4, none⟩ (.int .i64 idx)).setCell ⟨g, 5, none⟩ (.string pk)).drew) = w5 at bO5 bR5 hb5 ⊢
      have b0 : w5.cell? ⟨gr, 0, none⟩ = some (.bool false) := bR5.cell 0
      have b1 : w5.cell? ⟨gr, 1, none⟩ = some (.string ⟨#[]⟩) := bR5.cell 1
      have b2 : w5.cell? ⟨gr, 2, none⟩ = some (.string ⟨#[]⟩) := bR5.cell 2
      have b3 : w5.cell? ⟨gr, 3, none⟩ = some (.string ⟨#[]⟩) := bR5.cell 3
      have b4 : w5.cell? ⟨gr, 4, none⟩ = some (.int .i64 0) := bR5.cell 4
      have b5 : w5.cell? ⟨gr, 5, none⟩ = some (.string ⟨#[]⟩) := bR5.cell 5
      have f0 := bR5.frozen 0
      have f1 := bR5.frozen 1
      have f2 := bR5.frozen 2
      have f3 := bR5.frozen 3
      have f4 := bR5.frozen 4
      have f5 := bR5.frozen 5
      have o0 : w5.cell? ⟨g, 0, none⟩ = some (.bool post) := bO5.cell 0
      have o1 : w5.cell? ⟨g, 1, none⟩ = some (.string mk) := bO5.cell 1
      have o2 : w5.cell? ⟨g, 2, none⟩ = some (.string mt) := bO5.cell 2
      have o3 : w5.cell? ⟨g, 3, none⟩ = some (.string nm) := bO5.cell 3
      have o4 : w5.cell? ⟨g, 4, none⟩ = some (.int .i64 idx) := bO5.cell 4
      have o5 : w5.cell? ⟨g, 5, none⟩ = some (.string pk) := bO5.cell 5
      have HW5 := Lib.hid (And.intro bR5 hb5)
      clear bO5 bR5 hb5
      go_wp2_with fail
      refine bodyPost_ret (results_struct rfl rfl (load_vst (HW5.out.1.vst _ _ _ _ _ _) rfl rfl rfl rfl rfl rfl)) rfl ?_
      obtain ⟨e1, e2⟩ := HMK.out
      have e3 := HK.out
      subst e1 e2 e3
      refine ⟨rfl, ?_⟩
      have hb := HW5.out.2
      have hge := HW.out.2.2.2.2.1.2.1
      exact (((((hb.setCell hge _).setCell hge _).setCell hge _).setCell hge _).setCell hge _).setCell hge _
end Go.Proofs.YtgimbgpebpippaaGreatDoor
