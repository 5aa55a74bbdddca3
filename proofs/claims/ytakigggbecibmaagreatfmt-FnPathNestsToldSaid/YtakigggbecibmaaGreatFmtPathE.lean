/- walkList of one element, and Walk of each kind of node. -/
import Derived.Test.YtakigggbecibmaaGreatFmtPathD
namespace Go.Proofs.YtakigggbecibmaaGreatFmt
open Go.RowKit
set_option maxRecDepth 100000
set_option maxHeartbeats 4000000

/-- A child that is not the node itself, whatever world it is asked in. -/
def Other (B : Nat) (w : World) (u nv : Value) : Prop := ∀ w', Below B w w' → (binOp .eql 52 u nv).run Tryz.prog w' = .ok (.bool false) w'
def Selfsame (B : Nat) (w : World) (nv : Value) : Prop := ∀ w', Below B w w' → (binOp .eql 52 nv nv).run Tryz.prog w' = .ok (.bool true) w'
theorem other_type {B : Nat} {w : World} {tu tn : TypeId} {pu pn : Value} (h : tu ≠ tn) : Other B w (.iface tu pu) (.iface tn pn) := fun w' _ => run_eql_iface_types tu tn pu pn Tryz.underlying52 h w'
theorem Other.below {B : Nat} {w w' : World} {u nv : Value} (h : Other B w u nv) (hb : Below B w w') : Other B w' u nv := fun x hx => h x (hb.trans hx)
theorem Selfsame.below {B : Nat} {w w' : World} {nv : Value} (h : Selfsame B w nv) (hb : Below B w w') : Selfsame B w' nv := fun x hx => h x (hb.trans hx)

theorem walkListIdent_one (w : World) (B bn bc : Nat) (nv v : Value) (xs : List Value) (b g c : Nat) (h : ClSt w B bn bc nv v xs) (hB : B ≤ w.heap.size) (hlen : xs.length ≤ 100) (hg : g < B) (hc : w.cell? ⟨g, 0, none⟩ = some (ptr b)) (hq : Other B w (.iface 68 (ptr b)) nv) :
    Calls Tryz.prog 44 #[clIf bn bc, .slice (some ⟨g, 0, none⟩) 1 c] w (Took w B bn bc nv (xs ++ [(.iface 68 (ptr b))]) (.tuple #[])) := by
  have H := Lib.hid (And.intro h hq)
  clear h hq
  go_enter Tryz.func44, Tryz.ntmps44
  go_wp2_with fail
  go_loopw [8] (fun i wr => ∃ (j : Nat) (v' : Value), j ≤ 1 ∧ i = .int .i64 j ∧ Hid (ClSt wr B bn bc nv v' (if j = 0 then xs else xs ++ [(.iface 68 (ptr b))])) ∧ Below B w wr) (fun i _ => 1 - (intOf i).toNat)
  case atStart => exact ⟨0, v, by omega, rfl, H.out.1, Below.refl _ _⟩
  case round =>
    obtain ⟨j, v', hj, rfl, hst, hb⟩ := hrel
    have hsize := hb.size
    by_cases hlt : j < 1
    · obtain rfl : j = 0 := by omega
      have hc' := (hb.cell (p := ⟨g, 0, none⟩) hg).trans hc
      have HB := Lib.hid hb
      clear hb
      go_wp2_with fail
      refine (walk_child wr B bn bc nv v' _ 68 (ptr b) xs rfl hst.out (by omega) hlen (H.out.2 wr HB.out)).mono ?_
      rintro e w' ⟨v2, rfl, h1, h2⟩
      have HH := Lib.hid (And.intro h1 h2)
      clear h1 h2
      go_wp2_with fail
      go_roundw
      case rel => exact ⟨1, v2, by omega, by go_num, HH.out.1, HB.out.trans HH.out.2⟩
      case measure => simp [intOf]
    · obtain rfl : j = 1 := by omega
      have HB := Lib.hid hb
      clear hb
      go_wp2_with fail
      go_end0
      exact ⟨v', rfl, hst.out, HB.out⟩

theorem walkListExpr_one (w : World) (B bn bc : Nat) (nv v : Value) (xs : List Value) (u : Value) (tu : TypeId) (pu : Value) (g c : Nat) (hu : u = .iface tu pu) (h : ClSt w B bn bc nv v xs) (hB : B ≤ w.heap.size) (hlen : xs.length ≤ 100) (hg : g < B) (hc : w.cell? ⟨g, 0, none⟩ = some u) (hq : Other B w u nv) :
    Calls Tryz.prog 46 #[clIf bn bc, .slice (some ⟨g, 0, none⟩) 1 c] w (Took w B bn bc nv (xs ++ [u]) (.tuple #[])) := by
  subst hu
  have H := Lib.hid (And.intro h hq)
  clear h hq
  go_enter Tryz.func46, Tryz.ntmps46
  go_wp2_with fail
  go_loopw [8] (fun i wr => ∃ (j : Nat) (v' : Value), j ≤ 1 ∧ i = .int .i64 j ∧ Hid (ClSt wr B bn bc nv v' (if j = 0 then xs else xs ++ [(.iface tu pu)])) ∧ Below B w wr) (fun i _ => 1 - (intOf i).toNat)
  case atStart => exact ⟨0, v, by omega, rfl, H.out.1, Below.refl _ _⟩
  case round =>
    obtain ⟨j, v', hj, rfl, hst, hb⟩ := hrel
    have hsize := hb.size
    by_cases hlt : j < 1
    · obtain rfl : j = 0 := by omega
      have hc' := (hb.cell (p := ⟨g, 0, none⟩) hg).trans hc
      have HB := Lib.hid hb
      clear hb
      go_wp2_with fail
      refine (walk_child wr B bn bc nv v' _ tu pu xs rfl hst.out (by omega) hlen (H.out.2 wr HB.out)).mono ?_
      rintro e w' ⟨v2, rfl, h1, h2⟩
      have HH := Lib.hid (And.intro h1 h2)
      clear h1 h2
      go_wp2_with fail
      go_roundw
      case rel => exact ⟨1, v2, by omega, by go_num, HH.out.1, HB.out.trans HH.out.2⟩
      case measure => simp [intOf]
    · obtain rfl : j = 1 := by omega
      have HB := Lib.hid hb
      clear hb
      go_wp2_with fail
      go_end0
      exact ⟨v', rfl, hst.out, HB.out⟩

theorem walkListSpec_one (w : World) (B bn bc : Nat) (nv v : Value) (xs : List Value) (u : Value) (tu : TypeId) (pu : Value) (g c : Nat) (hu : u = .iface tu pu) (h : ClSt w B bn bc nv v xs) (hB : B ≤ w.heap.size) (hlen : xs.length ≤ 100) (hg : g < B) (hc : w.cell? ⟨g, 0, none⟩ = some u) (hq : Other B w u nv) :
    Calls Tryz.prog 48 #[clIf bn bc, .slice (some ⟨g, 0, none⟩) 1 c] w (Took w B bn bc nv (xs ++ [u]) (.tuple #[])) := by
  subst hu
  have H := Lib.hid (And.intro h hq)
  clear h hq
  go_enter Tryz.func48, Tryz.ntmps48
  go_wp2_with fail
  go_loopw [8] (fun i wr => ∃ (j : Nat) (v' : Value), j ≤ 1 ∧ i = .int .i64 j ∧ Hid (ClSt wr B bn bc nv v' (if j = 0 then xs else xs ++ [(.iface tu pu)])) ∧ Below B w wr) (fun i _ => 1 - (intOf i).toNat)
  case atStart => exact ⟨0, v, by omega, rfl, H.out.1, Below.refl _ _⟩
  case round =>
    obtain ⟨j, v', hj, rfl, hst, hb⟩ := hrel
    have hsize := hb.size
    by_cases hlt : j < 1
    · obtain rfl : j = 0 := by omega
      have hc' := (hb.cell (p := ⟨g, 0, none⟩) hg).trans hc
      have HB := Lib.hid hb
      clear hb
      go_wp2_with fail
      refine (walk_child wr B bn bc nv v' _ tu pu xs rfl hst.out (by omega) hlen (H.out.2 wr HB.out)).mono ?_
      rintro e w' ⟨v2, rfl, h1, h2⟩
      have HH := Lib.hid (And.intro h1 h2)
      clear h1 h2
      go_wp2_with fail
      go_roundw
      case rel => exact ⟨1, v2, by omega, by go_num, HH.out.1, HB.out.trans HH.out.2⟩
      case measure => simp [intOf]
    · obtain rfl : j = 1 := by omega
      have HB := Lib.hid hb
      clear hb
      go_wp2_with fail
      go_end0
      exact ⟨v', rfl, hst.out, HB.out⟩

theorem walkListDecl_one (w : World) (B bn bc : Nat) (nv v : Value) (xs : List Value) (u : Value) (tu : TypeId) (pu : Value) (g c : Nat) (hu : u = .iface tu pu) (h : ClSt w B bn bc nv v xs) (hB : B ≤ w.heap.size) (hlen : xs.length ≤ 100) (hg : g < B) (hc : w.cell? ⟨g, 0, none⟩ = some u) (hq : Other B w u nv) :
    Calls Tryz.prog 49 #[clIf bn bc, .slice (some ⟨g, 0, none⟩) 1 c] w (Took w B bn bc nv (xs ++ [u]) (.tuple #[])) := by
  subst hu
  have H := Lib.hid (And.intro h hq)
  clear h hq
  go_enter Tryz.func49, Tryz.ntmps49
  go_wp2_with fail
  go_loopw [8] (fun i wr => ∃ (j : Nat) (v' : Value), j ≤ 1 ∧ i = .int .i64 j ∧ Hid (ClSt wr B bn bc nv v' (if j = 0 then xs else xs ++ [(.iface tu pu)])) ∧ Below B w wr) (fun i _ => 1 - (intOf i).toNat)
  case atStart => exact ⟨0, v, by omega, rfl, H.out.1, Below.refl _ _⟩
  case round =>
    obtain ⟨j, v', hj, rfl, hst, hb⟩ := hrel
    have hsize := hb.size
    by_cases hlt : j < 1
    · obtain rfl : j = 0 := by omega
      have hc' := (hb.cell (p := ⟨g, 0, none⟩) hg).trans hc
      have HB := Lib.hid hb
      clear hb
      go_wp2_with fail
      refine (walk_child wr B bn bc nv v' _ tu pu xs rfl hst.out (by omega) hlen (H.out.2 wr HB.out)).mono ?_
      rintro e w' ⟨v2, rfl, h1, h2⟩
      have HH := Lib.hid (And.intro h1 h2)
      clear h1 h2
      go_wp2_with fail
      go_roundw
      case rel => exact ⟨1, v2, by omega, by go_num, HH.out.1, HB.out.trans HH.out.2⟩
      case measure => simp [intOf]
    · obtain rfl : j = 1 := by omega
      have HB := Lib.hid hb
      clear hb
      go_wp2_with fail
      go_end0
      exact ⟨v', rfl, hst.out, HB.out⟩
attribute [local go_sem] Tryz.taMissComment Tryz.taMissCommentGroup Tryz.taMissField Tryz.taMissFieldList Tryz.taMissBadExpr Tryz.taMissIdent Tryz.taMissBasicLit Tryz.taMissEllipsis Tryz.taMissFuncLit Tryz.taMissCompositeLit Tryz.taMissParenExpr Tryz.taMissSelectorExpr Tryz.taMissIndexExpr Tryz.taMissIndexListExpr Tryz.taMissSliceExpr Tryz.taMissTypeAssertExpr Tryz.taMissCallExpr Tryz.taMissStarExpr Tryz.taMissUnaryExpr Tryz.taMissBinaryExpr Tryz.taMissKeyValueExpr Tryz.taMissArrayType Tryz.taMissStructType Tryz.taMissFuncType Tryz.taMissInterfaceType Tryz.taMissMapType Tryz.taMissChanType Tryz.taMissBadStmt Tryz.taMissDeclStmt Tryz.taMissEmptyStmt Tryz.taMissLabeledStmt Tryz.taMissExprStmt Tryz.taMissSendStmt Tryz.taMissIncDecStmt Tryz.taMissAssignStmt Tryz.taMissGoStmt Tryz.taMissDeferStmt Tryz.taMissReturnStmt Tryz.taMissBranchStmt Tryz.taMissBlockStmt Tryz.taMissIfStmt Tryz.taMissCaseClause Tryz.taMissSwitchStmt Tryz.taMissTypeSwitchStmt Tryz.taMissCommClause Tryz.taMissSelectStmt Tryz.taMissForStmt Tryz.taMissRangeStmt Tryz.taMissImportSpec Tryz.taMissValueSpec Tryz.taMissTypeSpec Tryz.taMissBadDecl Tryz.taMissGenDecl Tryz.taMissFuncDecl Tryz.taMissFile Tryz.taMissPackage Tryz.taHitBinaryExpr Tryz.taHitValueSpec Tryz.taHitGenDecl Tryz.taHitFile Tryz.taHitIdent

theorem walk_bin (w : World) (B bn bc b : Nat) (v x y p q : Value) (tx ty : TypeId) (px py : Value) (hx : x = .iface tx px) (hy : y = .iface ty py) (hn : Blk w b 82 #[x, p, q, y]) (hbB : b < B)
    (h : ClSt w B bn bc (.iface 79 (ptr b)) v []) (hB : B ≤ w.heap.size) (hs : Selfsame B w (.iface 79 (ptr b))) (ho1 : Other B w x (.iface 79 (ptr b))) (ho2 : Other B w y (.iface 79 (ptr b))) :
    Calls Tryz.prog 39 #[clIf bn bc, .iface 79 (ptr b)] w (Took w B bn bc (.iface 79 (ptr b)) [x, y] (.tuple #[])) := by
  subst hx; subst hy
  have k0 : w.cell? ⟨b, 0, none⟩ = some (.iface tx px) := hn.cell 0
  have k3 : w.cell? ⟨b, 3, none⟩ = some (.iface ty py) := hn.cell 3
  have H := Lib.hid (And.intro h (And.intro hs (And.intro ho1 ho2)))
  clear h hs ho1 ho2 hn
  go_enter Tryz.func39, Tryz.ntmps39
  go_wp2_with fail
  refine (visit_self w B bn bc _ v _ _ [] rfl H.out.1 (H.out.2.1 w (Below.refl _ _))).mono ?_
  rintro e w1 ⟨rfl, rfl⟩
  go_wp2_with fail
  refine (walk_child w B bn bc _ v _ tx px [] rfl H.out.1 hB (by simp) (H.out.2.2.1 w (Below.refl _ _))).mono ?_
  rintro e w1 ⟨v1, rfl, h1, h2⟩
  have k3' := (h2.cell (p := ⟨b, 3, none⟩) hbB).trans k3
  have H1 := Lib.hid (And.intro h1 h2)
  have z1 := h2.size
  clear h1 h2
  go_wp2_with fail
  refine (walk_child w1 B bn bc _ v1 _ ty py _ rfl H1.out.1 (by omega) (by simp) (H.out.2.2.2 w1 H1.out.2)).mono ?_
  rintro e w2 ⟨v2, rfl, h1, h2⟩
  have H2 := Lib.hid (And.intro h1 h2)
  clear h1 h2
  go_wp2_with fail
  refine (visit_nil w2 B bn bc _ v2 _ _ _ rfl H2.out.1).mono ?_
  rintro e w3 ⟨rfl, rfl⟩
  go_wp2_with fail
  go_end0
  exact ⟨v2, rfl, H2.out.1, H1.out.2.trans H2.out.2⟩

theorem walk_ident (w : World) (B bn bc b : Nat) (v : Value)  (_hbB : b < B)
    (h : ClSt w B bn bc (.iface 68 (ptr b)) v []) (_hB : B ≤ w.heap.size) (hs : Selfsame B w (.iface 68 (ptr b))) :
    Calls Tryz.prog 39 #[clIf bn bc, .iface 68 (ptr b)] w (Took w B bn bc (.iface 68 (ptr b)) [] (.tuple #[])) := by
  have H := Lib.hid (And.intro h hs)
  clear h hs
  go_enter Tryz.func39, Tryz.ntmps39
  go_wp2_with fail
  refine (visit_self w B bn bc _ v _ _ [] rfl H.out.1 (H.out.2 w (Below.refl _ _))).mono ?_
  rintro e w1 ⟨rfl, rfl⟩
  go_wp2_with fail
  refine (visit_nil w B bn bc _ v _ _ _ rfl H.out.1).mono ?_
  rintro e w9 ⟨rfl, rfl⟩
  go_wp2_with fail
  go_end0
  exact ⟨v, rfl, H.out.1, Below.refl _ _⟩

theorem walk_spec (w : World) (B bn bc b : Nat) (v : Value) (gN cN gV cV bV : Nat) (x : Value) (tx : TypeId) (px : Value) (hx : x = .iface tx px) (hbB : b < B) (hgN : gN < B) (hgV : gV < B) (hne : tx ≠ 83) (hn : Blk w b 87 #[.pointer none, .slice (some ⟨gN, 0, none⟩) 1 cN, .nilIface, .slice (some ⟨gV, 0, none⟩) 1 cV, .pointer none]) (hl1 : Blk w gN 68 #[ptr bV]) (hl2 : Blk w gV 75 #[x])
    (h : ClSt w B bn bc (.iface 83 (ptr b)) v []) (hB : B ≤ w.heap.size) (hs : Selfsame B w (.iface 83 (ptr b))) :
    Calls Tryz.prog 39 #[clIf bn bc, .iface 83 (ptr b)] w (Took w B bn bc (.iface 83 (ptr b)) [.iface 68 (ptr bV), x] (.tuple #[])) := by
  subst hx
  have k0 : w.cell? ⟨b, 0, none⟩ = some (.pointer none) := hn.cell 0
  have k1 : w.cell? ⟨b, 1, none⟩ = some (.slice (some ⟨gN, 0, none⟩) 1 cN) := hn.cell 1
  have k2 : w.cell? ⟨b, 2, none⟩ = some .nilIface := hn.cell 2
  have k3 : w.cell? ⟨b, 3, none⟩ = some (.slice (some ⟨gV, 0, none⟩) 1 cV) := hn.cell 3
  have k4 : w.cell? ⟨b, 4, none⟩ = some (.pointer none) := hn.cell 4
  have k5 : w.cell? ⟨gN, 0, none⟩ = some (ptr bV) := hl1.cell 0
  have k6 : w.cell? ⟨gV, 0, none⟩ = some (.iface tx px) := hl2.cell 0
  clear hn hl1 hl2
  have H := Lib.hid (And.intro h hs)
  clear h hs
  go_enter Tryz.func39, Tryz.ntmps39
  go_wp2_with fail
  refine (visit_self w B bn bc _ v _ _ [] rfl H.out.1 (H.out.2 w (Below.refl _ _))).mono ?_
  rintro e w1 ⟨rfl, rfl⟩
  go_wp2_with fail
  refine (walkListIdent_one w B bn bc _ v _ bV gN cN H.out.1 (by omega) (by simp) hgN (by assumption) (other_type (by decide))).mono ?_
  rintro e w1 ⟨v1, rfl, h1, h2⟩
  have hb1 : Below B w w1 := h2
  have HB1 := Lib.hid hb1
  have z1 := hb1.size
  have k2_1 := (hb1.cell (p := ⟨b, 2, none⟩) hbB).trans k2
  have k3_1 := (hb1.cell (p := ⟨b, 3, none⟩) hbB).trans k3
  have k4_1 := (hb1.cell (p := ⟨b, 4, none⟩) hbB).trans k4
  have k6_1 := (hb1.cell (p := ⟨gV, 0, none⟩) hgV).trans k6
  have H1 := Lib.hid h1
  clear h1 h2 hb1
  go_wp2_with fail
  refine (walkListExpr_one w1 B bn bc _ v1 _ _ tx px gV cV rfl H1.out (by omega) (by simp) hgV (by assumption) (other_type hne)).mono ?_
  rintro e w2 ⟨v2, rfl, h1, h2⟩
  have hb2 : Below B w w2 := Below.trans HB1.out h2
  have HB2 := Lib.hid hb2
  have z2 := hb2.size
  have k2_2 := (hb2.cell (p := ⟨b, 2, none⟩) hbB).trans k2
  have k3_2 := (hb2.cell (p := ⟨b, 3, none⟩) hbB).trans k3
  have k4_2 := (hb2.cell (p := ⟨b, 4, none⟩) hbB).trans k4
  have k6_2 := (hb2.cell (p := ⟨gV, 0, none⟩) hgV).trans k6
  have H2 := Lib.hid h1
  clear h1 h2 hb2
  go_wp2_with fail
  refine (visit_nil w2 B bn bc _ v2 _ _ _ rfl H2.out).mono ?_
  rintro e w9 ⟨rfl, rfl⟩
  go_wp2_with fail
  go_end0
  exact ⟨v2, rfl, H2.out, HB2.out⟩

theorem walk_decl (w : World) (B bn bc b : Nat) (v : Value) (gS cS : Nat) (v1 v2 v3 v5 x : Value) (tx : TypeId) (px : Value) (hx : x = .iface tx px) (_hbB : b < B) (hgS : gS < B) (hne : tx ≠ 88) (hn : Blk w b 91 #[.pointer none, v1, v2, v3, .slice (some ⟨gS, 0, none⟩) 1 cS, v5]) (hl1 : Blk w gS 266 #[x])
    (h : ClSt w B bn bc (.iface 88 (ptr b)) v []) (hB : B ≤ w.heap.size) (hs : Selfsame B w (.iface 88 (ptr b))) :
    Calls Tryz.prog 39 #[clIf bn bc, .iface 88 (ptr b)] w (Took w B bn bc (.iface 88 (ptr b)) [x] (.tuple #[])) := by
  subst hx
  have k0 : w.cell? ⟨b, 0, none⟩ = some (.pointer none) := hn.cell 0
  have k4 : w.cell? ⟨b, 4, none⟩ = some (.slice (some ⟨gS, 0, none⟩) 1 cS) := hn.cell 4
  have k6 : w.cell? ⟨gS, 0, none⟩ = some (.iface tx px) := hl1.cell 0
  clear hn hl1
  have H := Lib.hid (And.intro h hs)
  clear h hs
  go_enter Tryz.func39, Tryz.ntmps39
  go_wp2_with fail
  refine (visit_self w B bn bc _ v _ _ [] rfl H.out.1 (H.out.2 w (Below.refl _ _))).mono ?_
  rintro e w1 ⟨rfl, rfl⟩
  go_wp2_with fail
  refine (walkListSpec_one w B bn bc _ v _ _ tx px gS cS rfl H.out.1 (by omega) (by simp) hgS (by assumption) (other_type hne)).mono ?_
  rintro e w1 ⟨v1, rfl, h1, h2⟩
  have hb1 : Below B w w1 := h2
  have HB1 := Lib.hid hb1
  have z1 := hb1.size
  have H1 := Lib.hid h1
  clear h1 h2 hb1
  go_wp2_with fail
  refine (visit_nil w1 B bn bc _ v1 _ _ _ rfl H1.out).mono ?_
  rintro e w9 ⟨rfl, rfl⟩
  go_wp2_with fail
  go_end0
  exact ⟨v1, rfl, H1.out, HB1.out⟩

theorem walk_file (w : World) (B bn bc b : Nat) (v : Value) (gD cD bN : Nat) (v1 v4 v5 v6 v7 v8 v9 v10 x : Value) (tx : TypeId) (px : Value) (hx : x = .iface tx px) (hbB : b < B) (hgD : gD < B) (hne : tx ≠ 48) (hn : Blk w b 97 #[.pointer none, v1, ptr bN, .slice (some ⟨gD, 0, none⟩) 1 cD, v4, v5, v6, v7, v8, v9, v10]) (hl1 : Blk w gD 228 #[x])
    (h : ClSt w B bn bc (.iface 48 (ptr b)) v []) (hB : B ≤ w.heap.size) (hs : Selfsame B w (.iface 48 (ptr b))) :
    Calls Tryz.prog 39 #[clIf bn bc, .iface 48 (ptr b)] w (Took w B bn bc (.iface 48 (ptr b)) [.iface 68 (ptr bN), x] (.tuple #[])) := by
  subst hx
  have k0 : w.cell? ⟨b, 0, none⟩ = some (.pointer none) := hn.cell 0
  have k2 : w.cell? ⟨b, 2, none⟩ = some (ptr bN) := hn.cell 2
  have k3 : w.cell? ⟨b, 3, none⟩ = some (.slice (some ⟨gD, 0, none⟩) 1 cD) := hn.cell 3
  have k6 : w.cell? ⟨gD, 0, none⟩ = some (.iface tx px) := hl1.cell 0
  clear hn hl1
  have H := Lib.hid (And.intro h hs)
  clear h hs
  go_enter Tryz.func39, Tryz.ntmps39
  go_wp2_with fail
  refine (visit_self w B bn bc _ v _ _ [] rfl H.out.1 (H.out.2 w (Below.refl _ _))).mono ?_
  rintro e w1 ⟨rfl, rfl⟩
  go_wp2_with fail
  refine (walk_child w B bn bc _ v _ _ _ [] rfl H.out.1 (by omega) (by simp) (other_type (B := B) (w := w) (by decide) w (Below.refl _ _))).mono ?_
  rintro e w1 ⟨v1, rfl, h1, h2⟩
  have hb1 : Below B w w1 := h2
  have HB1 := Lib.hid hb1
  have z1 := hb1.size
  have k3_1 := (hb1.cell (p := ⟨b, 3, none⟩) hbB).trans k3
  have k6_1 := (hb1.cell (p := ⟨gD, 0, none⟩) hgD).trans k6
  have H1 := Lib.hid h1
  clear h1 h2 hb1
  go_wp2_with fail
  refine (walkListDecl_one w1 B bn bc _ v1 _ _ tx px gD cD rfl H1.out (by omega) (by simp) hgD (by assumption) (other_type hne)).mono ?_
  rintro e w2 ⟨v2, rfl, h1, h2⟩
  have hb2 : Below B w w2 := Below.trans HB1.out h2
  have HB2 := Lib.hid hb2
  have z2 := hb2.size
  have k3_2 := (hb2.cell (p := ⟨b, 3, none⟩) hbB).trans k3
  have k6_2 := (hb2.cell (p := ⟨gD, 0, none⟩) hgD).trans k6
  have H2 := Lib.hid h1
  clear h1 h2 hb2
  go_wp2_with fail
  refine (visit_nil w2 B bn bc _ v2 _ _ _ rfl H2.out).mono ?_
  rintro e w9 ⟨rfl, rfl⟩
  go_wp2_with fail
  go_end0
  exact ⟨v2, rfl, H2.out, HB2.out⟩
end Go.Proofs.YtakigggbecibmaaGreatFmt
