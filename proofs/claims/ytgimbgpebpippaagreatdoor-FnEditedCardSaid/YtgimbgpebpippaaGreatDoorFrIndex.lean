/- The frame of apply at one kind of node: *ast.IndexExpr. -/
import Derived.Test.YtgimbgpebpippaaGreatDoorFrBase
namespace Go.Proofs.YtgimbgpebpippaaGreatDoor
open Go.RowKit
set_option maxRecDepth 100000
set_option maxHeartbeats 8000000
attribute [local go_sem] Tryz.taMissComment Tryz.taMissCommentGroup Tryz.taMissField Tryz.taMissFieldList Tryz.taMissBadExpr Tryz.taMissIdent Tryz.taMissBasicLit Tryz.taMissEllipsis Tryz.taMissFuncLit Tryz.taMissCompositeLit Tryz.taMissParenExpr Tryz.taMissSelectorExpr Tryz.taMissIndexExpr Tryz.taMissIndexListExpr Tryz.taMissSliceExpr Tryz.taMissTypeAssertExpr Tryz.taMissCallExpr Tryz.taMissStarExpr Tryz.taMissUnaryExpr Tryz.taMissBinaryExpr Tryz.taMissKeyValueExpr Tryz.taMissArrayType Tryz.taMissStructType Tryz.taMissFuncType Tryz.taMissInterfaceType Tryz.taMissMapType Tryz.taMissChanType Tryz.taMissBadStmt Tryz.taMissDeclStmt Tryz.taMissEmptyStmt Tryz.taMissLabeledStmt Tryz.taMissExprStmt Tryz.taMissSendStmt Tryz.taMissIncDecStmt Tryz.taMissAssignStmt Tryz.taMissGoStmt Tryz.taMissDeferStmt Tryz.taMissReturnStmt Tryz.taMissBranchStmt Tryz.taMissBlockStmt Tryz.taMissIfStmt Tryz.taMissCaseClause Tryz.taMissSwitchStmt Tryz.taMissTypeSwitchStmt Tryz.taMissCommClause Tryz.taMissSelectStmt Tryz.taMissForStmt Tryz.taMissRangeStmt Tryz.taMissImportSpec Tryz.taMissValueSpec Tryz.taMissTypeSpec Tryz.taMissBadDecl Tryz.taMissGenDecl Tryz.taMissFuncDecl Tryz.taMissFile Tryz.taMissPackage
attribute [local go_sem] neqNil neqFunc
section
variable {ba : Nat} {fp fq : Value} {w : World} {nm : ByteArray} {ix st : Int} {nm0 : ByteArray} {o0 o : Option Addr}
theorem isNil_Index (b : Nat) (w : World) : Calls Tryz.prog 85 #[.iface 142 (.pointer (some ⟨b, 0, none⟩))] w fun e w' => e = .returned (.bool false) ∧ w = w' := by
  have th : ∀ w, (Instr.typeAssert (.iface 142 (.pointer (some ⟨b, 0, none⟩))) 59 142 true).run Tryz.prog w = .ok (.tuple #[.pointer (some ⟨b, 0, none⟩), .bool true]) w := ta_hit Tryz.underlying142 _ _
  go_enter Tryz.func85, Tryz.ntmps85
  go_wp2_with fail
  go_ret
  exact ⟨rfl, rfl⟩
theorem frIndex_go {R1 R2 : Bool → World → Prop} {RC PC : World → Prop} {t : TypeId} {u : Value} {pv0 nv0 : Value} (b : Nat) (hpo : pv0.oneCell' = true) (hno : nv0.oneCell' = true) (happ : App w ba fp fq pv0 nm0 (.pointer o0) nv0 ix st)
    (h1 : FnSo fp ba (W7 w ba (.iface t u) nm (.pointer o) (.iface 142 (.pointer (some ⟨b, 0, none⟩))) #[pv0, .string nm0, .pointer o0, nv0]) R1) (y1 : ∀ r, Heapy (R1 r)) (f1 : ∀ r w1, R1 r w1 → Fr ba w.heap.size fp fq #[pv0, .string nm0, .pointer o0, nv0] w1)
    (hK : ∀ w1, R1 true w1 → (kThen (kOne ba b 0 (.iface 142 (.pointer (some ⟨b, 0, none⟩))) ⟨#[88]⟩) (kOne ba b 2 (.iface 142 (.pointer (some ⟨b, 0, none⟩))) ⟨#[73, 110, 100, 101, 120]⟩)) w1 RC PC) (yC : Heapy RC) (fC : ∀ w1, RC w1 → Fr ba w.heap.size fp fq #[pv0, .string nm0, .pointer o0, nv0] w1)
    (h2 : ∀ w1, RC w1 → FnSo fq ba w1 R2) (y2 : ∀ r, Heapy (R2 r)) (f2 : ∀ r w1, R2 r w1 → Fr ba w.heap.size fp fq #[pv0, .string nm0, .pointer o0, nv0] w1) :
    Calls Tryz.prog 68 #[.pointer (some ⟨ba, 0, none⟩), .iface t u, .string nm, .pointer o, (.iface 142 (.pointer (some ⟨b, 0, none⟩)))] w (FrOut ba pv0 nm0 (.pointer o0) nv0 (fun w1 => R1 false w1 ∨ R2 true w1) (fun w1 => PC w1 ∨ R2 false w1)) := by
  have H := Lib.hid (And.intro h1 (And.intro y1 (And.intro f1 (And.intro hK (And.intro yC (And.intro fC (And.intro h2 (And.intro y2 f2))))))))
  clear h1 y1 f1 hK yC fC h2 y2 f2
  have c0 : w.cell? ⟨ba, 0, none⟩ = some fp := Blk.cell happ 0
  have c1 : w.cell? ⟨ba, 1, none⟩ = some fq := Blk.cell happ 1
  have c2 : w.cell? ⟨ba, 2, none⟩ = some pv0 := Blk.cell happ 2
  have c3 : w.cell? ⟨ba, 2 + 1, none⟩ = some (.string nm0) := Blk.cell happ 3
  have c4 : w.cell? ⟨ba, 2 + 2, none⟩ = some (.pointer o0) := Blk.cell happ 4
  have c5 : w.cell? ⟨ba, 2 + 3, none⟩ = some nv0 := Blk.cell happ 5
  have i2 := Blk.frozen happ 2
  have i3 := Blk.frozen happ 3
  have i4 := Blk.frozen happ 4
  have i5 := Blk.frozen happ 5
  have hlt := Blk.lt happ
  have HA := Lib.hid happ
  clear happ
  have th : ∀ w, (Instr.typeAssert (.iface 142 (.pointer (some ⟨b, 0, none⟩))) 59 142 true).run Tryz.prog w = .ok (.tuple #[.pointer (some ⟨b, 0, none⟩), .bool true]) w := ta_hit Tryz.underlying142 _ _
  have HN := Lib.hid (fun w => isNil_Index b w)
  have hsp : ∀ (a : Addr) (m : Mode) (w : World), (store a pv0 m).run Tryz.prog w = stored Tryz.prog w a pv0 m := fun a m w => run_store Tryz.prog w a pv0 m hpo
  have hsn : ∀ (a : Addr) (m : Mode) (w : World), (store a nv0 m).run Tryz.prog w = stored Tryz.prog w a nv0 m := fun a m w => run_store Tryz.prog w a nv0 m hno
  go_enter Tryz.func68, Tryz.ntmps68
  go_wp2_with fail
  refine (HN.out _).mono ?_
  rintro e w1 ⟨rfl, rfl⟩
  go_wp2_with fail
  change Code.wp _ _ _ _ (W7 w ba (.iface t u) nm (.pointer o) (.iface 142 (.pointer (some ⟨b, 0, none⟩))) #[pv0, .string nm0, .pointer o0, nv0])
  have a7 := W7_app HA.out (.iface t u) nm (.pointer o) (.iface 142 (.pointer (some ⟨b, 0, none⟩))) #[pv0, .string nm0, .pointer o0, nv0]
  generalize W7 w ba (.iface t u) nm (.pointer o) (.iface 142 (.pointer (some ⟨b, 0, none⟩))) #[pv0, .string nm0, .pointer o0, nv0] = w7 at H a7 ⊢
  clear c0 c1 c2 c3 c4 c5 i2 i3 i4 i5
  obtain ⟨sb, hsb⟩ : ∃ sb, w.heap.size = sb := ⟨_, rfl⟩
  rw [hsb] at H ⊢
  have z7 := a7.lt
  go_cut [114] from 99 to 114 (fun v wx => ∃ k r : Bool, v = .bool k ∧ Hid (k = !r ∧ R1 r wx))
  case first =>
    rcases H.out.1 with ⟨e0, hr⟩ | ⟨F, cps, e0, mF, hpre⟩
    · have d0 : w7.cell? ⟨ba, 0, none⟩ = some .nilFunc := by rw [← e0]; exact Blk.cell a7 0
      have HR := Lib.hid hr
      clear a7 e0 hr
      go_quiet (fail)
      go_wp2_with fail
      go_meet
      exact ⟨false, true, rfl, rfl, H.out.2.1 _ w7 _ ⟨rfl, rfl, rfl, rfl⟩ HR.out⟩
    · have d0 : w7.cell? ⟨ba, 0, none⟩ = some (.func (.func F) #[] cps) := by rw [← e0]; exact Blk.cell a7 0
      have SOF : Hid (∀ (r : Bool) (w' : World), R1 r w' → w'.cell? ⟨ba, 0, none⟩ = some (.func (.func F) #[] cps)) := fun r w' hw => by
        obtain ⟨⟨a, b, c, d, e, f, h⟩, _⟩ := H.out.2.2.1 r w' hw
        rw [← e0]; exact h.cell 0
      have PW := Lib.hid hpre
      clear a7 e0 hpre
      go_region_held3 (fun w' => w'.cell? ⟨ba, 0, none⟩ = some (.func (.func F) #[] cps)) (go_keep)
        (first
          | ((with_reducible refine (PW.out _ ?_).mono ?_); (first | exact ⟨rfl, rfl, rfl, rfl⟩ | skip); rintro e w8 ⟨r, rfl, hr8⟩; have hS : w8.cell? ⟨ba, 0, none⟩ = some (.func (.func F) #[] cps) := SOF.out r w8 hr8))
      have HE := Lib.hid hr8
      clear hS hr8
      go_wp2_with fail
      go_meet
      exact ⟨!r, r, rfl, rfl, H.out.2.1 _ w8 _ ⟨rfl, rfl, rfl, rfl⟩ HE.out⟩
  case rest =>
    obtain ⟨k, r, rfl, hcut⟩ := hcut
    obtain ⟨rfl, hr1⟩ := hcut.out
    clear hcut
    have HC := Lib.hid hr1
    clear hr1
    cases r
    case false =>
      obtain ⟨⟨ca, cb, cc, cd, ce, cf, a8⟩, s8⟩ := H.out.2.2.1 _ wc HC.out
      have e0 : wc.cell? ⟨sb, 0, none⟩ = some pv0 := s8.cell 0
      have e1 : wc.cell? ⟨sb, 1, none⟩ = some (.string nm0) := s8.cell 1
      have e2 : wc.cell? ⟨sb, 2, none⟩ = some (.pointer o0) := s8.cell 2
      have e3 : wc.cell? ⟨sb, 3, none⟩ = some nv0 := s8.cell 3
      have d2 : wc.cell? ⟨ba, 2, none⟩ = some ca := Blk.cell a8 2
      have d3 : wc.cell? ⟨ba, 3, none⟩ = some cb := Blk.cell a8 3
      have d4 : wc.cell? ⟨ba, 4, none⟩ = some cc := Blk.cell a8 4
      have d5 : wc.cell? ⟨ba, 5, none⟩ = some cd := Blk.cell a8 5
      have g2 := Blk.frozen a8 2
      have g3 := Blk.frozen a8 3
      have g4 := Blk.frozen a8 4
      have g5 := Blk.frozen a8 5
      clear a8 s8
      simp only [Bool.not_false]
      go_wp2_with fail
      refine bodyPost_ret (results_none rfl _ _ _) rfl ?_
      exact .inl ⟨rfl, wc, .inl HC.out, rfl⟩
    case true =>
      simp only [Bool.not_true]
      have hk := Lib.hid (H.out.2.2.2.1 wc HC.out)
      obtain ⟨Ma, hka, hna⟩ := hk.out
      have HNa := Lib.hid hna
      obtain ⟨txa, vxa, hca, hqa⟩ := hka
      have HQa := Lib.hid hqa
      clear hqa hna
      go_wp2_with fail
      refine (HQa.out _ (by exact ⟨rfl, rfl, rfl, rfl⟩)).mono ?_
      rintro e wa (⟨rfl, hm⟩ | ⟨rfl, hp⟩)
      case inr =>
        have HP := Lib.hid hp
        clear hp
        go_wp2_with fail
        exact ⟨rfl, .inr ⟨rfl, .inl HP.out⟩⟩
      case inl =>
        have hk := Lib.hid (HNa.out _ hm)
        clear hm
        obtain ⟨txb, vxb, hcb, hqb⟩ := hk.out
        have HQb := Lib.hid hqb
        clear hqb
        go_wp2_with fail
        refine (HQb.out _ (by exact ⟨rfl, rfl, rfl, rfl⟩)).mono ?_
        rintro e wb (⟨rfl, hm⟩ | ⟨rfl, hp⟩)
        case inr =>
          have HP := Lib.hid hp
          clear hp
          go_wp2_with fail
          exact ⟨rfl, .inr ⟨rfl, .inl HP.out⟩⟩
        case inl =>
          have hk := Lib.hid hm
          clear hm
          have HR := Lib.hid hk.out
          clear hk
          go_wp2_with fail
          rcases H.out.2.2.2.2.2.2.1 wb HR.out with ⟨h1, hr⟩ | ⟨F, cps, h1, mF, hpost⟩
          · obtain ⟨⟨ca, cb, cc, cd, ce, cf, a8⟩, s8⟩ := H.out.2.2.2.2.2.1 wb HR.out
            have e0 : wb.cell? ⟨sb, 0, none⟩ = some pv0 := s8.cell 0
            have e1 : wb.cell? ⟨sb, 1, none⟩ = some (.string nm0) := s8.cell 1
            have e2 : wb.cell? ⟨sb, 2, none⟩ = some (.pointer o0) := s8.cell 2
            have e3 : wb.cell? ⟨sb, 3, none⟩ = some nv0 := s8.cell 3
            have d2 : wb.cell? ⟨ba, 2, none⟩ = some ca := Blk.cell a8 2
            have d3 : wb.cell? ⟨ba, 3, none⟩ = some cb := Blk.cell a8 3
            have d4 : wb.cell? ⟨ba, 4, none⟩ = some cc := Blk.cell a8 4
            have d5 : wb.cell? ⟨ba, 5, none⟩ = some cd := Blk.cell a8 5
            have g2 := Blk.frozen a8 2
            have g3 := Blk.frozen a8 3
            have g4 := Blk.frozen a8 4
            have g5 := Blk.frozen a8 5
            have d1 : wb.cell? ⟨ba, 1, none⟩ = some .nilFunc := by rw [← h1]; exact Blk.cell a8 1
            have HR2 := Lib.hid hr
            clear h1 hr a8 s8
            go_quiet (fail)
            go_wp2_with fail
            refine bodyPost_ret (results_none rfl _ _ _) rfl ?_
            exact .inl ⟨rfl, wb.drewN _, .inr (H.out.2.2.2.2.2.2.2.1 _ wb _ ⟨rfl, rfl, rfl, rfl⟩ HR2.out), rfl⟩
          · obtain ⟨⟨ca0, cb0, cc0, cd0, ce0, cf0, a8⟩, s8⟩ := H.out.2.2.2.2.2.1 wb HR.out
            have d1 : wb.cell? ⟨ba, 1, none⟩ = some (.func (.func F) #[] cps) := by rw [← h1]; exact Blk.cell a8 1
            have SOF : Hid (∀ (r : Bool) (w' : World), R2 r w' → w'.cell? ⟨ba, 1, none⟩ = some (.func (.func F) #[] cps)) := fun r w' hw => by
              obtain ⟨⟨a, b, c, d, e, f, h⟩, _⟩ := H.out.2.2.2.2.2.2.2.2 r w' hw
              rw [← h1]; exact h.cell 1
            have PW := Lib.hid hpost
            clear h1 hpost a8 s8
            go_region_held3 (fun w' => w'.cell? ⟨ba, 1, none⟩ = some (.func (.func F) #[] cps)) (go_keep)
              (first
                | ((with_reducible refine (PW.out _ ?_).mono ?_); (first | exact ⟨rfl, rfl, rfl, rfl⟩ | skip); rintro e w8 ⟨r, rfl, hr8⟩; have hS : w8.cell? ⟨ba, 1, none⟩ = some (.func (.func F) #[] cps) := SOF.out r w8 hr8))
            obtain ⟨⟨ca, cb, cc, cd, ce, cf, a8⟩, s8⟩ := H.out.2.2.2.2.2.2.2.2 r w8 hr8
            have HE := Lib.hid hr8
            have e0 : w8.cell? ⟨sb, 0, none⟩ = some pv0 := s8.cell 0
            have e1 : w8.cell? ⟨sb, 1, none⟩ = some (.string nm0) := s8.cell 1
            have e2 : w8.cell? ⟨sb, 2, none⟩ = some (.pointer o0) := s8.cell 2
            have e3 : w8.cell? ⟨sb, 3, none⟩ = some nv0 := s8.cell 3
            have d2 : w8.cell? ⟨ba, 2, none⟩ = some ca := Blk.cell a8 2
            have d3 : w8.cell? ⟨ba, 3, none⟩ = some cb := Blk.cell a8 3
            have d4 : w8.cell? ⟨ba, 4, none⟩ = some cc := Blk.cell a8 4
            have d5 : w8.cell? ⟨ba, 5, none⟩ = some cd := Blk.cell a8 5
            have g2 := Blk.frozen a8 2
            have g3 := Blk.frozen a8 3
            have g4 := Blk.frozen a8 4
            have g5 := Blk.frozen a8 5
            clear a8 s8 hr8 hS
            cases r
            case false =>
              go_wp2_with fail
              exact ⟨rfl, .inr ⟨rfl, .inr (H.out.2.2.2.2.2.2.2.1 _ w8 _ ⟨rfl, rfl, rfl, rfl⟩ HE.out)⟩⟩
            case true =>
              go_wp2_with fail
              refine bodyPost_ret (results_none rfl _ _ _) rfl ?_
              first | exact .inl ⟨rfl, w8, .inr HE.out, rfl⟩ | exact .inl ⟨rfl, w8.drew, .inr (H.out.2.2.2.2.2.2.2.1 _ w8 _ ⟨rfl, rfl, rfl, rfl⟩ HE.out), rfl⟩
/-- The frame at *ast.IndexExpr. -/
theorem frIndex (ba b : Nat) : FrameRule ba (.iface 142 (.pointer (some ⟨b, 0, none⟩))) (kThen (kOne ba b 0 (.iface 142 (.pointer (some ⟨b, 0, none⟩))) ⟨#[88]⟩) (kOne ba b 2 (.iface 142 (.pointer (some ⟨b, 0, none⟩))) ⟨#[73, 110, 100, 101, 120]⟩)) := by
  intro w fp fq t u nm o ix st pv0 nm0 o0 nv0 R1 RC R2 PC ha hold h1 y1 f1 hK yC fC h2 y2 f2
  exact frIndex_go b hold.one.1 hold.one.2 ha h1 y1 f1 hK yC fC h2 y2 f2
end
end Go.Proofs.YtgimbgpebpippaaGreatDoor
