/- The laws' guards: what zzFits9, zzFits8, AreTerms and isTerm9 answer. -/
import Derived.Test.YtakigggbecibmaaGreatFmtPathB
import Derived.WalkLawsBesides
import Derived.Deep.CutBlock
namespace Go.Proofs.YtakigggbecibmaaGreatFmt
open Go.RowKit
set_option maxRecDepth 100000
set_option maxHeartbeats 4000000

/-- A bool that a call answers: if it is true, p holds. -/
def Says (p : Prop) (w : World) (e : Ending) (w' : World) : Prop := ∃ b : Bool, e = .returned (.bool b) ∧ (b = true → p) ∧ Below w.heap.size w w'

theorem fits9_any (nm : ByteArray) (be af : Int) (w : World) : Calls Tryz.prog 19 #[.agg #[.string nm, .int .i64 be, .int .i64 af]] w (Says (nm.size ≤ 2147483647) w) := by
  by_cases h : (2147483647 : Int) < (nm.size : Int)
  · go_enter Tryz.func19, Tryz.ntmps19
    go_wp2_with fail
    go_ret
    exact ⟨_, rfl, (fun h => by cases h), by go_grown⟩
  · go_enter Tryz.func19, Tryz.ntmps19
    go_wp2_with fail
    go_ret
    exact ⟨_, rfl, fun _ => by omega, by go_grown⟩
theorem below_alloc_then {w w1 : World} {o : Obj} (h : Below (w.alloc o).heap.size (w.alloc o) w1) : Below w.heap.size w w1 :=
  ((Below.refl _ w).alloc (Nat.le_refl _) o).trans (h.mono (by rw [World.size_alloc]; omega))
/-- The size of what is handed to a law. -/
def Small (ts : List Tm) : Prop := ts.length ≤ 2147483647 ∧ ∀ i, i < ts.length → (tm ts i).name.size ≤ 2147483647
theorem fits8_any (ts : List Tm) (A : Option Addr) (cap : Nat) (w : World) (L : Nat) (hT : TermsIn w L A ts) (hL : L ≤ w.heap.size) :
    Calls Tryz.prog 9 #[.slice A ts.length cap] w (Says (Small ts) w) := by
  have HT := Lib.hid hT
  clear hT
  by_cases h : (2147483647 : Int) < (ts.length : Int)
  · go_enter Tryz.func9, Tryz.ntmps9
    go_wp2_with fail
    go_ret
    exact ⟨_, rfl, (fun h => by cases h), Below.refl _ _⟩
  · go_enter Tryz.func9, Tryz.ntmps9
    go_wp2_with fail
    go_loopw [10] (fun i wr => ∃ j : Nat, j ≤ ts.length ∧ i = .int .i64 j ∧ Hid (∀ k, k < j → (tm ts k).name.size ≤ 2147483647) ∧ Below w.heap.size w wr) (fun i _ => ts.length - (intOf i).toNat)
    case atStart => exact ⟨0, by omega, rfl, fun k hk => by omega, Below.refl _ _⟩
    case round =>
      obtain ⟨j, hj, rfl, HS, hb⟩ := hrel
      have hsize := hb.size
      by_cases hlt : j < ts.length
      · obtain ⟨b, off, hA, hbL, c0, c1, c2⟩ := HT.out.at_ j hlt
        have c0' := (hb.cell (p := ⟨b, off + j * 3, none⟩) (by show b < _; omega)).trans c0
        have c1' := (hb.cell (p := ⟨b, off + j * 3 + 1, none⟩) (by show b < _; omega)).trans c1
        have c2' := (hb.cell (p := ⟨b, off + j * 3 + 2, none⟩) (by show b < _; omega)).trans c2
        subst hA
        have q1 : (0 : Int) ≤ (j : Int) := by omega
        have q2 : (j : Int) < (ts.length : Int) := by omega
        have HB := Lib.hid hb
        clear c0 c1 c2 hb
        go_wp2_with (go_at_call 19; refine (fits9_any _ _ _ _).mono ?_; rintro e w1 ⟨b1, rfl, hp, hb1⟩; have HP := Lib.hid (And.intro hp hb1); clear hp hb1; cases b1)
        · go_ret
          exact ⟨_, rfl, (fun h => by cases h), HB.out.trans ((below_alloc_then HP.out.2).mono hsize)⟩
        · go_roundw
          case rel =>
            refine ⟨j + 1, by omega, by go_num, fun k hk => ?_, HB.out.trans ((below_alloc_then HP.out.2).mono hsize)⟩
            by_cases e : k = j
            · subst e; exact HP.out.1 (by trivial)
            · exact HS k (by omega)
          case measure => simp [intOf]; omega
      · obtain rfl : j = ts.length := by omega
        have HB := Lib.hid hb
        clear hb
        go_wp2_with fail
        go_ret
        exact ⟨_, rfl, fun _ => ⟨by omega, HS.out⟩, HB.out⟩
/-- Terms of a sum. -/
def TmsOk (ts : List Tm) : Prop := (∀ t ∈ ts, TmOk t) ∧ 1 ≤ ts.length ∧ ts.length ≤ 20
theorem toList_ne (nm : ByteArray) (h : ¬ nm.toList = []) : 1 ≤ nm.size := by
  rcases nm with ⟨⟨l⟩⟩
  cases l with
  | nil => exact absurd (by decide +kernel) h
  | cons c l => simp [ByteArray.size]
theorem tms_all {ts : List Tm} (h : ∀ k, k < ts.length → TmOk (tm ts k)) : ∀ t ∈ ts, TmOk t := by
  intro t ht
  obtain ⟨i, hi, rfl⟩ := List.getElem_of_mem ht
  have := h i hi
  rwa [tm, List.getD_eq_getElem?_getD, List.getElem?_eq_getElem hi, Option.getD_some] at this
theorem areTerms_any (ts : List Tm) (A : Option Addr) (cap : Nat) (w : World) (L : Nat) (hs : Small ts) (hT : TermsIn w L A ts) (hL : L ≤ w.heap.size) :
    Calls Tryz.prog 10 #[.slice A ts.length cap] w (Says (TmsOk ts) w) := by
  have HT := Lib.hid (And.intro hT hs.2)
  have hlen := hs.1
  clear hT hs
  go_enter Tryz.func10, Tryz.ntmps10
  go_wp2_with fail
  go_loopw [8] (fun i wr => ∃ j : Nat, j ≤ ts.length ∧ i = .int .i64 j ∧ Hid (∀ k, k < j → TmOk (tm ts k)) ∧ Below w.heap.size w wr) (fun i _ => ts.length - (intOf i).toNat)
  case atStart => exact ⟨0, by omega, rfl, fun k hk => by omega, Below.refl _ _⟩
  case round =>
    obtain ⟨j, hj, rfl, HS, hb⟩ := hrel
    have hsize := hb.size
    by_cases hlt : j < ts.length
    · obtain ⟨b, off, hA, hbL, c0, c1, c2⟩ := HT.out.1.at_ j hlt
      have c0' := (hb.cell (p := ⟨b, off + j * 3, none⟩) (by show b < _; omega)).trans c0
      have c1' := (hb.cell (p := ⟨b, off + j * 3 + 1, none⟩) (by show b < _; omega)).trans c1
      have c2' := (hb.cell (p := ⟨b, off + j * 3 + 2, none⟩) (by show b < _; omega)).trans c2
      have hz := HT.out.2 j hlt
      subst hA
      obtain ⟨nm, hnm⟩ : ∃ x, (tm ts j).name = x := ⟨_, rfl⟩
      obtain ⟨be, hbe⟩ : ∃ x, (tm ts j).before = x := ⟨_, rfl⟩
      obtain ⟨af, haf⟩ : ∃ x, (tm ts j).after = x := ⟨_, rfl⟩
      rw [hnm] at c0' hz
      rw [hbe] at c1'
      rw [haf] at c2'
      have q1 : (0 : Int) ≤ (j : Int) := by omega
      have q2 : (j : Int) < (ts.length : Int) := by omega
      have HB := Lib.hid (And.intro hb (And.intro hnm (And.intro hbe haf)))
      clear c0 c1 c2 hb hnm hbe haf
      go_wp2_with fail
      go_loopw [15] (fun i w2 => w2 = wr.alloc (.cells #[.string nm, .int .i64 be, .int .i64 af] 43) ∧ ∃ k : Nat, k ≤ nm.size ∧ i = .int .i64 k) (fun i _ => nm.size - (intOf i).toNat)
      case atStart => exact ⟨rfl, 0, by omega, rfl⟩
      case round =>
        obtain ⟨rfl, k, hk, rfl⟩ := hrel
        by_cases hkl : k < nm.size
        · have p1 : (0 : Int) ≤ (k : Int) := by omega
          have p2 : (k : Int) < (nm.size : Int) := by omega
          go_wp2_with fail
          all_goals first
            | (go_roundw
               case rel => exact ⟨trivial, k + 1, by omega, by go_num⟩
               case measure => simp [intOf]; omega)
            | (go_ret
               exact ⟨_, rfl, (fun h => by cases h), HB.out.1.alloc hsize _⟩)
        · obtain rfl : k = nm.size := by omega
          go_wp2_with fail
          all_goals first
            | (go_roundw
               case rel =>
                 obtain ⟨hb, hnm, hbe, haf⟩ := HB.out
                 refine ⟨j + 1, by omega, by go_num, fun i hi => ?_, hb.alloc hsize _⟩
                 by_cases e : i = j
                 · subst e
                   unfold TmOk
                   rw [hnm, hbe, haf]
                   have hne := toList_ne _ ‹¬ nm.toList = []›
                   exact ⟨hne, by omega, by assumption, by assumption, by assumption, by omega⟩
                 · exact HS i (by omega)
               case measure => simp [intOf]; omega)
            | (go_ret
               exact ⟨_, rfl, (fun h => by cases h), HB.out.1.alloc hsize _⟩)
    · obtain rfl : j = ts.length := by omega
      have HB := Lib.hid hb
      clear hb
      go_wp2_with fail
      all_goals
        go_ret
        refine ⟨_, rfl, (fun h => ?_), HB.out⟩
      · simp at h
        exact ⟨tms_all HS.out, by omega, by omega⟩
      · cases h
theorem isTerm_any (ts : List Tm) (A : Option Addr) (cap : Nat) (i : Int) (w : World) (L : Nat) (hs : Small ts) (hT : TermsIn w L A ts) (hL : L ≤ w.heap.size) :
    Calls Tryz.prog 14 #[.slice A ts.length cap, .int .i64 i] w (Says (TmsOk ts ∧ 0 ≤ i ∧ i < ts.length) w) := by
  have HT := Lib.hid (And.intro hT hs)
  clear hT hs
  go_enter Tryz.func14, Tryz.ntmps14
  go_wp2_with fail
  refine (areTerms_any ts A cap w L HT.out.2 HT.out.1 hL).mono ?_
  rintro e w1 ⟨b, rfl, hp, hb⟩
  have HP := Lib.hid (And.intro hp hb)
  clear hp hb
  cases b
  · go_wp2_with fail
    go_ret
    exact ⟨_, rfl, (fun h => by cases h), HP.out.2⟩
  · by_cases h1 : 0 ≤ i
    · go_wp2_with fail
      go_ret
      refine ⟨_, rfl, (fun h => ?_), HP.out.2⟩
      simp at h
      exact ⟨HP.out.1 (by trivial), h1, h⟩
    · go_wp2_with fail
      go_ret
      exact ⟨_, rfl, (fun h => by cases h), HP.out.2⟩
def twoInts (x y : Int) (w : World) (e : Ending) (w' : World) : Prop := e = .returned (.tuple #[.int .i64 x, .int .i64 y]) ∧ w = w'
def blanksL (ts : List Tm) (i : Nat) : Int := if i = 0 then 1 else (tm ts i).after
def blanksR (ts : List Tm) (i : Nat) : Int := if i + 1 = ts.length then 0 else (tm ts (i + 1)).before
theorem blanks_any (ts : List Tm) (A : Option Addr) (cap : Nat) (i : Nat) (w : World) (L : Nat) (hl : ts.length ≤ 20) (hi : i < ts.length) (hT : TermsIn w L A ts) :
    Calls Tryz.prog 18 #[.slice A ts.length cap, .int .i64 i] w (twoInts (blanksL ts i) (blanksR ts i) w) := by
  obtain ⟨b, off, rfl, hbL, _, _, c2⟩ := hT.at_ i hi
  obtain ⟨af, haf⟩ : ∃ x, (tm ts i).after = x := ⟨_, rfl⟩
  rw [haf] at c2
  have q1 : (0 : Int) ≤ (i : Int) := by omega
  have q2 : (i : Int) < (ts.length : Int) := by omega
  have hw : IntKind.i64.wrap ((i : Int) + 1) = (i : Int) + 1 := IntWalk.i64_in _ (by omega)
  by_cases h2 : i + 1 < ts.length
  · obtain ⟨b', off', hA, _, _, c1', _⟩ := hT.at_ (i + 1) h2
    injection hA with hA
    injection hA with e1 e2
    subst e1 e2
    obtain ⟨be, hbe⟩ : ∃ x, (tm ts (i + 1)).before = x := ⟨_, rfl⟩
    rw [hbe] at c1'
    have q3 : (i : Int) + 1 < (ts.length : Int) := by omega
    have q4 : (0 : Int) ≤ (i : Int) + 1 := by omega
    have q5 : ((i : Int) + 1).toNat = i + 1 := by omega
    have eR : blanksR ts i = be := by unfold blanksR; rw [if_neg (by omega), hbe]
    by_cases h0 : 0 < i
    · have eL : blanksL ts i = af := by unfold blanksL; rw [if_neg (by omega), haf]
      have q6 : (0 : Int) < (i : Int) := by omega
      rw [eL, eR]
      clear eL eR hT haf hbe hbL
      go_enter Tryz.func18, Tryz.ntmps18
      go_wp2_with fail
      go_ret2
      exact ⟨rfl, rfl⟩
    · have eL : blanksL ts i = 1 := by unfold blanksL; rw [if_pos (by omega)]
      have q6 : ¬ (0 : Int) < (i : Int) := by omega
      rw [eL, eR]
      clear eL eR hT haf hbe hbL
      go_enter Tryz.func18, Tryz.ntmps18
      go_wp2_with fail
      go_ret2
      exact ⟨rfl, rfl⟩
  · have q3 : ¬ (i : Int) + 1 < (ts.length : Int) := by omega
    have eR : blanksR ts i = 0 := by unfold blanksR; rw [if_pos (by omega)]
    by_cases h0 : 0 < i
    · have eL : blanksL ts i = af := by unfold blanksL; rw [if_neg (by omega), haf]
      have q6 : (0 : Int) < (i : Int) := by omega
      rw [eL, eR]
      clear eL eR hT haf hbL
      go_enter Tryz.func18, Tryz.ntmps18
      go_wp2_with fail
      go_ret2
      exact ⟨rfl, rfl⟩
    · have eL : blanksL ts i = 1 := by unfold blanksL; rw [if_pos (by omega)]
      have q6 : ¬ (0 : Int) < (i : Int) := by omega
      rw [eL, eR]
      clear eL eR hT haf hbL
      go_enter Tryz.func18, Tryz.ntmps18
      go_wp2_with fail
      go_ret2
      exact ⟨rfl, rfl⟩
end Go.Proofs.YtakigggbecibmaaGreatFmt
