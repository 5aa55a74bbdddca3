/- The contract of sumOf: it makes the tree of a sum. -/
import Derived.Test.YtakigggbecibmaaGreatFmtPathA
import Derived.Deep.RegionHeld3
import Derived.Deep.LoopGhost
namespace Go.Proofs.YtakigggbecibmaaGreatFmt
open Go.RowKit
set_option maxRecDepth 100000
set_option maxHeartbeats 1000000

/-- Terms as they lie in memory. -/
structure TermsIn (w : World) (L : Nat) (A : Option Addr) (ts : List Tm) : Prop where
  at_ : ∀ i, i < ts.length → ∃ b off, A = some ⟨b, off, none⟩ ∧ b < L ∧ w.cell? ⟨b, off + i * 3, none⟩ = some (.string (tm ts i).name) ∧ w.cell? ⟨b, off + i * 3 + 1, none⟩ = some (.int .i64 (tm ts i).before) ∧ w.cell? ⟨b, off + i * 3 + 2, none⟩ = some (.int .i64 (tm ts i).after)
theorem TermsIn.below {w w' : World} {L B : Nat} {A : Option Addr} {ts : List Tm} (h : TermsIn w L A ts) (hb : Below B w w') (hB : L ≤ B) : TermsIn w' L A ts where
  at_ := fun i hi => by
    obtain ⟨b, off, hA, hlt, h0, h1, h2⟩ := h.at_ i hi
    exact ⟨b, off, hA, hlt, (hb.cell (p := ⟨b, _, none⟩) (by show b < B; omega)).trans h0, (hb.cell (p := ⟨b, _, none⟩) (by show b < B; omega)).trans h1, (hb.cell (p := ⟨b, _, none⟩) (by show b < B; omega)).trans h2⟩

/-- The tree as far as it is made: of the first j terms. -/
structure SumPre (w : World) (ts : List Tm) (j : Nat) (ad : Ad) : Prop where
  ident : ∀ k, k < j → Blk w (ad.bI k) 78 (identCells (tS ts k + 1) (tm ts k).name)
  bin : ∀ k, k + 1 < j → Blk w (ad.bB (k + 1)) 82 #[sumVal ad k, .int .i64 (tG ts (k + 1) + 1), .int .i64 12, .iface 68 (ptr (ad.bI (k + 1)))]
def ad0 : Ad := ⟨fun _ => 0, fun _ => 0, 0, 0, 0, 0, 0, 0, 0, 0, 0⟩
theorem SumPre.start (w : World) (ts : List Tm) : SumPre w ts 0 ad0 := ⟨fun k hk => by omega, fun k hk => by omega⟩
theorem SumPre.below {w w' : World} {ts : List Tm} {j : Nat} {ad : Ad} (h : SumPre w ts j ad) (hb : Below w.heap.size w w') : SumPre w' ts j ad :=
  ⟨fun k hk => (h.ident k hk).below hb (h.ident k hk).lt, fun k hk => (h.bin k hk).below hb (h.bin k hk).lt⟩
def Ad.set (ad : Ad) (j bi bb : Nat) : Ad := { ad with bI := fun k => if k = j then bi else ad.bI k, bB := fun k => if k = j then bb else ad.bB k }
theorem sumVal_set (ad : Ad) (j bi bb : Nat) : ∀ k, k < j → sumVal (ad.set j bi bb) k = sumVal ad k
  | 0, h => by simp only [sumVal, Ad.set, if_neg (show ¬ 0 = j by omega)]
  | k + 1, h => by simp only [sumVal, Ad.set, if_neg (show ¬ k + 1 = j by omega)]
theorem SumPre.step0 {w : World} {ts : List Tm} {ad : Ad} {bi : Nat} (h : Blk w bi 78 (identCells 19 (tm ts 0).name)) : SumPre w ts 1 (ad.set 0 bi 0) :=
  ⟨fun k hk => by
    obtain rfl : k = 0 := by omega
    simpa [Ad.set, tS] using h, fun k hk => by omega⟩
theorem SumPre.step {w : World} {ts : List Tm} {j : Nat} {ad : Ad} {bi bb : Nat} (h : SumPre w ts (j + 1) ad) (hi : Blk w bi 78 (identCells (tS ts (j + 1) + 1) (tm ts (j + 1)).name))
    (hb : Blk w bb 82 #[sumVal ad j, .int .i64 (tG ts (j + 1) + 1), .int .i64 12, .iface 68 (ptr bi)]) : SumPre w ts (j + 2) (ad.set (j + 1) bi bb) :=
  ⟨fun k hk => by
    by_cases e : k = j + 1
    · subst e; simpa [Ad.set] using hi
    · have := h.ident k (by omega)
      simpa [Ad.set, if_neg e] using this, fun k hk => by
    by_cases e : k = j
    · subst e
      rw [sumVal_set ad (k + 1) bi bb k (by omega)]
      simpa [Ad.set] using hb
    · have := h.bin k (by omega)
      rw [sumVal_set ad (j + 1) bi bb k (by omega)]
      have e2 : ¬ k + 1 = j + 1 := by omega
      simpa [Ad.set, e2, e] using this⟩
/-- What stands in the sum's slot, and how far it goes. -/
def sumSlot (ad : Ad) : Nat → Value
  | 0 => .nilIface
  | j + 1 => sumVal ad j
def atSlot (ts : List Tm) : Nat → Int
  | 0 => 18
  | j + 1 => tE ts j

theorem blk9 (w : World) (c1 c2 c3 c4 c5 c6 c7 c8 c9 : Array Value) (t1 t2 t3 t4 t5 t6 t7 t8 t9 : TypeId) : Blk (((((((((w.alloc (.cells c1 t1)).alloc (.cells c2 t2)).alloc (.cells c3 t3)).alloc (.cells c4 t4)).alloc (.cells c5 t5)).alloc (.cells c6 t6)).alloc (.cells c7 t7)).alloc (.cells c8 t8)).alloc (.cells c9 t9)) w.heap.size t1 c1 ∧ Blk (((((((((w.alloc (.cells c1 t1)).alloc (.cells c2 t2)).alloc (.cells c3 t3)).alloc (.cells c4 t4)).alloc (.cells c5 t5)).alloc (.cells c6 t6)).alloc (.cells c7 t7)).alloc (.cells c8 t8)).alloc (.cells c9 t9)) (w.heap.size + 1) t2 c2 ∧ Blk (((((((((w.alloc (.cells c1 t1)).alloc (.cells c2 t2)).alloc (.cells c3 t3)).alloc (.cells c4 t4)).alloc (.cells c5 t5)).alloc (.cells c6 t6)).alloc (.cells c7 t7)).alloc (.cells c8 t8)).alloc (.cells c9 t9)) (w.heap.size + 1 + 1) t3 c3 ∧ Blk (((((((((w.alloc (.cells c1 t1)).alloc (.cells c2 t2)).alloc (.cells c3 t3)).alloc (.cells c4 t4)).alloc (.cells c5 t5)).alloc (.cells c6 t6)).alloc (.cells c7 t7)).alloc (.cells c8 t8)).alloc (.cells c9 t9)) (w.heap.size + 1 + 1 + 1) t4 c4 ∧ Blk (((((((((w.alloc (.cells c1 t1)).alloc (.cells c2 t2)).alloc (.cells c3 t3)).alloc (.cells c4 t4)).alloc (.cells c5 t5)).alloc (.cells c6 t6)).alloc (.cells c7 t7)).alloc (.cells c8 t8)).alloc (.cells c9 t9)) (w.heap.size + 1 + 1 + 1 + 1) t5 c5 ∧ Blk (((((((((w.alloc (.cells c1 t1)).alloc (.cells c2 t2)).alloc (.cells c3 t3)).alloc (.cells c4 t4)).alloc (.cells c5 t5)).alloc (.cells c6 t6)).alloc (.cells c7 t7)).alloc (.cells c8 t8)).alloc (.cells c9 t9)) (w.heap.size + 1 + 1 + 1 + 1 + 1) t6 c6 ∧ Blk (((((((((w.alloc (.cells c1 t1)).alloc (.cells c2 t2)).alloc (.cells c3 t3)).alloc (.cells c4 t4)).alloc (.cells c5 t5)).alloc (.cells c6 t6)).alloc (.cells c7 t7)).alloc (.cells c8 t8)).alloc (.cells c9 t9)) (w.heap.size + 1 + 1 + 1 + 1 + 1 + 1) t7 c7 ∧ Blk (((((((((w.alloc (.cells c1 t1)).alloc (.cells c2 t2)).alloc (.cells c3 t3)).alloc (.cells c4 t4)).alloc (.cells c5 t5)).alloc (.cells c6 t6)).alloc (.cells c7 t7)).alloc (.cells c8 t8)).alloc (.cells c9 t9)) (w.heap.size + 1 + 1 + 1 + 1 + 1 + 1 + 1) t8 c8 ∧ Blk (((((((((w.alloc (.cells c1 t1)).alloc (.cells c2 t2)).alloc (.cells c3 t3)).alloc (.cells c4 t4)).alloc (.cells c5 t5)).alloc (.cells c6 t6)).alloc (.cells c7 t7)).alloc (.cells c8 t8)).alloc (.cells c9 t9)) (w.heap.size + 1 + 1 + 1 + 1 + 1 + 1 + 1 + 1) t9 c9 := by
  have h1 := Blk.new w t1 c1
  have h2 := Blk.new (w.alloc (.cells c1 t1)) t2 c2
  rw [World.size_alloc] at h2
  have h3 := Blk.new ((w.alloc (.cells c1 t1)).alloc (.cells c2 t2)) t3 c3
  rw [World.size_alloc, World.size_alloc] at h3
  have h4 := Blk.new (((w.alloc (.cells c1 t1)).alloc (.cells c2 t2)).alloc (.cells c3 t3)) t4 c4
  rw [World.size_alloc, World.size_alloc, World.size_alloc] at h4
  have h5 := Blk.new ((((w.alloc (.cells c1 t1)).alloc (.cells c2 t2)).alloc (.cells c3 t3)).alloc (.cells c4 t4)) t5 c5
  rw [World.size_alloc, World.size_alloc, World.size_alloc, World.size_alloc] at h5
  have h6 := Blk.new (((((w.alloc (.cells c1 t1)).alloc (.cells c2 t2)).alloc (.cells c3 t3)).alloc (.cells c4 t4)).alloc (.cells c5 t5)) t6 c6
  rw [World.size_alloc, World.size_alloc, World.size_alloc, World.size_alloc, World.size_alloc] at h6
  have h7 := Blk.new ((((((w.alloc (.cells c1 t1)).alloc (.cells c2 t2)).alloc (.cells c3 t3)).alloc (.cells c4 t4)).alloc (.cells c5 t5)).alloc (.cells c6 t6)) t7 c7
  rw [World.size_alloc, World.size_alloc, World.size_alloc, World.size_alloc, World.size_alloc, World.size_alloc] at h7
  have h8 := Blk.new (((((((w.alloc (.cells c1 t1)).alloc (.cells c2 t2)).alloc (.cells c3 t3)).alloc (.cells c4 t4)).alloc (.cells c5 t5)).alloc (.cells c6 t6)).alloc (.cells c7 t7)) t8 c8
  rw [World.size_alloc, World.size_alloc, World.size_alloc, World.size_alloc, World.size_alloc, World.size_alloc, World.size_alloc] at h8
  have h9 := Blk.new ((((((((w.alloc (.cells c1 t1)).alloc (.cells c2 t2)).alloc (.cells c3 t3)).alloc (.cells c4 t4)).alloc (.cells c5 t5)).alloc (.cells c6 t6)).alloc (.cells c7 t7)).alloc (.cells c8 t8)) t9 c9
  rw [World.size_alloc, World.size_alloc, World.size_alloc, World.size_alloc, World.size_alloc, World.size_alloc, World.size_alloc, World.size_alloc] at h9
  exact ⟨((((((((h1.alloc _).alloc _).alloc _).alloc _).alloc _).alloc _).alloc _).alloc _), (((((((h2.alloc _).alloc _).alloc _).alloc _).alloc _).alloc _).alloc _), ((((((h3.alloc _).alloc _).alloc _).alloc _).alloc _).alloc _), (((((h4.alloc _).alloc _).alloc _).alloc _).alloc _), ((((h5.alloc _).alloc _).alloc _).alloc _), (((h6.alloc _).alloc _).alloc _), ((h7.alloc _).alloc _), (h8.alloc _), h9⟩
theorem sumOf_any (ts : List Tm) (A : Option Addr) (cap : Nat) (w : World) (L : Nat) (h : ∀ t ∈ ts, TmOk t) (hl : ts.length ≤ 20) (hne : 1 ≤ ts.length) (hT : TermsIn w L A ts) (hL : L ≤ w.heap.size) :
    Calls Tryz.prog 21 #[.slice A ts.length cap] w fun e w' => ∃ ad, e = .returned (ptr ad.bF) ∧ TreeIn w' ts (ts.length - 1) ad ∧ Below w.heap.size w w' := by
  have HT := Lib.hid (And.intro h hT)
  clear h hT
  go_enter Tryz.func21, Tryz.ntmps21
  go_wp2_with fail
  go_loopw [4, 5, 14] (fun s a i wr => ∃ (j : Nat) (ad : Ad) (sv : Value) (av : Int), j ≤ ts.length ∧ i = .int .i64 j ∧ sv = s ∧ a = .int .i64 av ∧ sv = sumSlot ad j ∧ av = atSlot ts j ∧ SumPre wr ts j ad ∧ Below w.heap.size w wr) (fun _ _ i _ => ts.length - (intOf i).toNat)
  case atStart => exact ⟨0, ad0, _, 18, by omega, rfl, rfl, rfl, rfl, rfl, SumPre.start _ _, by go_grown⟩
  case round =>
    obtain ⟨j, ad, sv, av, hj, rfl, rfl, rfl, hs, ha, hpre, hb⟩ := hrel
    have hsize := hb.size
    by_cases hlt : j < ts.length
    · obtain ⟨b, off, hA, hbL, c0, c1, c2⟩ := HT.out.2.at_ j hlt
      have c0' := (hb.cell (p := ⟨b, off + j * 3, none⟩) (by show b < _; omega)).trans c0
      have c1' := (hb.cell (p := ⟨b, off + j * 3 + 1, none⟩) (by show b < _; omega)).trans c1
      have c2' := (hb.cell (p := ⟨b, off + j * 3 + 2, none⟩) (by show b < _; omega)).trans c2
      subst hA
      obtain ⟨nm, hnm⟩ : ∃ x, (tm ts j).name = x := ⟨_, rfl⟩
      obtain ⟨be, hbe⟩ : ∃ x, (tm ts j).before = x := ⟨_, rfl⟩
      obtain ⟨af, haf⟩ : ∃ x, (tm ts j).after = x := ⟨_, rfl⟩
      rw [hnm] at c0'
      rw [hbe] at c1'
      rw [haf] at c2'
      clear c0 c1 c2
      have hok := tm_ok HT.out.1 hlt
      unfold TmOk at hok
      rw [hnm, hbe, haf] at hok
      obtain ⟨o1, o2, o3, o4, o5, o6⟩ := hok
      have q1 : (0 : Int) ≤ (j : Int) := by omega
      have q2 : (j : Int) < (ts.length : Int) := by omega
      by_cases hj0 : j = 0
      · have e0 : ((j : Int) == 0) = true := by simp [hj0]
        have es : sv = .nilIface := by rw [hs, hj0]; rfl
        have ea : av = 18 := by rw [ha, hj0]; rfl
        subst es; subst ea
        have HB := Lib.hid (And.intro hnm (And.intro hbe (And.intro haf (And.intro hpre (And.intro hb hj0)))))
        clear hnm hbe haf hpre hb hj0 hs ha
        go_wp2_with fail
        go_region_held3 (fun w' => w'.cell? ⟨wr.heap.size, 0, none⟩ = some (.string nm)) (go_keep)
          (first
            | (go_at_call 30; refine (posCl_any _ _ (by omega) (by omega)).mono ?_; rintro e w1 ⟨rfl, rfl⟩))
        all_goals
          go_wp2_with fail
        go_roundw
        case rel =>
          obtain ⟨hnm, _, _, hpre, hb, hj0⟩ := HB.out
          subst hj0
          subst hnm
          refine ⟨0 + 1, ad.set 0 (wr.heap.size + 1) 0, _, _, by omega, by go_num, rfl, rfl, ?_, ?_, ?_, by go_grown⟩
          · simp [sumSlot, sumVal, Ad.set]
          · simp [atSlot, tE]
          · have hn := Blk.new (wr.alloc (.cells #[.string (tm ts 0).name, .int .i64 be, .int .i64 af] 43)) 78 (identCells 19 (tm ts 0).name)
            rw [World.size_alloc] at hn
            exact SumPre.step0 (hn.same rfl)
        case measure => simp [intOf]; omega
      · obtain ⟨k, hk⟩ : ∃ k, j = k + 1 := ⟨j - 1, by omega⟩
        have e0 : ((j : Int) == 0) = false := by simpa using hj0
        obtain ⟨tx, vx, hx⟩ : ∃ tx vx, sumVal ad k = .iface tx vx := by
          rw [sumVal_eq]
          exact ⟨_, _, rfl⟩
        have es : sv = .iface tx vx := by rw [hs, hk]; exact hx
        have hE := tE_lo HT.out.1 (k := k) (by omega)
        have ea : av = tE ts k := by rw [ha, hk]; rfl
        have b1 : 0 ≤ av := by omega
        have b2 : av ≤ 2000 := by omega
        subst es
        have HB := Lib.hid (And.intro hnm (And.intro hbe (And.intro haf (And.intro hpre (And.intro hb (And.intro hk (And.intro hx ea)))))))
        clear hnm hbe haf hpre hb hj0 hs ha hk hx ea hE
        have w1 : IntKind.i64.wrap (av + be) = av + be := IntWalk.i64_in _ (by omega)
        go_wp2_with fail
        go_region_held3 (fun w' => w'.cell? ⟨wr.heap.size, 0, none⟩ = some (.string nm)) (go_keep)
          (first
            | (go_at_call 30; refine (posCl_any _ _ (by omega) (by omega)).mono ?_; rintro e w1 ⟨rfl, rfl⟩))
        all_goals
          go_wp2_with fail
        go_roundw
        case rel =>
          obtain ⟨hnm, hbe, haf, hpre, hb, hk, hx, ea⟩ := HB.out
          subst hk
          have eS : tS ts (k + 1) = av + be + 1 + af := by
            simp only [tS]
            rw [hbe, haf, ea]
          have eG : tG ts (k + 1) = av + be := by
            simp only [tG]
            rw [hbe, ea]
          have eE : tE ts (k + 1) = av + be + 1 + af + nm.size := by
            simp only [tE]
            rw [hbe, haf, hnm, ea]
          refine ⟨k + 1 + 1, ad.set (k + 1) (wr.heap.size + 1) (wr.heap.size + 1 + 1), _, _, by omega, by go_num, rfl, rfl, ?_, ?_, ?_, by go_grown⟩
          · simp [sumSlot, sumVal, Ad.set]
          · simp only [atSlot]
            rw [eE]
          · have hi := Blk.new (wr.alloc (.cells #[.string nm, .int .i64 be, .int .i64 af] 43)) 78 (identCells (av + be + 1 + af + 1) nm)
            have hbn := Blk.new ((wr.alloc (.cells #[.string nm, .int .i64 be, .int .i64 af] 43)).alloc (.cells (identCells (av + be + 1 + af + 1) nm) 78)) 82 #[.iface tx vx, .int .i64 (av + be + 1), .int .i64 12, .iface 68 (ptr (wr.heap.size + 1))]
            rw [World.size_alloc] at hi
            rw [World.size_alloc, World.size_alloc] at hbn
            have hpw : SumPre (((wr.alloc (.cells #[.string nm, .int .i64 be, .int .i64 af] 43)).alloc (.cells (identCells (av + be + 1 + af + 1) nm) 78)).alloc (.cells #[.iface tx vx, .int .i64 (av + be + 1), .int .i64 12, .iface 68 (ptr (wr.heap.size + 1))] 82)).drew ts (k + 1) ad := hpre.below (by go_grown)
            refine hpw.step ?_ ?_
            · rw [eS, hnm]
              exact (hi.alloc _).same rfl
            · rw [eG, hx]
              exact hbn.same rfl
        case measure => simp [intOf]; omega
    · obtain rfl : j = ts.length := by omega
      obtain ⟨k, hk⟩ : ∃ k, ts.length = k + 1 := ⟨ts.length - 1, by omega⟩
      obtain ⟨tx, vx, hx⟩ : ∃ tx vx, sumVal ad k = .iface tx vx := by
        rw [sumVal_eq]
        exact ⟨_, _, rfl⟩
      have es : sv = .iface tx vx := by rw [hs, hk]; exact hx
      have hE := tE_lo HT.out.1 (k := k) (by omega)
      have ea : av = tE ts k := by rw [ha, hk]; rfl
      have b1 : 0 ≤ av := by omega
      have b2 : av ≤ 2000 := by omega
      subst es
      have HB := Lib.hid (And.intro hpre (And.intro hb (And.intro hk (And.intro hx ea))))
      clear hpre hb hs ha hk hx ea hE
      go_wp2_with (go_at_call 30; refine (posCl_any _ _ (by omega) (by omega)).mono ?_; rintro e w1 ⟨rfl, rfl⟩)
      go_ret
      obtain ⟨hpre, hb, hk, hx, ea⟩ := HB.out
      obtain ⟨h1, h2, h3, h4, h5, h6, h7, h8, h9⟩ := blk9 wr (identCells 15 ⟨#[118]⟩) #[ptr wr.heap.size] #[.iface tx vx] _ #[.iface 83 (ptr (wr.heap.size + 1 + 1 + 1))] _ (identCells 9 ⟨#[112]⟩) #[.iface 88 (ptr (wr.heap.size + 1 + 1 + 1 + 1 + 1))] _ 78 68 75 87 266 91 78 228 97
      refine ⟨{ ad with bV := wr.heap.size, gN := wr.heap.size + 1, gV := wr.heap.size + 1 + 1, bS := wr.heap.size + 1 + 1 + 1, gS := wr.heap.size + 1 + 1 + 1 + 1, bD := wr.heap.size + 1 + 1 + 1 + 1 + 1, bN := wr.heap.size + 1 + 1 + 1 + 1 + 1 + 1, gD := wr.heap.size + 1 + 1 + 1 + 1 + 1 + 1 + 1, bF := wr.heap.size + 1 + 1 + 1 + 1 + 1 + 1 + 1 + 1 }, rfl, ?_, by go_grown⟩
      rw [show ts.length - 1 = k by omega]
      have hsv : ∀ j, sumVal { ad with bV := wr.heap.size, gN := wr.heap.size + 1, gV := wr.heap.size + 1 + 1, bS := wr.heap.size + 1 + 1 + 1, gS := wr.heap.size + 1 + 1 + 1 + 1, bD := wr.heap.size + 1 + 1 + 1 + 1 + 1, bN := wr.heap.size + 1 + 1 + 1 + 1 + 1 + 1, gD := wr.heap.size + 1 + 1 + 1 + 1 + 1 + 1 + 1, bF := wr.heap.size + 1 + 1 + 1 + 1 + 1 + 1 + 1 + 1 } j = sumVal ad j := fun j => by cases j <;> rfl
      constructor
      case ident => exact fun j hj => (hpre.ident j (by omega)).below (B := wr.heap.size) (by go_grown) (hpre.ident j (by omega)).lt
      case bin =>
        intro j hj
        rw [hsv]
        exact (hpre.bin j (by omega)).below (B := wr.heap.size) (by go_grown) (hpre.bin j (by omega)).lt
      case var => exact h1
      case names => exact h2
      case vals =>
        rw [hsv, hx]
        exact h3
      case spec => exact h4
      case specs => exact h5
      case decl => exact h6
      case pkg => exact h7
      case decls => exact h8
      case file =>
        rw [show tE ts k + 2 = av + 1 + 1 by omega]
        exact h9
end Go.Proofs.YtakigggbecibmaaGreatFmt
