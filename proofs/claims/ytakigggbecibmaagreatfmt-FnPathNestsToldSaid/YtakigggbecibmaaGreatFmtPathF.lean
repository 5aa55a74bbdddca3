/- sort.Sort over a few nodes, by where they begin. -/
import Derived.Test.YtakigggbecibmaaGreatFmtPathA
import Derived.Test.YtakigggbecibmaaGreatFmtMem
import Derived.Deep.RegionHeld3
import Derived.RegionTactic
import Derived.ChangeAlike
import Derived.WalkLawsBesides
namespace Go.Proofs.YtakigggbecibmaaGreatFmt
open Go.RowKit
set_option maxRecDepth 100000
set_option maxHeartbeats 1000000

theorem below_then {a w w' : World} (h : Below a.heap.size a w) (h2 : Below w.heap.size w w') : Below a.heap.size a w' := h.trans (h2.mono h.size)
/-- A node and where it begins. -/
abbrev It := Value × Int
def OkIt (w0 : World) (x : It) : Prop := ∃ t u hi, x.1 = .iface t u ∧ NodeOk w0 t u x.2 hi
def it0 : It := (.nilIface, 0)
def swp (l : List It) (j : Nat) : List It := (l.set j (l.getD (j + 1) it0)).set (j + 1) (l.getD j it0)
/-- The inner loop of the insertion sort, and the outer one. -/
def inner : Nat → List It → List It
  | 0, l => l
  | j + 1, l => if (l.getD (j + 1) it0).2 < (l.getD j it0).2 then inner j (swp l j) else l
def outer : Nat → Nat → List It → List It
  | 0, _, l => l
  | d + 1, i, l => outer d (i + 1) (inner i l)
theorem swp_length (l : List It) (j : Nat) : (swp l j).length = l.length := by simp [swp]
theorem swp_mem {l : List It} {j : Nat} (h : j + 1 < l.length) {x : It} (hx : x ∈ swp l j) : x ∈ l := by
  unfold swp at hx
  rcases List.mem_or_eq_of_mem_set hx with hx | rfl
  · rcases List.mem_or_eq_of_mem_set hx with hx | rfl
    · exact hx
    · rw [List.getD_eq_getElem?_getD, List.getElem?_eq_getElem h]; exact List.getElem_mem h
  · rw [List.getD_eq_getElem?_getD, List.getElem?_eq_getElem (by omega)]; exact List.getElem_mem _
theorem inner_length : ∀ (i : Nat) (l : List It), (inner i l).length = l.length
  | 0, l => rfl
  | i + 1, l => by
    simp only [inner]
    split
    · rw [inner_length, swp_length]
    · rfl
theorem inner_mem : ∀ {i : Nat} {l : List It}, i < l.length → ∀ {x : It}, x ∈ inner i l → x ∈ l
  | 0, l, _, x, hx => hx
  | i + 1, l, h, x, hx => by
    simp only [inner] at hx
    split at hx
    · exact swp_mem h (inner_mem (by rw [swp_length]; omega) hx)
    · exact hx

/-- What the sort walks over. -/
structure SortSt (w0 wS w : World) (B g cap : Nat) (l : List It) : Prop where
  row : Row w g 52 1 l.length (l.map (·.1)) cap
  ok : ∀ x ∈ l, OkIt w0 x
  base : w0.heap.size = B
  below : Below B w0 w
  lo : B ≤ g
  fix : wS.heap.size ≤ w.heap.size ∧ ∀ k, k ≠ g → k < wS.heap.size → w.heap[k]? = wS.heap[k]?
variable {wS : World}
theorem SortSt.cell {w0 w : World} {B g cap : Nat} {l : List It} (h : SortSt w0 wS w B g cap l) {i : Nat} (hi : i < l.length) : w.cell? ⟨g, i, none⟩ = some (l.getD i it0).1 := by
  refine h.row.cell ?_
  rw [List.getElem?_map, List.getD_eq_getElem?_getD, List.getElem?_eq_getElem hi]
  rfl
theorem SortSt.next {w0 w w' : World} {B g cap : Nat} {l : List It} (h : SortSt w0 wS w B g cap l) (hb : Below w.heap.size w w') : SortSt w0 wS w' B g cap l :=
  ⟨h.row.below hb h.row.lt, h.ok, h.base, h.below.trans (hb.mono (by have := h.below.size; have := h.base; omega)), h.lo, Nat.le_trans h.fix.1 hb.size, fun k hk hl => (hb.block k (Nat.lt_of_lt_of_le hl h.fix.1)).trans (h.fix.2 k hk hl)⟩
theorem SortSt.get {w0 w : World} {B g cap : Nat} {l : List It} (h : SortSt w0 wS w B g cap l) {i : Nat} (hi : i < l.length) : OkIt w0 (l.getD i it0) := by
  refine h.ok _ ?_
  rw [List.getD_eq_getElem?_getD, List.getElem?_eq_getElem hi]
  exact List.getElem_mem hi

theorem less_any (w0 w : World) (B g cap : Nat) (l : List It) (i j : Nat) (h : SortSt w0 wS w B g cap l) (hi : i < l.length) (hj : j < l.length) (_hl : l.length ≤ 100) :
    Calls Tryz.prog 261 #[.slice (some ⟨g, 0, none⟩) l.length cap, .int .i64 i, .int .i64 j] w fun e w' => e = .returned (.bool (decide ((l.getD i it0).2 < (l.getD j it0).2))) ∧ Below w.heap.size w w' := by
  have ci := h.cell hi
  have cj := h.cell hj
  obtain ⟨ti, ui, hii, ei, oi⟩ := h.get hi
  obtain ⟨tj, uj, hij, ej, oj⟩ := h.get hj
  obtain ⟨fi, ri, ⟨mi1, mi2⟩, ki⟩ := oi.pos
  obtain ⟨fj, rj, ⟨mj1, mj2⟩, kj⟩ := oj.pos
  rw [ei] at ci
  rw [ej] at cj
  have hg := h.row.lt
  have hbb := h.below
  rw [← h.base] at hbb
  have KI : Hid (∀ w', Below w.heap.size w w' → Calls Tryz.prog fi #[ri] w' (Num (l.getD i it0).2 w')) := fun w' hw => ki w' (hbb.trans (hw.mono hbb.size))
  have KJ : Hid (∀ w', Below w.heap.size w w' → Calls Tryz.prog fj #[rj] w' (Num (l.getD j it0).2 w')) := fun w' hw => kj w' (hbb.trans (hw.mono hbb.size))
  obtain ⟨pi, hpi⟩ : ∃ x, (l.getD i it0).2 = x := ⟨_, rfl⟩
  obtain ⟨pj, hpj⟩ : ∃ x, (l.getD j it0).2 = x := ⟨_, rfl⟩
  rw [hpi, hpj]
  rw [hpi] at KI
  rw [hpj] at KJ
  have q1 : (0 : Int) ≤ (i : Int) := by omega
  have q2 : (i : Int) < (l.length : Int) := by omega
  have q3 : (0 : Int) ≤ (j : Int) := by omega
  have q4 : (j : Int) < (l.length : Int) := by omega
  have SOF : Hid (∀ w', Below w.heap.size w w' → w'.cell? ⟨g, i, none⟩ = some (.iface ti ui) ∧ w'.cell? ⟨g, j, none⟩ = some (.iface tj uj)) := fun w' hw => ⟨(hw.cell (p := ⟨g, i, none⟩) hg).trans ci, (hw.cell (p := ⟨g, j, none⟩) hg).trans cj⟩
  clear h ei ej oi oj ki kj hpi hpj hbb
  go_enter Tryz.func261, Tryz.ntmps261
  go_wp2_with fail
  go_region_held3 (fun w' => w'.cell? ⟨g, i, none⟩ = some (.iface ti ui) ∧ w'.cell? ⟨g, j, none⟩ = some (.iface tj uj)) (go_keep)
    (first
      | ((with_reducible refine (KI.out _ (by go_grown)).mono ?_); rintro e w1 ⟨rfl, hb1⟩; have hbn : Below w.heap.size w w1 := below_then (by go_grown) hb1; have hS := SOF.out _ hbn; clear hb1)
      | ((with_reducible refine (KJ.out _ (by go_grown)).mono ?_); rintro e w1 ⟨rfl, hb1⟩; have hbn : Below w.heap.size w w1 := below_then (by go_grown) hb1; have hS := SOF.out _ hbn; clear hb1))
  all_goals
    go_wp2_with fail
    go_ret
    exact ⟨rfl, by go_grown⟩

theorem SortSt.swap {w0 w : World} {B g cap : Nat} {l : List It} {j : Nat} (h : SortSt w0 wS w B g cap l) (hj : j + 1 < l.length) :
    SortSt w0 wS ((w.setCell ⟨g, j + 1, none⟩ (l.getD j it0).1).setCell ⟨g, j, none⟩ (l.getD (j + 1) it0).1) B g cap (swp l j) := by
  refine ⟨?_, fun x hx => h.ok x (swp_mem hj hx), h.base, (h.below.setCell h.lo _).setCell h.lo _, h.lo, by simpa using h.fix.1, fun k hk hl => ((Below.heap_setCell _ _ _ _ (by exact hk)).trans (Below.heap_setCell _ _ _ _ (by exact hk))).trans (h.fix.2 k hk hl)⟩
  obtain ⟨hl1, hl2, hl3, cur, hbk, hsz, htk⟩ := h.row
  rw [swp_length]
  refine ⟨by simp [swp_length], hl2, hl3, _, (hbk.set_ (j + 1) (l.getD j it0).1).set_ j (l.getD (j + 1) it0).1, by simpa using hsz, ?_⟩
  simp only [Array.toList_setIfInBounds, List.take_set, htk, swp, List.map_set]
  rw [List.set_comm _ _ (show j + 1 ≠ j by omega)]

theorem swap_any (w0 w : World) (B g cap : Nat) (l : List It) (j : Nat) (h : SortSt w0 wS w B g cap l) (hj : j + 1 < l.length) (_hl : l.length ≤ 100) :
    Calls Tryz.prog 262 #[.slice (some ⟨g, 0, none⟩) l.length cap, .int .i64 (j + 1 : Nat), .int .i64 j] w fun e w' => e = .returned (.tuple #[]) ∧ SortSt w0 wS w' B g cap (swp l j) := by
  have c1 := h.cell hj
  have c0 := h.cell (i := j) (by omega)
  obtain ⟨t1, u1, h1, e1, _⟩ := h.get hj
  obtain ⟨t0, u0, h0, e0, _⟩ := h.get (i := j) (by omega)
  rw [e1] at c1
  rw [e0] at c0
  have hg := h.row.lt
  obtain ⟨k, hk⟩ : ∃ k, j + 1 = k := ⟨_, rfl⟩
  have hkj : j < k := by omega
  have HK := Lib.hid hk
  rw [hk] at c1 hj ⊢
  clear hk
  have q1 : (0 : Int) ≤ (k : Int) := by omega
  have q2 : (k : Int) < (l.length : Int) := by omega
  have q3 : (0 : Int) ≤ (j : Int) := by omega
  have q4 : (j : Int) < (l.length : Int) := by omega
  obtain ⟨hl1, hl2, hl3, cur, hbk, hsz, htk⟩ := h.row
  have f0 := hbk.frozen j
  have f1 := hbk.frozen k
  have HH := Lib.hid (And.intro h (And.intro e1 e0))
  clear h e1 e0 hl1 hl2 hl3 hbk hsz htk
  go_enter Tryz.func262, Tryz.ntmps262
  go_wp2_with fail
  go_region
  go_wp2
  go_end0
  obtain ⟨h, e1, e0⟩ := HH.out
  have hk := HK.out
  subst hk
  refine ⟨rfl, ?_⟩
  have hs := (h.next (w' := w.drew) (by go_grown)).swap hj
  rw [e1, e0] at hs
  exact hs
end Go.Proofs.YtakigggbecibmaaGreatFmt
