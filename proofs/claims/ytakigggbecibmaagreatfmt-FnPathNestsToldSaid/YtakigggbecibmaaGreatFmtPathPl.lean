/- Places of the nodes on a path, plain: what is told of a node, and how places lie in a row. -/
import Derived.Test.YtakigggbecibmaaGreatFmtPathMem
namespace Go.Proofs.YtakigggbecibmaaGreatFmt
open Go.RowKit

/-- A place: its kind, its text, where it begins and where it ends. -/
structure Pl where
  kind : ByteArray
  text : ByteArray
  lo : Int
  hi : Int
def Pl.cells (p : Pl) : List Value := [.string p.kind, .string p.text, .int .i64 p.lo, .int .i64 p.hi]
abbrev Pl.agg (p : Pl) : Value := .agg #[.string p.kind, .string p.text, .int .i64 p.lo, .int .i64 p.hi]
abbrev kName : ByteArray := ⟨#[110, 97, 109, 101]⟩
abbrev kBin : ByteArray := ⟨#[98, 105, 110, 97, 114, 121]⟩
abbrev kOther : ByteArray := ⟨#[111, 116, 104, 101, 114]⟩
abbrev noText : ByteArray := ⟨#[]⟩
def place (ts : List Tm) (n : Nat) : PN → Pl
  | .file => ⟨kOther, noText, 0, tE ts n⟩
  | .decl => ⟨kOther, noText, 10, tE ts n⟩
  | .spec => ⟨kOther, noText, 14, tE ts n⟩
  | .pkg => ⟨kName, ⟨#[112]⟩, 8, 9⟩
  | .var => ⟨kName, ⟨#[118]⟩, 14, 15⟩
  | .bin k => ⟨kBin, noText, 18, tE ts k⟩
  | .term k => ⟨kName, (tm ts k).name, tS ts k, tE ts k⟩
theorem place_lo (ts : List Tm) (n : Nat) (x : PN) : (place ts n x).lo = plo ts x := by cases x <;> rfl
theorem place_hi (ts : List Tm) (n : Nat) (x : PN) : (place ts n x).hi = phi ts n x := by cases x <;> rfl
def plCells : List Pl → List Value
  | [] => []
  | p :: l => p.cells ++ plCells l
theorem plCells_length : ∀ l : List Pl, (plCells l).length = l.length * 4
  | [] => rfl
  | p :: l => by simp only [plCells, List.length_append, List.length_cons, plCells_length l, Pl.cells, List.length_nil]; omega
theorem plCells_append : ∀ l m : List Pl, plCells (l ++ m) = plCells l ++ plCells m
  | [], m => rfl
  | p :: l, m => by simp only [List.cons_append, plCells, plCells_append l m, List.append_assoc]
theorem plCells_get : ∀ {l : List Pl} {i : Nat} {p : Pl}, l[i]? = some p → (plCells l)[i * 4]? = some (.string p.kind) ∧ (plCells l)[i * 4 + 1]? = some (.string p.text) ∧ (plCells l)[i * 4 + 2]? = some (.int .i64 p.lo) ∧ (plCells l)[i * 4 + 3]? = some (.int .i64 p.hi)
  | [], i, p, h => by simp at h
  | q :: l, 0, p, h => by
    simp only [List.getElem?_cons_zero, Option.some.injEq] at h
    subst h
    exact ⟨rfl, rfl, rfl, rfl⟩
  | q :: l, i + 1, p, h => by
    have ih := plCells_get (l := l) (i := i) (p := p) (by simpa using h)
    have e : ∀ j, (plCells (q :: l))[(i + 1) * 4 + j]? = (plCells l)[i * 4 + j]? := fun j => by
      show (q.cells ++ plCells l)[(i + 1) * 4 + j]? = _
      rw [List.getElem?_append_right (by simp [Pl.cells]; omega)]
      congr 1
      simp [Pl.cells]
      omega
    exact ⟨(e 0).trans ih.1, (e 1).trans ih.2.1, (e 2).trans ih.2.2.1, (e 3).trans ih.2.2.2⟩
theorem plCells_cell (l : List Pl) : ∀ u ∈ plCells l, u.oneCell' = true := by
  induction l with
  | nil => intro u hu; cases hu
  | cons p l ih =>
    intro u hu
    rcases List.mem_append.1 hu with hu | hu
    · simp only [Pl.cells, List.mem_cons, List.not_mem_nil, or_false] at hu
      rcases hu with rfl | rfl | rfl | rfl <;> rfl
    · exact ih u hu
/-- Places in a row of its own. -/
def PRow (w : World) (g : Nat) (ps : List Pl) (cap : Nat) : Prop := Row w g 29 4 ps.length (plCells ps) cap
theorem PRow.below {w w' : World} {g cap : Nat} {ps : List Pl} (h : PRow w g ps cap) (hb : Below w.heap.size w w') : PRow w' g ps cap := Row.below h hb (Row.lt h)
theorem PRow.cells {w : World} {g cap : Nat} {ps : List Pl} (h : PRow w g ps cap) {i : Nat} {p : Pl} (hp : ps[i]? = some p) :
    w.cell? ⟨g, i * 4, none⟩ = some (.string p.kind) ∧ w.cell? ⟨g, i * 4 + 1, none⟩ = some (.string p.text) ∧ w.cell? ⟨g, i * 4 + 2, none⟩ = some (.int .i64 p.lo) ∧ w.cell? ⟨g, i * 4 + 3, none⟩ = some (.int .i64 p.hi) := by
  obtain ⟨h0, h1, h2, h3⟩ := plCells_get hp
  exact ⟨Row.cell h h0, Row.cell h h1, Row.cell h h2, Row.cell h h3⟩
/-- The source of an append. -/
theorem PRow.news {w : World} {g cap : Nat} {ps : List Pl} (h : PRow w g ps cap) : ∀ j u, (plCells ps)[j]? = some u → w.cell? ((⟨g, 0, none⟩ : Addr).add j) = some u := by
  intro j u hu
  have e : (⟨g, 0, none⟩ : Addr).add j = ⟨g, j, none⟩ := by
    unfold Addr.add; split <;> simp_all
  rw [e]
  exact Row.cell h hu

/-! the offsets of the terms -/
def spanCells (ts : List Tm) : Nat → List Value
  | 0 => []
  | k + 1 => spanCells ts k ++ [.int .i64 (tS ts k), .int .i64 (tE ts k)]
def signCells (ts : List Tm) : Nat → List Value
  | 0 => []
  | k + 1 => signCells ts k ++ [.int .i64 (tG ts k)]
theorem spanCells_length (ts : List Tm) : ∀ k, (spanCells ts k).length = k * 2
  | 0 => rfl
  | k + 1 => by simp only [spanCells, List.length_append, spanCells_length ts k, List.length_cons, List.length_nil]; omega
theorem signCells_length (ts : List Tm) : ∀ k, (signCells ts k).length = k
  | 0 => rfl
  | k + 1 => by simp only [signCells, List.length_append, signCells_length ts k, List.length_cons, List.length_nil]
theorem spanCells_get {ts : List Tm} {i : Nat} : ∀ {k : Nat}, i < k → (spanCells ts k)[i * 2]? = some (.int .i64 (tS ts i)) ∧ (spanCells ts k)[i * 2 + 1]? = some (.int .i64 (tE ts i))
  | 0, h => by omega
  | k + 1, h => by
    have hl := spanCells_length ts k
    by_cases e : i = k
    · subst e
      simp only [spanCells]
      constructor
      · rw [List.getElem?_append_right (by omega), hl, Nat.sub_self]; rfl
      · rw [List.getElem?_append_right (by omega), hl, show i * 2 + 1 - i * 2 = 1 by omega]; rfl
    · have ih := spanCells_get (ts := ts) (i := i) (k := k) (by omega)
      simp only [spanCells]
      rw [List.getElem?_append_left (by omega), List.getElem?_append_left (by omega)]
      exact ih
theorem signCells_get {ts : List Tm} {i : Nat} : ∀ {k : Nat}, i < k → (signCells ts k)[i]? = some (.int .i64 (tG ts i))
  | 0, h => by omega
  | k + 1, h => by
    have hl := signCells_length ts k
    simp only [signCells]
    by_cases e : i = k
    · subst e
      rw [List.getElem?_append_right (by omega), hl, Nat.sub_self]; rfl
    · rw [List.getElem?_append_left (by omega)]
      exact signCells_get (by omega)
theorem spanCells_cell (ts : List Tm) : ∀ k, ∀ u ∈ spanCells ts k, u.oneCell' = true
  | 0, u, hu => by cases hu
  | k + 1, u, hu => by
    rcases List.mem_append.1 hu with hu | hu
    · exact spanCells_cell ts k u hu
    · simp only [List.mem_cons, List.not_mem_nil, or_false] at hu
      rcases hu with rfl | rfl <;> rfl

/-! what the laws ask, of the paths -/
/-- The places of the sums from one up to the last. -/
def sumPl (ts : List Tm) (n i : Nat) : List Pl := (sumsFrom (max i 1) n).map (place ts n)
def abovePl (ts : List Tm) (n : Nat) : List Pl := above.map (place ts n)
theorem sumPl_eq (ts : List Tm) (n i : Nat) : sumPl ts n i = (List.range' (max i 1) (n + 1 - max i 1)).map fun k => (⟨kBin, noText, 18, tE ts k⟩ : Pl) := by
  unfold sumPl sumsFrom
  rw [List.map_map]
  rfl
theorem abovePl_eq (ts : List Tm) (n : Nat) : abovePl ts n = [⟨kOther, noText, 14, tE ts n⟩, ⟨kOther, noText, 10, tE ts n⟩, ⟨kOther, noText, 0, tE ts n⟩] := rfl
theorem visFile_le {ts : List Tm} {n : Nat} (a b : Int) : (visFile ts n a b).1.length ≤ n + 5 := by
  have hs : ∀ k (a b : Int), (visSum ts k a b).1.length ≤ k + 2 := by
    intro k
    induction k with
    | zero => intro a b; simp [visSum]
    | succ k ih =>
      intro a b
      simp only [visSum]
      repeat' split
      all_goals first | (simp only [List.length_cons]; have := ih (max a 18) (min b (tE ts (k + 1))); omega) | (simp only [List.length_cons, List.length_nil]; omega)
  have h1 : ∀ (a b : Int), (visSpec ts n a b).1.length ≤ n + 3 := by
    intro a b
    simp only [visSpec]
    repeat' split
    all_goals first | (simp only [List.length_cons]; have := hs n (max a 14) (min b (tE ts n)); omega) | (simp only [List.length_cons, List.length_nil]; omega)
  have h2 : ∀ (a b : Int), (visDecl ts n a b).1.length ≤ n + 4 := by
    intro a b
    simp only [visDecl]
    repeat' split
    all_goals first | (simp only [List.length_cons]; have := h1 (max a 10) (min b (tE ts n)); omega) | (simp only [List.length_cons, List.length_nil]; omega)
  simp only [visFile]
  repeat' split
  all_goals first | (simp only [List.length_cons]; have := h2 (max a 0) (min b (tE ts n)); omega) | (simp only [List.length_cons, List.length_nil]; omega)
theorem visFile_len {ts : List Tm} {n : Nat} (hn : n < 20) (a b : Int) : 0 < (visFile ts n a b).1.length ∧ (visFile ts n a b).1.length ≤ 100 := by
  constructor
  · simp only [visFile]
    repeat' split
    all_goals simp
  · have := visFile_le (ts := ts) (n := n) a b
    omega
theorem path_len {ts : List Tm} {n : Nat} (hn : n < 20) (a b : Int) : 0 < (pathOf ts n a b).1.length ∧ (pathOf ts n a b).1.length ≤ 100 := by
  unfold pathOf
  split
  · simpa only [List.length_reverse] using visFile_len hn a _
  · simp
end Go.Proofs.YtakigggbecibmaaGreatFmt
