/- The tree of a sum as it lies in memory. -/
import Derived.Test.YtakigggbecibmaaGreatFmtPathPure
import Derived.Test.YtakigggbecibmaaGreatFmtMem
namespace Go.Proofs.YtakigggbecibmaaGreatFmt
open Go.RowKit

/-- The blocks of a tree: names, sums, and what stands around them. -/
structure Ad where
  bI : Nat → Nat
  bB : Nat → Nat
  bV : Nat
  gN : Nat
  gV : Nat
  bS : Nat
  gS : Nat
  bD : Nat
  gD : Nat
  bN : Nat
  bF : Nat
abbrev ptr (b : Nat) : Value := .pointer (some ⟨b, 0, none⟩)
def identCells (pos : Int) (nm : ByteArray) : Array Value := #[.int .i64 pos, .string nm, .pointer none]
def sumVal (ad : Ad) : Nat → Value
  | 0 => .iface 68 (ptr (ad.bI 0))
  | k + 1 => .iface 79 (ptr (ad.bB (k + 1)))
def PN.typ : PN → TypeId
  | .file => 48
  | .decl => 88
  | .spec => 83
  | .pkg => 68
  | .var => 68
  | .bin _ => 79
  | .term _ => 68
def PN.blk (ad : Ad) : PN → Nat
  | .file => ad.bF
  | .decl => ad.bD
  | .spec => ad.bS
  | .pkg => ad.bN
  | .var => ad.bV
  | .bin k => ad.bB k
  | .term k => ad.bI k
def PN.val (ad : Ad) (x : PN) : Value := .iface x.typ (ptr (x.blk ad))
theorem sumVal_eq (ad : Ad) (k : Nat) : sumVal ad k = (sumN k).val ad := by cases k <;> rfl

/-- The tree of the sum of the terms up to the n-th one. -/
structure TreeIn (w : World) (ts : List Tm) (n : Nat) (ad : Ad) : Prop where
  ident : ∀ k, k ≤ n → Blk w (ad.bI k) 78 (identCells (tS ts k + 1) (tm ts k).name)
  bin : ∀ k, k < n → Blk w (ad.bB (k + 1)) 82 #[sumVal ad k, .int .i64 (tG ts (k + 1) + 1), .int .i64 12, .iface 68 (ptr (ad.bI (k + 1)))]
  var : Blk w ad.bV 78 (identCells 15 ⟨#[118]⟩)
  names : Blk w ad.gN 68 #[ptr ad.bV]
  vals : Blk w ad.gV 75 #[sumVal ad n]
  spec : Blk w ad.bS 87 #[.pointer none, .slice (some ⟨ad.gN, 0, none⟩) 1 1, .nilIface, .slice (some ⟨ad.gV, 0, none⟩) 1 1, .pointer none]
  specs : Blk w ad.gS 266 #[.iface 83 (ptr ad.bS)]
  decl : Blk w ad.bD 91 #[.pointer none, .int .i64 11, .int .i64 85, .int .i64 0, .slice (some ⟨ad.gS, 0, none⟩) 1 1, .int .i64 0]
  decls : Blk w ad.gD 228 #[.iface 88 (ptr ad.bD)]
  pkg : Blk w ad.bN 78 (identCells 9 ⟨#[112]⟩)
  file : Blk w ad.bF 97 #[.pointer none, .int .i64 1, ptr ad.bN, .slice (some ⟨ad.gD, 0, none⟩) 1 1, .int .i64 1, .int .i64 (tE ts n + 2), .pointer none, .slice none 0 0, .slice none 0 0, .slice none 0 0, .string ⟨#[]⟩]

theorem TreeIn.below {w w' : World} {ts : List Tm} {n : Nat} {ad : Ad} {B : Nat} (h : TreeIn w ts n ad) (hb : Below B w w') (hB : w.heap.size ≤ B) : TreeIn w' ts n ad where
  ident := fun k hk => (h.ident k hk).below hb (Nat.lt_of_lt_of_le (h.ident k hk).lt hB)
  bin := fun k hk => (h.bin k hk).below hb (Nat.lt_of_lt_of_le (h.bin k hk).lt hB)
  var := h.var.below hb (Nat.lt_of_lt_of_le h.var.lt hB)
  names := h.names.below hb (Nat.lt_of_lt_of_le h.names.lt hB)
  vals := h.vals.below hb (Nat.lt_of_lt_of_le h.vals.lt hB)
  spec := h.spec.below hb (Nat.lt_of_lt_of_le h.spec.lt hB)
  specs := h.specs.below hb (Nat.lt_of_lt_of_le h.specs.lt hB)
  decl := h.decl.below hb (Nat.lt_of_lt_of_le h.decl.lt hB)
  decls := h.decls.below hb (Nat.lt_of_lt_of_le h.decls.lt hB)
  pkg := h.pkg.below hb (Nat.lt_of_lt_of_le h.pkg.lt hB)
  file := h.file.below hb (Nat.lt_of_lt_of_le h.file.lt hB)
/-- Which nodes there are. -/
def PN.ok (n : Nat) : PN → Prop
  | .bin k => 1 ≤ k ∧ k ≤ n
  | .term k => k ≤ n
  | _ => True
theorem TreeIn.lt {w : World} {ts : List Tm} {n : Nat} {ad : Ad} (h : TreeIn w ts n ad) {x : PN} (hx : x.ok n) : x.blk ad < w.heap.size := by
  cases x with
  | file => exact h.file.lt
  | decl => exact h.decl.lt
  | spec => exact h.spec.lt
  | pkg => exact h.pkg.lt
  | var => exact h.var.lt
  | bin k =>
    obtain ⟨k, rfl⟩ : ∃ m, k = m + 1 := ⟨k - 1, by have := hx.1; omega⟩
    exact (h.bin k (by have := hx.2; omega)).lt
  | term k => exact (h.ident k hx).lt
theorem sumN_ok {n k : Nat} (h : k ≤ n) : (sumN k).ok n := by
  cases k with
  | zero => exact Nat.zero_le _
  | succ k => exact ⟨by omega, h⟩
end Go.Proofs.YtakigggbecibmaaGreatFmt
