/- childrenOf of whatever node of the tree. -/
import Derived.Test.YtakigggbecibmaaGreatFmtPathI
import Derived.Test.YtakigggbecibmaaGreatFmtPathJ
import Derived.Test.YtakigggbecibmaaGreatFmtPathK
import Derived.Test.YtakigggbecibmaaGreatFmtPathL
import Derived.Test.YtakigggbecibmaaGreatFmtPathM
namespace Go.Proofs.YtakigggbecibmaaGreatFmt
open Go.RowKit
set_option maxRecDepth 100000

def kidVal (ad : Ad) (k : Kid) : Value := match k.node with | some x => x.val ad | none => tokV (k.lo + 1) (k.hi + 1)
theorem other_ptr {B : Nat} {w : World} {t te : TypeId} {b c : Nat} {cb cc : Array Value} {tb tc : TypeId} (hc : (Tryz.prog.info? t).map (·.comparable) = some true) (hp : Tryz.prog.underlying t = some (.pointer te)) (hte : (Tryz.prog.info? te).map (fun j => decide (j.size ≠ 0)) = some true)
    (hb1 : Blk w b tb cb) (hc1 : Blk w c tc cc) (hne : b ≠ c) (hB : w.heap.size ≤ B) : Other B w (.iface t (ptr b)) (.iface t (ptr c)) := by
  intro w' hw
  obtain ⟨i, hi, hcomp⟩ := Option.map_eq_some_iff.1 hc
  obtain ⟨j, hj, hsz⟩ := Option.map_eq_some_iff.1 hte
  exact run_eql_iface_ptr_other _ Tryz.underlying52 hp hi hcomp hj (by simpa using hsz) (by intro e; injection e with e1; exact hne e1) ((hw.block b (Nat.lt_of_lt_of_le hb1.lt hB)).trans hb1) ((hw.block c (Nat.lt_of_lt_of_le hc1.lt hB)).trans hc1)
section
variable {ts : List Tm} {n : Nat} {ad : Ad} {w : World} (h : ∀ t ∈ ts, TmOk t) (hn : n < ts.length) (hl : ts.length ≤ 20) (hT : TreeIn w ts n ad) (h12 : Tok w 12 ⟨#[43]⟩) (h85 : Tok w 85 ⟨#[118, 97, 114]⟩)
include h hn hl hT h12 h85
theorem children_any {x : PN} (hx : x.ok n) : Calls Tryz.prog 26 #[x.val ad] w (Kids w ((kidsOf ts n x).map (kidVal ad))) := by
  cases x with
  | file =>
    have := children_file w ad.bF ad.gD ad.bN _ _ _ _ _ _ _ hT.file rfl hT.pkg (by decide) hT.decls (by decide) (pn_ok h hn hl hT (x := .decl) trivial) (show (9 : Int) < 10 + 1 by decide)
    exact this
  | decl =>
    have := children_decl w ad.bD ad.gS _ _ _ _ _ hT.decl rfl hT.specs (by decide) h85 (pn_ok h hn hl hT (x := .spec) trivial) (show (11 : Int) < 14 + 1 by decide)
    exact this
  | spec =>
    have hs := pn_ok h hn hl hT (x := sumN n) (by cases n <;> simp [sumN, PN.ok])
    have := children_spec w ad.bS ad.gN ad.gV ad.bV _ _ _ _ _ _ hT.spec (sumVal_eq ad n) hT.names hT.vals hT.var (by decide) (by cases n <;> simp [sumN, PN.typ]) hs (by cases n <;> simp [sumN, plo, tS])
    rw [sumVal_eq] at this
    exact this
  | pkg => exact children_ident w ad.bN 9 _ hT.pkg (by decide) (by decide) (by decide)
  | var => exact children_ident w ad.bV 15 _ hT.var (by decide) (by decide) (by decide)
  | bin k =>
    obtain ⟨k, rfl⟩ : ∃ m, k = m + 1 := ⟨k - 1, by have := hx.1; omega⟩
    have hk : k + 1 ≤ n := hx.2
    have l1 := tE_lt h (k := k) (by omega)
    have l2 := tE_lo h (k := k) (by omega)
    have l3 := tE_lo h (k := k + 1) (by omega)
    have hs := pn_ok h hn hl hT (x := sumN k) (by cases k <;> simp [sumN, PN.ok]; omega)
    have ht := pn_ok h hn hl hT (x := .term (k + 1)) hk
    have hlo : plo ts (sumN k) = 18 := by cases k <;> simp [sumN, plo, tS]
    have ho1 : Other w.heap.size w (sumVal ad k) (.iface 79 (ptr (ad.bB (k + 1)))) := by
      cases k with
      | zero => exact other_type (by decide)
      | succ k =>
        refine other_ptr (by kernel_rfl) Tryz.underlying79 (by kernel_rfl) (hT.bin k (by omega)) (hT.bin (k + 1) (by omega)) ?_ (Nat.le_refl _)
        intro e
        have e1 := (hT.bin k (by omega)).cell 1
        have e2 := (hT.bin (k + 1) (by omega)).cell 1
        rw [e, e2] at e1
        have e3 : tG ts (k + 1 + 1) + 1 = tG ts (k + 1) + 1 := by simpa using e1
        have l4 := tE_lt h (k := k) (by omega)
        have l5 := tE_lt h (k := k + 1) (by omega)
        omega
    have := children_bin w (ad.bB (k + 1)) _ _ _ _ _ _ _ _ _ _ _ (hT.bin k (by omega)) (sumVal_eq ad k) rfl (by omega) (by omega) h12 hs ht (by rw [hlo]; omega) (by simp only [plo]; omega) ho1 (other_type (by decide))
    rw [sumVal_eq] at this
    exact this
  | term k =>
    have h1 := tS_eq h (k := k) (by have : k ≤ n := hx; omega)
    have h2 := tE_lo h (k := k) (by have : k ≤ n := hx; omega)
    have h3 := tm_ok h (i := k) (by have : k ≤ n := hx; omega)
    have hk : k ≤ n := hx
    have := children_ident w (ad.bI k) _ _ (hT.ident k hk) (by omega) (by omega) (by have := h3.2.1; omega)
    rw [show tS ts k + 1 + ((tm ts k).name.size : Int) = tE ts k + 1 by omega] at this
    exact this
end
end Go.Proofs.YtakigggbecibmaaGreatFmt
