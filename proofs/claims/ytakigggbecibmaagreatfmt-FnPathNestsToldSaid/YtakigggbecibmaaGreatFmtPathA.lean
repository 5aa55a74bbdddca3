/- Contracts: where nodes begin and end. -/
import Derived.Test.YtakigggbecibmaaGreatFmtProg
import Derived.Test.YtakigggbecibmaaGreatFmtPathMem
import Derived.WalkKit
import Derived.Handy
import Derived.KernelRfl
import Derived.Lib.Hide
import Derived.IntWalk
import Derived.WalkSmall
import Derived.Deep.QuietTactic
import Derived.BigQuiet
namespace Go.Proofs.YtakigggbecibmaaGreatFmt
open Go.RowKit
set_option maxRecDepth 100000

/-- A number that a call answers, and what was there stays. -/
def Num (x : Int) (w : World) (e : Ending) (w' : World) : Prop := e = .returned (.int .i64 x) ∧ Below w.heap.size w w'

theorem posCl_any (x : Int) (w : World) (h : 0 ≤ x) (h2 : x ≤ 100000) : Calls Tryz.prog 30 #[.int .i64 x] w fun e w' => e = .returned (.int .i64 (x + 1)) ∧ w = w' := by
  go_enter Tryz.func30, Tryz.ntmps30
  go_wp2_with fail
  go_ret
  exact ⟨rfl, rfl⟩
theorem tok_any (x l : Int) (w : World) (h : 0 ≤ x) (h2 : x ≤ 100000) (h3 : 0 ≤ l) (h4 : l ≤ 1000) : Calls Tryz.prog 34 #[.int .i64 x, .int .i64 l] w fun e w' => e = .returned (.iface 62 (.agg #[.int .i64 x, .int .i64 (x + l)])) ∧ w = w' := by
  go_enter Tryz.func34, Tryz.ntmps34
  go_wp2_with fail
  go_ret
  exact ⟨rfl, rfl⟩
theorem identPos_any (b : Nat) (p : Int) (nm : ByteArray) (w : World) (h : Blk w b 78 (identCells p nm)) : Calls Tryz.prog 108 #[ptr b] w (Num p w) := by
  have c0 : w.cell? ⟨b, 0, none⟩ = some (.int .i64 p) := h.cell 0
  clear h
  go_enter Tryz.func108, Tryz.ntmps108
  go_wp2_with fail
  go_ret
  exact ⟨rfl, Below.refl _ _⟩
theorem identEnd_any (b : Nat) (p : Int) (nm : ByteArray) (w : World) (h : Blk w b 78 (identCells p nm)) (h0 : 0 ≤ p) (h1 : p ≤ 100000) (h2 : nm.size ≤ 1000) :
    Calls Tryz.prog 38 #[ptr b] w (Num (p + nm.size) w) := by
  have c0 : w.cell? ⟨b, 0, none⟩ = some (.int .i64 p) := h.cell 0
  have c1 : w.cell? ⟨b, 1, none⟩ = some (.string nm) := h.cell 1
  have hw : IntKind.i64.wrap (p + (nm.size : Int)) = p + (nm.size : Int) := IntWalk.i64_in _ (by omega)
  clear h
  go_enter Tryz.func38, Tryz.ntmps38
  go_wp2_with fail
  go_quiet (fail)
  go_wp2_with fail
  go_ret
  exact ⟨rfl, below_drewN (Below.refl _ _) _⟩
/-- A method that is found, and the function that is called. -/
def Meth (t : TypeId) (u : Value) (name : String) (f : FuncId) (r : Value) : Prop :=
  (∀ w, (method 440 t u name).run Tryz.prog w = .ok (f, r) w) ∧ ∀ w, (callFunc f #[r]).run Tryz.prog w = .ok (.enter f #[r]) w
/-- A node, whatever its kind: where it begins and where it ends. -/
structure NodeOk (w : World) (t : TypeId) (u : Value) (lo hi : Int) : Prop where
  pos : ∃ f r, Meth t u "Pos" f r ∧ ∀ w', Below w.heap.size w w' → Calls Tryz.prog f #[r] w' (Num lo w')
  end_ : ∃ f r, Meth t u "End" f r ∧ ∀ w', Below w.heap.size w w' → Calls Tryz.prog f #[r] w' (Num hi w')
theorem NodeOk.below {w w' : World} {t : TypeId} {u : Value} {lo hi : Int} (h : NodeOk w t u lo hi) (hb : Below w.heap.size w w') : NodeOk w' t u lo hi := by
  obtain ⟨⟨f, r, hm, hc⟩, ⟨f', r', hm', hc'⟩⟩ := h
  exact ⟨⟨f, r, hm, fun x hx => hc x (hb.trans (hx.mono hb.size))⟩, ⟨f', r', hm', fun x hx => hc' x (hb.trans (hx.mono hb.size))⟩⟩

theorem ident_ok (b : Nat) (p : Int) (nm : ByteArray) (w : World) (h : Blk w b 78 (identCells p nm)) (h0 : 0 ≤ p) (h1 : p ≤ 100000) (h2 : nm.size ≤ 1000) : NodeOk w 68 (ptr b) p (p + nm.size) where
  pos := ⟨108, ptr b, ⟨fun _ => by kernel_rfl, fun _ => by kernel_rfl⟩, fun w' hb => identPos_any b p nm w' (h.below hb h.lt)⟩
  end_ := ⟨38, ptr b, ⟨fun _ => by kernel_rfl, fun _ => by kernel_rfl⟩, fun w' hb => identEnd_any b p nm w' (h.below hb h.lt) h0 h1 h2⟩

theorem binPos_any (b : Nat) (w : World) (x y p q : Value) (t : TypeId) (u : Value) (lo hi : Int) (hx : x = .iface t u) (h : Blk w b 82 #[x, p, q, y]) (hn : NodeOk w t u lo hi) :
    Calls Tryz.prog 123 #[ptr b] w (Num lo w) := by
  subst hx
  have c0 : w.cell? ⟨b, 0, none⟩ = some (.iface t u) := h.cell 0
  obtain ⟨f, r, ⟨m1, m2⟩, hc⟩ := hn.pos
  have HC := Lib.hid hc
  clear h hn hc
  go_enter Tryz.func123, Tryz.ntmps123
  go_wp2_with fail
  refine (HC.out _ (by go_grown)).mono ?_
  rintro e w' ⟨rfl, hb⟩
  go_wp2_with fail
  go_ret
  exact ⟨rfl, hb⟩
theorem binEnd_any (b : Nat) (w : World) (x y p q : Value) (t : TypeId) (u : Value) (lo hi : Int) (hy : y = .iface t u) (h : Blk w b 82 #[x, p, q, y]) (hn : NodeOk w t u lo hi) :
    Calls Tryz.prog 122 #[ptr b] w (Num hi w) := by
  subst hy
  have c0 : w.cell? ⟨b, 3, none⟩ = some (.iface t u) := h.cell 3
  obtain ⟨f, r, ⟨m1, m2⟩, hc⟩ := hn.end_
  have HC := Lib.hid hc
  clear h hn hc
  go_enter Tryz.func122, Tryz.ntmps122
  go_wp2_with fail
  refine (HC.out _ (by go_grown)).mono ?_
  rintro e w' ⟨rfl, hb⟩
  go_wp2_with fail
  go_ret
  exact ⟨rfl, hb⟩
theorem tokPos_any (a b : Int) (w : World) : Calls Tryz.prog 96 #[.agg #[.int .i64 a, .int .i64 b]] w (Num a w) := by
  go_enter Tryz.func96, Tryz.ntmps96
  go_wp2_with fail
  go_ret
  exact ⟨rfl, by go_grown⟩
theorem tokEnd_any (a b : Int) (w : World) : Calls Tryz.prog 95 #[.agg #[.int .i64 a, .int .i64 b]] w (Num b w) := by
  go_enter Tryz.func95, Tryz.ntmps95
  go_wp2_with fail
  go_ret
  exact ⟨rfl, by go_grown⟩
theorem specPos_any (b gN bV c1 : Nat) (v2 v3 v4 : Value) (p : Int) (nm : ByteArray) (w : World) (h : Blk w b 87 #[.pointer none, .slice (some ⟨gN, 0, none⟩) 1 c1, v2, v3, v4]) (hg : Blk w gN 68 #[ptr bV]) (hi : Blk w bV 78 (identCells p nm)) :
    Calls Tryz.prog 127 #[ptr b] w (Num p w) := by
  have q1 : w.cell? ⟨b, 1, none⟩ = some (.slice (some ⟨gN, 0, none⟩) 1 c1) := h.cell 1
  have q2 : w.cell? ⟨gN, 0, none⟩ = some (ptr bV) := hg.cell 0
  have HI := Lib.hid hi
  clear h hg hi
  go_enter Tryz.func127, Tryz.ntmps127
  go_wp2_with fail
  refine (identPos_any bV p nm _ HI.out).mono ?_
  rintro e w' ⟨rfl, hb⟩
  go_wp2_with fail
  go_ret
  exact ⟨rfl, hb⟩
theorem specEnd_any (b gV c1 : Nat) (v1 v2 v4 x : Value) (t : TypeId) (u : Value) (lo hi : Int) (w : World) (hx : x = .iface t u) (h : Blk w b 87 #[.pointer none, v1, v2, .slice (some ⟨gV, 0, none⟩) 1 c1, v4]) (hg : Blk w gV 75 #[x]) (hn : NodeOk w t u lo hi) :
    Calls Tryz.prog 126 #[ptr b] w (Num hi w) := by
  subst hx
  have q1 : w.cell? ⟨b, 3, none⟩ = some (.slice (some ⟨gV, 0, none⟩) 1 c1) := h.cell 3
  have q2 : w.cell? ⟨gV, 0, none⟩ = some (.iface t u) := hg.cell 0
  obtain ⟨f, r, ⟨m1, m2⟩, hc⟩ := hn.end_
  have HC := Lib.hid hc
  clear h hg hn hc
  go_enter Tryz.func126, Tryz.ntmps126
  go_wp2_with fail
  refine (HC.out _ (by go_grown)).mono ?_
  rintro e w' ⟨rfl, hb⟩
  go_wp2_with fail
  go_ret
  exact ⟨rfl, hb⟩
theorem declPos_any (b : Nat) (p : Int) (v0 v2 v3 v4 v5 : Value) (w : World) (h : Blk w b 91 #[v0, .int .i64 p, v2, v3, v4, v5]) : Calls Tryz.prog 130 #[ptr b] w (Num p w) := by
  have q1 : w.cell? ⟨b, 1, none⟩ = some (.int .i64 p) := h.cell 1
  clear h
  go_enter Tryz.func130, Tryz.ntmps130
  go_wp2_with fail
  go_ret
  exact ⟨rfl, Below.refl _ _⟩
theorem isValid_any (p : Int) (w : World) : Calls Tryz.prog 36 #[.int .i64 p] w fun e w' => e = .returned (.bool (p != 0)) ∧ w = w' := by
  go_enter Tryz.func36, Tryz.ntmps36
  go_wp2_with fail
  go_ret
  exact ⟨rfl, rfl⟩
theorem declEnd_any (b gS c1 : Nat) (v0 v1 v2 v3 x : Value) (t : TypeId) (u : Value) (lo hi : Int) (w : World) (hx : x = .iface t u) (h : Blk w b 91 #[v0, v1, v2, v3, .slice (some ⟨gS, 0, none⟩) 1 c1, .int .i64 0]) (hg : Blk w gS 266 #[x]) (hn : NodeOk w t u lo hi) :
    Calls Tryz.prog 129 #[ptr b] w (Num hi w) := by
  subst hx
  have q1 : w.cell? ⟨b, 4, none⟩ = some (.slice (some ⟨gS, 0, none⟩) 1 c1) := h.cell 4
  have q2 : w.cell? ⟨b, 5, none⟩ = some (.int .i64 0) := h.cell 5
  have q3 : w.cell? ⟨gS, 0, none⟩ = some (.iface t u) := hg.cell 0
  obtain ⟨f, r, ⟨m1, m2⟩, hc⟩ := hn.end_
  have HC := Lib.hid hc
  clear h hg hn hc
  go_enter Tryz.func129, Tryz.ntmps129
  go_wp2_with fail
  refine (isValid_any _ _).mono ?_
  rintro e w' ⟨rfl, rfl⟩
  go_wp2_with fail
  refine (HC.out _ (by go_grown)).mono ?_
  rintro e w' ⟨rfl, hb⟩
  go_wp2_with fail
  go_ret
  exact ⟨rfl, hb⟩
theorem filePos_any (b : Nat) (p : Int) (v0 v2 v3 v4 v5 v6 v7 v8 v9 v10 : Value) (w : World) (h : Blk w b 97 #[v0, .int .i64 p, v2, v3, v4, v5, v6, v7, v8, v9, v10]) : Calls Tryz.prog 29 #[ptr b] w (Num p w) := by
  have q1 : w.cell? ⟨b, 1, none⟩ = some (.int .i64 p) := h.cell 1
  clear h
  go_enter Tryz.func29, Tryz.ntmps29
  go_wp2_with fail
  go_ret
  exact ⟨rfl, Below.refl _ _⟩
theorem fileEnd_any (b gD c1 : Nat) (v0 v1 v2 v4 v5 v6 v7 v8 v9 v10 x : Value) (t : TypeId) (u : Value) (lo hi : Int) (w : World) (hx : x = .iface t u) (h : Blk w b 97 #[v0, v1, v2, .slice (some ⟨gD, 0, none⟩) 1 c1, v4, v5, v6, v7, v8, v9, v10]) (hg : Blk w gD 228 #[x]) (hn : NodeOk w t u lo hi) :
    Calls Tryz.prog 28 #[ptr b] w (Num hi w) := by
  subst hx
  have q1 : w.cell? ⟨b, 3, none⟩ = some (.slice (some ⟨gD, 0, none⟩) 1 c1) := h.cell 3
  have q3 : w.cell? ⟨gD, 0, none⟩ = some (.iface t u) := hg.cell 0
  obtain ⟨f, r, ⟨m1, m2⟩, hc⟩ := hn.end_
  have HC := Lib.hid hc
  clear h hg hn hc
  go_enter Tryz.func28, Tryz.ntmps28
  go_wp2_with fail
  refine (HC.out _ (by go_grown)).mono ?_
  rintro e w' ⟨rfl, hb⟩
  go_wp2_with fail
  go_ret
  exact ⟨rfl, hb⟩

theorem tokNode_ok (w : World) (a b : Int) : NodeOk w 62 (.agg #[.int .i64 a, .int .i64 b]) a b where
  pos := ⟨96, .agg #[.int .i64 a, .int .i64 b], ⟨fun _ => by kernel_rfl, fun _ => by kernel_rfl⟩, fun w' _ => tokPos_any a b w'⟩
  end_ := ⟨95, .agg #[.int .i64 a, .int .i64 b], ⟨fun _ => by kernel_rfl, fun _ => by kernel_rfl⟩, fun w' _ => tokEnd_any a b w'⟩

section
variable {ts : List Tm} {n : Nat} {ad : Ad} {w : World} (h : ∀ t ∈ ts, TmOk t) (hn : n < ts.length) (hl : ts.length ≤ 20) (hT : TreeIn w ts n ad)
include h hn hl hT
theorem term_ok {k : Nat} (hk : k ≤ n) : NodeOk w 68 (ptr (ad.bI k)) (tS ts k + 1) (tE ts k + 1) := by
  have h1 := tS_eq h (k := k) (by omega)
  have h2 := tE_lo h (k := k) (by omega)
  have h3 := tm_ok h (i := k) (by omega)
  have := ident_ok _ _ _ w (hT.ident k hk) (by omega) (by omega) (by have := h3.2.1; omega)
  rwa [show tS ts k + 1 + ((tm ts k).name.size : Int) = tE ts k + 1 by omega] at this
theorem sum_ok : ∀ {k : Nat}, k ≤ n → NodeOk w (sumN k).typ (ptr ((sumN k).blk ad)) 19 (tE ts k + 1)
  | 0, hk => term_ok h hn hl hT hk
  | k + 1, hk => by
    have ih := sum_ok (k := k) (by omega)
    have ht := term_ok h hn hl hT hk
    have hb := hT.bin k (by omega)
    have e1 : sumVal ad k = .iface (sumN k).typ (ptr ((sumN k).blk ad)) := sumVal_eq ad k
    exact ⟨⟨123, ptr (ad.bB (k + 1)), ⟨fun _ => by kernel_rfl, fun _ => by kernel_rfl⟩, fun w' hw => binPos_any _ w' _ _ _ _ _ _ _ _ e1 (hb.below hw hb.lt) (ih.below hw)⟩,
      ⟨122, ptr (ad.bB (k + 1)), ⟨fun _ => by kernel_rfl, fun _ => by kernel_rfl⟩, fun w' hw => binEnd_any _ w' _ _ _ _ _ _ _ _ rfl (hb.below hw hb.lt) (ht.below hw)⟩⟩
theorem spec_ok : NodeOk w 83 (ptr ad.bS) 15 (tE ts n + 1) := by
  have hs := sum_ok h hn hl hT (Nat.le_refl n)
  have e1 : sumVal ad n = .iface (sumN n).typ (ptr ((sumN n).blk ad)) := sumVal_eq ad n
  exact ⟨⟨127, ptr ad.bS, ⟨fun _ => by kernel_rfl, fun _ => by kernel_rfl⟩, fun w' hw => specPos_any _ _ _ _ _ _ _ _ _ w' (hT.spec.below hw hT.spec.lt) (hT.names.below hw hT.names.lt) (hT.var.below hw hT.var.lt)⟩,
    ⟨126, ptr ad.bS, ⟨fun _ => by kernel_rfl, fun _ => by kernel_rfl⟩, fun w' hw => specEnd_any _ _ _ _ _ _ _ _ _ _ _ w' e1 (hT.spec.below hw hT.spec.lt) (hT.vals.below hw hT.vals.lt) (hs.below hw)⟩⟩
theorem decl_ok : NodeOk w 88 (ptr ad.bD) 11 (tE ts n + 1) := by
  have hs := spec_ok h hn hl hT
  exact ⟨⟨130, ptr ad.bD, ⟨fun _ => by kernel_rfl, fun _ => by kernel_rfl⟩, fun w' hw => declPos_any _ _ _ _ _ _ _ w' (hT.decl.below hw hT.decl.lt)⟩,
    ⟨129, ptr ad.bD, ⟨fun _ => by kernel_rfl, fun _ => by kernel_rfl⟩, fun w' hw => declEnd_any _ _ _ _ _ _ _ _ _ _ _ _ w' rfl (hT.decl.below hw hT.decl.lt) (hT.specs.below hw hT.specs.lt) (hs.below hw)⟩⟩
theorem file_ok : NodeOk w 48 (ptr ad.bF) 1 (tE ts n + 1) := by
  have hs := decl_ok h hn hl hT
  exact ⟨⟨29, ptr ad.bF, ⟨fun _ => by kernel_rfl, fun _ => by kernel_rfl⟩, fun w' hw => filePos_any _ _ _ _ _ _ _ _ _ _ _ _ w' (hT.file.below hw hT.file.lt)⟩,
    ⟨28, ptr ad.bF, ⟨fun _ => by kernel_rfl, fun _ => by kernel_rfl⟩, fun w' hw => fileEnd_any _ _ _ _ _ _ _ _ _ _ _ _ _ _ _ _ _ _ w' rfl (hT.file.below hw hT.file.lt) (hT.decls.below hw hT.decls.lt) (hs.below hw)⟩⟩
/-- Every node of the tree begins and ends where it should. -/
theorem pn_ok {x : PN} (hx : x.ok n) : NodeOk w x.typ (ptr (x.blk ad)) (plo ts x + 1) (phi ts n x + 1) := by
  cases x with
  | file => exact file_ok h hn hl hT
  | decl => exact decl_ok h hn hl hT
  | spec => exact spec_ok h hn hl hT
  | pkg => exact ident_ok _ _ _ w hT.pkg (by omega) (by omega) (by decide)
  | var => exact ident_ok _ _ _ w hT.var (by omega) (by omega) (by decide)
  | bin k =>
    obtain ⟨k, rfl⟩ : ∃ m, k = m + 1 := ⟨k - 1, by have := hx.1; omega⟩
    exact sum_ok h hn hl hT (k := k + 1) hx.2
  | term k => exact term_ok h hn hl hT hx
end
end Go.Proofs.YtakigggbecibmaaGreatFmt
