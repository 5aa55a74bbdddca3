/- The contract of exprOf, kind by kind. -/
import Derived.Test.YtgimbgpebpippaaGreatDoorWalkD
namespace Go.Proofs.YtgimbgpebpippaaGreatDoor
open Go.RowKit
set_option maxRecDepth 100000
set_option maxHeartbeats 4000000

theorem New_one {B B' b : Nat} {l : List Nat} (h : Fresh B' l) (hB : B ≤ B') (hb : B ≤ b) (hl : ∀ c ∈ l, c < b) : Fresh B (b :: l) :=
  Fresh.cons (h.mono hB) hb (fun hm => Nat.lt_irrefl _ (hl b hm))

theorem exprOf_name (tx : ByteArray) (A : Option Addr) (cap : Nat) (w : World) (htx : tx.size ≤ maxLen) :
    Calls Tryz.prog 35 #[.agg #[.string ⟨#[110, 97, 109, 101]⟩, .string tx, .slice A 0 cap]] w (MadeE (.mk sName tx []) w) := by
  go_enter Tryz.func35, Tryz.ntmps35
  go_wp2_with (go_at_call 47; refine (newIdent_any _ _).mono ?_; rintro e w' ⟨rfl, rfl⟩)
  go_ret
  refine ⟨.ident (w.heap.size + 1) tx, rfl, ⟨htx, ?_⟩, rfl, New_one (Fresh.nil w.heap.size) (Nat.le_refl _) (by omega) (fun c hc => by cases hc), by go_grown⟩
  have := Blk.new (w.alloc (.cells #[.string ⟨#[110, 97, 109, 101]⟩, .string tx, .slice A 0 cap] 24)) 83 #[.int .i64 0, .string tx, .pointer none]
  rwa [World.size_alloc] at this
theorem exprOf_int (tx : ByteArray) (A : Option Addr) (cap : Nat) (w : World) (htx : tx.size ≤ maxLen) :
    Calls Tryz.prog 35 #[.agg #[.string ⟨#[105, 110, 116]⟩, .string tx, .slice A 0 cap]] w (MadeE (.mk sInt tx []) w) := by
  go_enter Tryz.func35, Tryz.ntmps35
  go_wp2_with fail
  go_ret
  refine ⟨.lit (w.heap.size + 1) tx, rfl, ⟨htx, ?_⟩, rfl, New_one (Fresh.nil w.heap.size) (Nat.le_refl _) (by omega) (fun c hc => by cases hc), by go_grown⟩
  have := Blk.new (w.alloc (.cells #[.string ⟨#[105, 110, 116]⟩, .string tx, .slice A 0 cap] 24)) 128 #[.int .i64 0, .int .i64 0, .int .i64 5, .string tx]
  rwa [World.size_alloc] at this

theorem exprOf_paren (k : Nat) (ih : ExprUpTo k) (x : ANode) (tx : ByteArray) (A : Option Addr) (cap : Nat) (w : World) (L : Nat) (hL : L ≤ w.heap.size) (hG : Glob w) (_hcap : 1 ≤ cap) (_hcm : cap ≤ 9223372036854775807) (_htx : tx.size ≤ maxLen) (hA0 : KidAt w L A 0 x) (hin0 : x.In w L) (hs0 : SizeOf.sizeOf x < k) (hv0 : V x.erase) :
    Calls Tryz.prog 35 #[.agg #[.string ⟨#[112, 97, 114, 101, 110]⟩, .string ⟨#[]⟩, .slice A 1 cap]] w (MadeE (.mk sParen sEmpty [x.erase]) w) := by
  have hGL := hG.2
  obtain ⟨b, off, rfl, hbL, c00, c01, c02⟩ := hA0
  simp only [Nat.zero_mul, Nat.add_zero] at c00 c01 c02
  have hbs : b < w.heap.size := by omega
  go_enter Tryz.func35, Tryz.ntmps35
  go_wp2_with fail
  refine (ih x _ L hs0 (hin0.below (B := w.heap.size) (by go_grown) hL) (by simp only [World.size_alloc]; omega) (hG.below (B := w.heap.size) (by go_grown) (Nat.le_refl _)) hv0).mono ?_
  rintro e w' ⟨y, he, hyin, hyn, hynew, hb2⟩
  obtain ⟨ty, vy, hy⟩ := y.val_one
  rw [hy] at he
  subst he
  have hs2 := hb2.size
  rw [World.size_alloc] at hs2 hynew
  have HB := Lib.hid ((Below.alloc (Below.refl w.heap.size w) (Nat.le_refl _) _).trans (hb2.mono (by rw [World.size_alloc]; omega)))
  have HY := Lib.hid (And.intro hy (And.intro hyin (And.intro hyn hynew)))
  clear hb2 hy hyin hyn hynew
  go_wp2_with fail
  go_ret
  obtain ⟨hy, hyin, hyn, hynew⟩ := HY.out
  refine ⟨.paren w'.heap.size y, rfl, ⟨?_, hyin.below ((Below.refl _ _).alloc (Nat.le_refl _) _) (Nat.le_refl _)⟩, ?_, New_one hynew (by omega) (by omega) (AE.In.lt y hyin), HB.out.alloc (by omega) _⟩
  · rw [hy]; exact Blk.new _ _ _
  · rw [AE.node, hyn]

theorem exprOf_star (k : Nat) (ih : ExprUpTo k) (x : ANode) (tx : ByteArray) (A : Option Addr) (cap : Nat) (w : World) (L : Nat) (hL : L ≤ w.heap.size) (hG : Glob w) (_hcap : 1 ≤ cap) (_hcm : cap ≤ 9223372036854775807) (_htx : tx.size ≤ maxLen) (hA0 : KidAt w L A 0 x) (hin0 : x.In w L) (hs0 : SizeOf.sizeOf x < k) (hv0 : V x.erase) :
    Calls Tryz.prog 35 #[.agg #[.string ⟨#[117, 110, 97, 114, 121]⟩, .string ⟨#[42]⟩, .slice A 1 cap]] w (MadeE (.mk sUn ⟨#[42]⟩ [x.erase]) w) := by
  have hGL := hG.2
  obtain ⟨b, off, rfl, hbL, c00, c01, c02⟩ := hA0
  simp only [Nat.zero_mul, Nat.add_zero] at c00 c01 c02
  have hbs : b < w.heap.size := by omega
  go_enter Tryz.func35, Tryz.ntmps35
  go_wp2_with fail
  refine (ih x _ L hs0 (hin0.below (B := w.heap.size) (by go_grown) hL) (by simp only [World.size_alloc]; omega) (hG.below (B := w.heap.size) (by go_grown) (Nat.le_refl _)) hv0).mono ?_
  rintro e w' ⟨y, he, hyin, hyn, hynew, hb2⟩
  obtain ⟨ty, vy, hy⟩ := y.val_one
  rw [hy] at he
  subst he
  have hs2 := hb2.size
  rw [World.size_alloc] at hs2 hynew
  have HB := Lib.hid ((Below.alloc (Below.refl w.heap.size w) (Nat.le_refl _) _).trans (hb2.mono (by rw [World.size_alloc]; omega)))
  have HY := Lib.hid (And.intro hy (And.intro hyin (And.intro hyn hynew)))
  clear hb2 hy hyin hyn hynew
  go_wp2_with fail
  go_ret
  obtain ⟨hy, hyin, hyn, hynew⟩ := HY.out
  refine ⟨.star w'.heap.size y, rfl, ⟨?_, hyin.below ((Below.refl _ _).alloc (Nat.le_refl _) _) (Nat.le_refl _)⟩, ?_, New_one hynew (by omega) (by omega) (AE.In.lt y hyin), HB.out.alloc (by omega) _⟩
  · rw [hy]; exact Blk.new _ _ _
  · rw [AE.node, hyn]

theorem exprOf_sel (k : Nat) (ih : ExprUpTo k) (x : ANode) (tx : ByteArray) (A : Option Addr) (cap : Nat) (w : World) (L : Nat) (hL : L ≤ w.heap.size) (hG : Glob w) (_hcap : 1 ≤ cap) (_hcm : cap ≤ 9223372036854775807) (_htx : tx.size ≤ maxLen) (hA0 : KidAt w L A 0 x) (hin0 : x.In w L) (hs0 : SizeOf.sizeOf x < k) (hv0 : V x.erase) :
    Calls Tryz.prog 35 #[.agg #[.string ⟨#[115, 101, 108, 101, 99, 116, 111, 114]⟩, .string tx, .slice A 1 cap]] w (MadeE (.mk sSel tx [x.erase]) w) := by
  have hGL := hG.2
  obtain ⟨b, off, rfl, hbL, c00, c01, c02⟩ := hA0
  simp only [Nat.zero_mul, Nat.add_zero] at c00 c01 c02
  have hbs : b < w.heap.size := by omega
  have SOF : Hid (∀ w', Below (w.heap.size + 1) (w.alloc (.cells #[.string ⟨#[115, 101, 108, 101, 99, 116, 111, 114]⟩, .string tx, .slice (some ⟨b, off, none⟩) 1 cap] 24)) w' → (w'.cell? ⟨w.heap.size, 1, none⟩ = some (.string tx) ∧ w'.cell? ⟨w.heap.size, 2, none⟩ = some (.slice (some ⟨b, off, none⟩) 1 cap) ∧ w'.cell? ⟨b, off, none⟩ = some (.string x.kind) ∧ w'.cell? ⟨b, off + 1, none⟩ = some (.string x.text) ∧ w'.cell? ⟨b, off + 2, none⟩ = some (.slice x.addr x.kids.length x.cap))) := by
    intro w' h
    exact ⟨(h.cell (p := ⟨w.heap.size, 1, none⟩) (Nat.lt_succ_self _)).trans (World.cell?_alloc_at _ _ _ _ rfl), (h.cell (p := ⟨w.heap.size, 2, none⟩) (Nat.lt_succ_self _)).trans (World.cell?_alloc_at _ _ _ _ rfl), ((h.cell (p := ⟨b, off , none⟩) (by show b < _; omega)).trans (World.cell?_alloc_lt _ _ _ hbs)).trans c00, ((h.cell (p := ⟨b, off + 1, none⟩) (by show b < _; omega)).trans (World.cell?_alloc_lt _ _ _ hbs)).trans c01, ((h.cell (p := ⟨b, off + 2, none⟩) (by show b < _; omega)).trans (World.cell?_alloc_lt _ _ _ hbs)).trans c02⟩
  have HW : Hid (Below w.heap.size w (w.alloc (.cells #[.string ⟨#[115, 101, 108, 101, 99, 116, 111, 114]⟩, .string tx, .slice (some ⟨b, off, none⟩) 1 cap] 24))) := (Below.refl _ _).alloc (Nat.le_refl _) _
  have hw0 : Below (w.heap.size + 1) (w.alloc (.cells #[.string ⟨#[115, 101, 108, 101, 99, 116, 111, 114]⟩, .string tx, .slice (some ⟨b, off, none⟩) 1 cap] 24)) (World.drew (w.alloc (.cells #[.string ⟨#[115, 101, 108, 101, 99, 116, 111, 114]⟩, .string tx, .slice (some ⟨b, off, none⟩) 1 cap] 24))) := (Below.refl _ _).drew
  have HZ : Hid (w.heap.size + 1 = (World.heap (w.alloc (.cells #[.string ⟨#[115, 101, 108, 101, 99, 116, 111, 114]⟩, .string tx, .slice (some ⟨b, off, none⟩) 1 cap] 24))).size) := (World.size_alloc _ _).symm
  go_enter Tryz.func35, Tryz.ntmps35
  go_wp2_with fail
  go_region_held3 (fun w' => w'.cell? ⟨w.heap.size, 1, none⟩ = some (.string tx) ∧ w'.cell? ⟨w.heap.size, 2, none⟩ = some (.slice (some ⟨b, off, none⟩) 1 cap) ∧ w'.cell? ⟨b, off, none⟩ = some (.string x.kind) ∧ w'.cell? ⟨b, off + 1, none⟩ = some (.string x.text) ∧ w'.cell? ⟨b, off + 2, none⟩ = some (.slice x.addr x.kids.length x.cap)) (first | (exact SOF.out _ hw0) | (exact SOF.out _ hw1) | (exact SOF.out _ hw2) | (exact SOF.out _ (hw0.alloc (Nat.le_trans (Nat.le_of_eq HZ.out) hw0.size) _)) | (exact SOF.out _ (hw1.alloc (Nat.le_trans (Nat.le_of_eq HZ.out) hw1.size) _)) | go_keep)
    (first
      | (go_at_call 47; refine (newIdent_any _ _).mono ?_; rintro e w' ⟨rfl, rfl⟩)
      | (go_at_call_of 35 (ANode.kind x); refine (ih x _ L hs0 (hin0.below (B := w.heap.size) (HW.out.trans (hw0.mono (Nat.le_add_right _ _))) hL) (Nat.le_trans hL (HW.out.trans (hw0.mono (Nat.le_add_right _ _))).size) (hG.below (B := w.heap.size) (HW.out.trans (hw0.mono (Nat.le_add_right _ _))) (Nat.le_refl _)) hv0).mono ?_; rintro e w1 ⟨y0, he, hyin0, hyn0, hynew0, hb0⟩; obtain ⟨ty0, vy0, hy0⟩ := y0.val_one; rw [hy0] at he; subst he; have hw1 := hw0.trans (hb0.mono (Nat.le_trans (Nat.le_of_eq HZ.out) hw0.size)); have HY0 := Lib.hid (And.intro hy0 (And.intro hyin0 (And.intro hyn0 (And.intro hynew0 hb0)))); clear hyin0 hyn0 hynew0 hy0 hb0))
  go_wp2_with fail
  go_ret
  obtain ⟨hy, hyin, hyn, hynew, _⟩ := HY0.out
  have hs1 := hw1.size
  rw [World.size_alloc] at hs1
  have hynew : Fresh (w.heap.size + 1) y0.blocks := by
    have := hynew
    rwa [AE.New, World.size_drew, World.size_alloc] at this
  refine ⟨.sel (w1.heap.size + 1) y0 w1.heap.size tx, rfl, ⟨?_, ⟨_htx, ?_⟩, ?_⟩, ?_, ?_, ?_⟩
  · rw [hy]; rw [← World.size_alloc]; exact Blk.new _ _ _
  · exact (Blk.new _ _ _).alloc _
  · exact hyin.below (((Below.refl _ _).alloc (Nat.le_refl _) _).alloc (by rw [World.size_alloc]; omega) _) (Nat.le_refl _)
  · rw [AE.node, hyn]
  · exact Fresh.cons (New_one hynew (by omega) (by omega) (AE.In.lt y0 hyin)) (by omega) (fun hm => by
      rcases List.mem_cons.1 hm with h | h
      · omega
      · have := AE.In.lt y0 hyin _ h; omega)
  · exact ((HW.out.trans (hw1.mono (Nat.le_add_right _ _))).alloc (by omega) _).alloc (by rw [World.size_alloc]; omega) _

theorem exprOf_unary (k : Nat) (ih : ExprUpTo k) (x : ANode) (tx : ByteArray) (A : Option Addr) (cap : Nat) (w : World) (L : Nat) (hL : L ≤ w.heap.size) (hG : Glob w) (_hcap : 1 ≤ cap) (_hcm : cap ≤ 9223372036854775807) (_htx : tx.size ≤ maxLen) (hA0 : KidAt w L A 0 x) (hin0 : x.In w L) (hs0 : SizeOf.sizeOf x < k) (hv0 : V x.erase) (op : Nat) (hop1 : 12 ≤ op) (hop2 : op < 59) (hop3 : tok op = tx) (hne : (tx.toList == [42]) = false) :
    Calls Tryz.prog 35 #[.agg #[.string ⟨#[117, 110, 97, 114, 121]⟩, .string tx, .slice A 1 cap]] w (MadeE (.mk sUn tx [x.erase]) w) := by
  have hGL := hG.2
  obtain ⟨b, off, rfl, hbL, c00, c01, c02⟩ := hA0
  simp only [Nat.zero_mul, Nat.add_zero] at c00 c01 c02
  have hbs : b < w.heap.size := by omega
  have hne' : ¬ tx.toList = [42] := by simpa using hne
  have SOF : Hid (∀ w', Below (w.heap.size + 1) (w.alloc (.cells #[.string ⟨#[117, 110, 97, 114, 121]⟩, .string tx, .slice (some ⟨b, off, none⟩) 1 cap] 24)) w' → (w'.cell? ⟨w.heap.size, 1, none⟩ = some (.string tx) ∧ w'.cell? ⟨w.heap.size, 2, none⟩ = some (.slice (some ⟨b, off, none⟩) 1 cap) ∧ w'.cell? ⟨b, off, none⟩ = some (.string x.kind) ∧ w'.cell? ⟨b, off + 1, none⟩ = some (.string x.text) ∧ w'.cell? ⟨b, off + 2, none⟩ = some (.slice x.addr x.kids.length x.cap))) := by
    intro w' h
    exact ⟨(h.cell (p := ⟨w.heap.size, 1, none⟩) (Nat.lt_succ_self _)).trans (World.cell?_alloc_at _ _ _ _ rfl), (h.cell (p := ⟨w.heap.size, 2, none⟩) (Nat.lt_succ_self _)).trans (World.cell?_alloc_at _ _ _ _ rfl), ((h.cell (p := ⟨b, off , none⟩) (by show b < _; omega)).trans (World.cell?_alloc_lt _ _ _ hbs)).trans c00, ((h.cell (p := ⟨b, off + 1, none⟩) (by show b < _; omega)).trans (World.cell?_alloc_lt _ _ _ hbs)).trans c01, ((h.cell (p := ⟨b, off + 2, none⟩) (by show b < _; omega)).trans (World.cell?_alloc_lt _ _ _ hbs)).trans c02⟩
  have HW : Hid (Below w.heap.size w (w.alloc (.cells #[.string ⟨#[117, 110, 97, 114, 121]⟩, .string tx, .slice (some ⟨b, off, none⟩) 1 cap] 24))) := (Below.refl _ _).alloc (Nat.le_refl _) _
  have hw0 : Below (w.heap.size + 1) (w.alloc (.cells #[.string ⟨#[117, 110, 97, 114, 121]⟩, .string tx, .slice (some ⟨b, off, none⟩) 1 cap] 24)) (World.drew (w.alloc (.cells #[.string ⟨#[117, 110, 97, 114, 121]⟩, .string tx, .slice (some ⟨b, off, none⟩) 1 cap] 24))) := (Below.refl _ _).drew
  have HZ : Hid (w.heap.size + 1 = (World.heap (w.alloc (.cells #[.string ⟨#[117, 110, 97, 114, 121]⟩, .string tx, .slice (some ⟨b, off, none⟩) 1 cap] 24))).size) := (World.size_alloc _ _).symm
  go_enter Tryz.func35, Tryz.ntmps35
  go_wp2_with fail
  go_region_held3 (fun w' => w'.cell? ⟨w.heap.size, 1, none⟩ = some (.string tx) ∧ w'.cell? ⟨w.heap.size, 2, none⟩ = some (.slice (some ⟨b, off, none⟩) 1 cap) ∧ w'.cell? ⟨b, off, none⟩ = some (.string x.kind) ∧ w'.cell? ⟨b, off + 1, none⟩ = some (.string x.text) ∧ w'.cell? ⟨b, off + 2, none⟩ = some (.slice x.addr x.kids.length x.cap)) (first | (exact SOF.out _ hw0) | (exact SOF.out _ hw1) | (exact SOF.out _ hw2) | (exact SOF.out _ (hw0.alloc (Nat.le_trans (Nat.le_of_eq HZ.out) hw0.size) _)) | (exact SOF.out _ (hw1.alloc (Nat.le_trans (Nat.le_of_eq HZ.out) hw1.size) _)) | go_keep)
    (first
      | (go_at_call 69; refine (tokenOf_any tx op _ hop1 hop2 hop3 (hG.below (B := w.heap.size) (HW.out.trans (hw0.mono (Nat.le_add_right _ _))) (Nat.le_refl _)).1).mono ?_; rintro e w' ⟨⟨op', rfl, hok, htk⟩, rfl⟩; have HOP := Lib.hid (And.intro hok htk); clear hok htk)
      | (go_at_call_of 35 (ANode.kind x); refine (ih x _ L hs0 (hin0.below (B := w.heap.size) (HW.out.trans (hw0.mono (Nat.le_add_right _ _))) hL) (Nat.le_trans hL (HW.out.trans (hw0.mono (Nat.le_add_right _ _))).size) (hG.below (B := w.heap.size) (HW.out.trans (hw0.mono (Nat.le_add_right _ _))) (Nat.le_refl _)) hv0).mono ?_; rintro e w1 ⟨y0, he, hyin0, hyn0, hynew0, hb0⟩; obtain ⟨ty0, vy0, hy0⟩ := y0.val_one; rw [hy0] at he; subst he; have hw1 := hw0.trans (hb0.mono (Nat.le_trans (Nat.le_of_eq HZ.out) hw0.size)); have HY0 := Lib.hid (And.intro hy0 (And.intro hyin0 (And.intro hyn0 (And.intro hynew0 hb0)))); clear hyin0 hyn0 hynew0 hy0 hb0))
  go_wp2_with fail
  go_ret
  obtain ⟨hok, htk⟩ := HOP.out
  obtain ⟨hy, hyin, hyn, hynew, _⟩ := HY0.out
  have hs1 := hw1.size
  rw [World.size_alloc] at hs1
  have hynew : Fresh (w.heap.size + 1) y0.blocks := by
    have := hynew
    rwa [AE.New, World.size_drew, World.size_alloc] at this
  refine ⟨.unary w1.heap.size op' y0, rfl, ⟨hok, ?_, ?_⟩, ?_, ?_, ?_⟩
  · rw [hy]; exact Blk.new _ _ _
  · exact hyin.below ((Below.refl _ _).alloc (Nat.le_refl _) _) (Nat.le_refl _)
  · rw [AE.node, hyn, htk]
  · exact New_one hynew (by omega) (by omega) (AE.In.lt y0 hyin)
  · exact (HW.out.trans (hw1.mono (Nat.le_add_right _ _))).alloc (by omega) _

theorem exprOf_binary (k : Nat) (ih : ExprUpTo k) (x : ANode) (y : ANode) (tx : ByteArray) (A : Option Addr) (cap : Nat) (w : World) (L : Nat) (hL : L ≤ w.heap.size) (hG : Glob w) (_hcap : 2 ≤ cap) (_hcm : cap ≤ 9223372036854775807) (_htx : tx.size ≤ maxLen) (hA0 : KidAt w L A 0 x) (hin0 : x.In w L) (hs0 : SizeOf.sizeOf x < k) (hv0 : V x.erase) (hA1 : KidAt w L A 1 y) (hin1 : y.In w L) (hs1 : SizeOf.sizeOf y < k) (hv1 : V y.erase) (op : Nat) (hop1 : 12 ≤ op) (hop2 : op < 59) (hop3 : tok op = tx) :
    Calls Tryz.prog 35 #[.agg #[.string ⟨#[98, 105, 110, 97, 114, 121]⟩, .string tx, .slice A 2 cap]] w (MadeE (.mk sBin tx [x.erase, y.erase]) w) := by
  have hGL := hG.2
  obtain ⟨b, off, rfl, hbL, c00, c01, c02⟩ := hA0
  obtain ⟨b', off', hA', hbL', c10, c11, c12⟩ := hA1
  injection hA' with hA'
  injection hA' with e1 e2
  subst e1
  subst e2
  clear hbL'
  simp only [Nat.zero_mul, Nat.add_zero] at c00 c01 c02
  simp only [Nat.one_mul] at c10 c11 c12
  have hbs : b < w.heap.size := by omega
  have SOF : Hid (∀ w', Below (w.heap.size + 1) (w.alloc (.cells #[.string ⟨#[98, 105, 110, 97, 114, 121]⟩, .string tx, .slice (some ⟨b, off, none⟩) 2 cap] 24)) w' → (w'.cell? ⟨w.heap.size, 1, none⟩ = some (.string tx) ∧ w'.cell? ⟨w.heap.size, 2, none⟩ = some (.slice (some ⟨b, off, none⟩) 2 cap) ∧ w'.cell? ⟨b, off, none⟩ = some (.string x.kind) ∧ w'.cell? ⟨b, off + 1, none⟩ = some (.string x.text) ∧ w'.cell? ⟨b, off + 2, none⟩ = some (.slice x.addr x.kids.length x.cap) ∧ w'.cell? ⟨b, off + 3, none⟩ = some (.string y.kind) ∧ w'.cell? ⟨b, off + 3 + 1, none⟩ = some (.string y.text) ∧ w'.cell? ⟨b, off + 3 + 2, none⟩ = some (.slice y.addr y.kids.length y.cap))) := by
    intro w' h
    exact ⟨(h.cell (p := ⟨w.heap.size, 1, none⟩) (Nat.lt_succ_self _)).trans (World.cell?_alloc_at _ _ _ _ rfl), (h.cell (p := ⟨w.heap.size, 2, none⟩) (Nat.lt_succ_self _)).trans (World.cell?_alloc_at _ _ _ _ rfl), ((h.cell (p := ⟨b, off , none⟩) (by show b < _; omega)).trans (World.cell?_alloc_lt _ _ _ hbs)).trans c00, ((h.cell (p := ⟨b, off + 1, none⟩) (by show b < _; omega)).trans (World.cell?_alloc_lt _ _ _ hbs)).trans c01, ((h.cell (p := ⟨b, off + 2, none⟩) (by show b < _; omega)).trans (World.cell?_alloc_lt _ _ _ hbs)).trans c02, ((h.cell (p := ⟨b, off + 3 , none⟩) (by show b < _; omega)).trans (World.cell?_alloc_lt _ _ _ hbs)).trans c10, ((h.cell (p := ⟨b, off + 3 + 1, none⟩) (by show b < _; omega)).trans (World.cell?_alloc_lt _ _ _ hbs)).trans c11, ((h.cell (p := ⟨b, off + 3 + 2, none⟩) (by show b < _; omega)).trans (World.cell?_alloc_lt _ _ _ hbs)).trans c12⟩
  have HW : Hid (Below w.heap.size w (w.alloc (.cells #[.string ⟨#[98, 105, 110, 97, 114, 121]⟩, .string tx, .slice (some ⟨b, off, none⟩) 2 cap] 24))) := (Below.refl _ _).alloc (Nat.le_refl _) _
  have hw0 : Below (w.heap.size + 1) (w.alloc (.cells #[.string ⟨#[98, 105, 110, 97, 114, 121]⟩, .string tx, .slice (some ⟨b, off, none⟩) 2 cap] 24)) (World.drew (w.alloc (.cells #[.string ⟨#[98, 105, 110, 97, 114, 121]⟩, .string tx, .slice (some ⟨b, off, none⟩) 2 cap] 24))) := (Below.refl _ _).drew
  have HZ : Hid (w.heap.size + 1 = (World.heap (w.alloc (.cells #[.string ⟨#[98, 105, 110, 97, 114, 121]⟩, .string tx, .slice (some ⟨b, off, none⟩) 2 cap] 24))).size) := (World.size_alloc _ _).symm
  go_enter Tryz.func35, Tryz.ntmps35
  go_wp2_with fail
  go_region_held3 (fun w' => w'.cell? ⟨w.heap.size, 1, none⟩ = some (.string tx) ∧ w'.cell? ⟨w.heap.size, 2, none⟩ = some (.slice (some ⟨b, off, none⟩) 2 cap) ∧ w'.cell? ⟨b, off, none⟩ = some (.string x.kind) ∧ w'.cell? ⟨b, off + 1, none⟩ = some (.string x.text) ∧ w'.cell? ⟨b, off + 2, none⟩ = some (.slice x.addr x.kids.length x.cap) ∧ w'.cell? ⟨b, off + 3, none⟩ = some (.string y.kind) ∧ w'.cell? ⟨b, off + 3 + 1, none⟩ = some (.string y.text) ∧ w'.cell? ⟨b, off + 3 + 2, none⟩ = some (.slice y.addr y.kids.length y.cap)) (first | (exact SOF.out _ hw0) | (exact SOF.out _ hw1) | (exact SOF.out _ hw2) | (exact SOF.out _ (hw0.alloc (Nat.le_trans (Nat.le_of_eq HZ.out) hw0.size) _)) | (exact SOF.out _ (hw1.alloc (Nat.le_trans (Nat.le_of_eq HZ.out) hw1.size) _)) | go_keep)
    (first
      | (go_at_call 69; refine (tokenOf_any tx op _ hop1 hop2 hop3 (hG.below (B := w.heap.size) (HW.out.trans (hw0.mono (Nat.le_add_right _ _))) (Nat.le_refl _)).1).mono ?_; rintro e w' ⟨⟨op', rfl, hok, htk⟩, rfl⟩; have HOP := Lib.hid (And.intro hok htk); clear hok htk)
      | (go_at_call_of 35 (ANode.kind x); refine (ih x _ L hs0 (hin0.below (B := w.heap.size) (HW.out.trans (hw0.mono (Nat.le_add_right _ _))) hL) (Nat.le_trans hL (HW.out.trans (hw0.mono (Nat.le_add_right _ _))).size) (hG.below (B := w.heap.size) (HW.out.trans (hw0.mono (Nat.le_add_right _ _))) (Nat.le_refl _)) hv0).mono ?_; rintro e w1 ⟨y0, he, hyin0, hyn0, hynew0, hb0⟩; obtain ⟨ty0, vy0, hy0⟩ := y0.val_one; rw [hy0] at he; subst he; have hw1 := hw0.trans (hb0.mono (Nat.le_trans (Nat.le_of_eq HZ.out) hw0.size)); have HY0 := Lib.hid (And.intro hy0 (And.intro hyin0 (And.intro hyn0 (And.intro hynew0 hb0)))); clear hyin0 hyn0 hynew0 hy0 hb0)
      | (go_at_call_of 35 (ANode.kind y); refine (ih y _ L hs1 (hin1.below (B := w.heap.size) (HW.out.trans (hw1.mono (Nat.le_add_right _ _))) hL) (Nat.le_trans hL (HW.out.trans (hw1.mono (Nat.le_add_right _ _))).size) (hG.below (B := w.heap.size) (HW.out.trans (hw1.mono (Nat.le_add_right _ _))) (Nat.le_refl _)) hv1).mono ?_; rintro e w2 ⟨y1, he, hyin1, hyn1, hynew1, hb1⟩; obtain ⟨ty1, vy1, hy1⟩ := y1.val_one; rw [hy1] at he; subst he; have hw2 := hw1.trans (hb1.mono (Nat.le_trans (Nat.le_of_eq HZ.out) hw1.size)); have HY1 := Lib.hid (And.intro hy1 (And.intro hyin1 (And.intro hyn1 (And.intro hynew1 hb1)))); clear hyin1 hyn1 hynew1 hy1 hb1))
  go_wp2_with fail
  go_ret
  obtain ⟨hok, htk⟩ := HOP.out
  obtain ⟨hy0, hyin0, hyn0, hynew, hb0⟩ := HY0.out
  obtain ⟨hy1, hyin1, hyn1, hynew1, hb1⟩ := HY1.out
  have hs1 := hw1.size
  have hs2 := hb1.size
  rw [World.size_alloc] at hs1
  have hynew : Fresh (w.heap.size + 1) y0.blocks := by
    have := hynew
    rwa [AE.New, World.size_drew, World.size_alloc] at this
  have hin2 := hyin0.below hb1 (Nat.le_refl _)
  refine ⟨.binary w2.heap.size op' y0 y1, rfl, ⟨hok, ?_, ?_, ?_⟩, ?_, ?_, ?_⟩
  · rw [hy0, hy1]; exact Blk.new _ _ _
  · exact hin2.below ((Below.refl _ _).alloc (Nat.le_refl _) _) (Nat.le_refl _)
  · exact hyin1.below ((Below.refl _ _).alloc (Nat.le_refl _) _) (Nat.le_refl _)
  · rw [AE.node, hyn0, hyn1, htk]
  · refine New_one (B' := w.heap.size + 1) (Fresh.append hynew (hynew1.mono (by omega)) (fun c hc hc2 => ?_)) (by omega) (by omega) (fun c hc => ?_)
    · have := AE.In.lt y0 hyin0 c hc
      have := hynew1.1 c hc2
      omega
    · rcases List.mem_append.1 hc with hc | hc
      · exact AE.In.lt y0 hin2 c hc
      · exact AE.In.lt y1 hyin1 c hc
  · exact (HW.out.trans (hw2.mono (Nat.le_add_right _ _))).alloc (by omega) _

theorem exprOf_index (k : Nat) (ih : ExprUpTo k) (x : ANode) (y : ANode) (tx : ByteArray) (A : Option Addr) (cap : Nat) (w : World) (L : Nat) (hL : L ≤ w.heap.size) (hG : Glob w) (_hcap : 2 ≤ cap) (_hcm : cap ≤ 9223372036854775807) (_htx : tx.size ≤ maxLen) (hA0 : KidAt w L A 0 x) (hin0 : x.In w L) (hs0 : SizeOf.sizeOf x < k) (hv0 : V x.erase) (hA1 : KidAt w L A 1 y) (hin1 : y.In w L) (hs1 : SizeOf.sizeOf y < k) (hv1 : V y.erase) :
    Calls Tryz.prog 35 #[.agg #[.string ⟨#[105, 110, 100, 101, 120]⟩, .string ⟨#[]⟩, .slice A 2 cap]] w (MadeE (.mk sIndex sEmpty [x.erase, y.erase]) w) := by
  have hGL := hG.2
  obtain ⟨b, off, rfl, hbL, c00, c01, c02⟩ := hA0
  obtain ⟨b', off', hA', hbL', c10, c11, c12⟩ := hA1
  injection hA' with hA'
  injection hA' with e1 e2
  subst e1
  subst e2
  clear hbL'
  simp only [Nat.zero_mul, Nat.add_zero] at c00 c01 c02
  simp only [Nat.one_mul] at c10 c11 c12
  have hbs : b < w.heap.size := by omega
  have SOF : Hid (∀ w', Below (w.heap.size + 1) (w.alloc (.cells #[.string ⟨#[105, 110, 100, 101, 120]⟩, .string ⟨#[]⟩, .slice (some ⟨b, off, none⟩) 2 cap] 24)) w' → (w'.cell? ⟨w.heap.size, 1, none⟩ = some (.string ⟨#[]⟩) ∧ w'.cell? ⟨w.heap.size, 2, none⟩ = some (.slice (some ⟨b, off, none⟩) 2 cap) ∧ w'.cell? ⟨b, off, none⟩ = some (.string x.kind) ∧ w'.cell? ⟨b, off + 1, none⟩ = some (.string x.text) ∧ w'.cell? ⟨b, off + 2, none⟩ = some (.slice x.addr x.kids.length x.cap) ∧ w'.cell? ⟨b, off + 3, none⟩ = some (.string y.kind) ∧ w'.cell? ⟨b, off + 3 + 1, none⟩ = some (.string y.text) ∧ w'.cell? ⟨b, off + 3 + 2, none⟩ = some (.slice y.addr y.kids.length y.cap))) := by
    intro w' h
    exact ⟨(h.cell (p := ⟨w.heap.size, 1, none⟩) (Nat.lt_succ_self _)).trans (World.cell?_alloc_at _ _ _ _ rfl), (h.cell (p := ⟨w.heap.size, 2, none⟩) (Nat.lt_succ_self _)).trans (World.cell?_alloc_at _ _ _ _ rfl), ((h.cell (p := ⟨b, off , none⟩) (by show b < _; omega)).trans (World.cell?_alloc_lt _ _ _ hbs)).trans c00, ((h.cell (p := ⟨b, off + 1, none⟩) (by show b < _; omega)).trans (World.cell?_alloc_lt _ _ _ hbs)).trans c01, ((h.cell (p := ⟨b, off + 2, none⟩) (by show b < _; omega)).trans (World.cell?_alloc_lt _ _ _ hbs)).trans c02, ((h.cell (p := ⟨b, off + 3 , none⟩) (by show b < _; omega)).trans (World.cell?_alloc_lt _ _ _ hbs)).trans c10, ((h.cell (p := ⟨b, off + 3 + 1, none⟩) (by show b < _; omega)).trans (World.cell?_alloc_lt _ _ _ hbs)).trans c11, ((h.cell (p := ⟨b, off + 3 + 2, none⟩) (by show b < _; omega)).trans (World.cell?_alloc_lt _ _ _ hbs)).trans c12⟩
  have HW : Hid (Below w.heap.size w (w.alloc (.cells #[.string ⟨#[105, 110, 100, 101, 120]⟩, .string ⟨#[]⟩, .slice (some ⟨b, off, none⟩) 2 cap] 24))) := (Below.refl _ _).alloc (Nat.le_refl _) _
  have hw0 : Below (w.heap.size + 1) (w.alloc (.cells #[.string ⟨#[105, 110, 100, 101, 120]⟩, .string ⟨#[]⟩, .slice (some ⟨b, off, none⟩) 2 cap] 24)) (World.drew (w.alloc (.cells #[.string ⟨#[105, 110, 100, 101, 120]⟩, .string ⟨#[]⟩, .slice (some ⟨b, off, none⟩) 2 cap] 24))) := (Below.refl _ _).drew
  have HZ : Hid (w.heap.size + 1 = (World.heap (w.alloc (.cells #[.string ⟨#[105, 110, 100, 101, 120]⟩, .string ⟨#[]⟩, .slice (some ⟨b, off, none⟩) 2 cap] 24))).size) := (World.size_alloc _ _).symm
  go_enter Tryz.func35, Tryz.ntmps35
  go_wp2_with fail
  go_region_held3 (fun w' => w'.cell? ⟨w.heap.size, 1, none⟩ = some (.string ⟨#[]⟩) ∧ w'.cell? ⟨w.heap.size, 2, none⟩ = some (.slice (some ⟨b, off, none⟩) 2 cap) ∧ w'.cell? ⟨b, off, none⟩ = some (.string x.kind) ∧ w'.cell? ⟨b, off + 1, none⟩ = some (.string x.text) ∧ w'.cell? ⟨b, off + 2, none⟩ = some (.slice x.addr x.kids.length x.cap) ∧ w'.cell? ⟨b, off + 3, none⟩ = some (.string y.kind) ∧ w'.cell? ⟨b, off + 3 + 1, none⟩ = some (.string y.text) ∧ w'.cell? ⟨b, off + 3 + 2, none⟩ = some (.slice y.addr y.kids.length y.cap)) (first | (exact SOF.out _ hw0) | (exact SOF.out _ hw1) | (exact SOF.out _ hw2) | (exact SOF.out _ (hw0.alloc (Nat.le_trans (Nat.le_of_eq HZ.out) hw0.size) _)) | (exact SOF.out _ (hw1.alloc (Nat.le_trans (Nat.le_of_eq HZ.out) hw1.size) _)) | go_keep)
    (first
      | (go_at_call_of 35 (ANode.kind x); refine (ih x _ L hs0 (hin0.below (B := w.heap.size) (HW.out.trans (hw0.mono (Nat.le_add_right _ _))) hL) (Nat.le_trans hL (HW.out.trans (hw0.mono (Nat.le_add_right _ _))).size) (hG.below (B := w.heap.size) (HW.out.trans (hw0.mono (Nat.le_add_right _ _))) (Nat.le_refl _)) hv0).mono ?_; rintro e w1 ⟨y0, he, hyin0, hyn0, hynew0, hb0⟩; obtain ⟨ty0, vy0, hy0⟩ := y0.val_one; rw [hy0] at he; subst he; have hw1 := hw0.trans (hb0.mono (Nat.le_trans (Nat.le_of_eq HZ.out) hw0.size)); have HY0 := Lib.hid (And.intro hy0 (And.intro hyin0 (And.intro hyn0 (And.intro hynew0 hb0)))); clear hyin0 hyn0 hynew0 hy0 hb0)
      | (go_at_call_of 35 (ANode.kind y); refine (ih y _ L hs1 (hin1.below (B := w.heap.size) (HW.out.trans (hw1.mono (Nat.le_add_right _ _))) hL) (Nat.le_trans hL (HW.out.trans (hw1.mono (Nat.le_add_right _ _))).size) (hG.below (B := w.heap.size) (HW.out.trans (hw1.mono (Nat.le_add_right _ _))) (Nat.le_refl _)) hv1).mono ?_; rintro e w2 ⟨y1, he, hyin1, hyn1, hynew1, hb1⟩; obtain ⟨ty1, vy1, hy1⟩ := y1.val_one; rw [hy1] at he; subst he; have hw2 := hw1.trans (hb1.mono (Nat.le_trans (Nat.le_of_eq HZ.out) hw1.size)); have HY1 := Lib.hid (And.intro hy1 (And.intro hyin1 (And.intro hyn1 (And.intro hynew1 hb1)))); clear hyin1 hyn1 hynew1 hy1 hb1))
  go_wp2_with fail
  go_ret
  obtain ⟨hy0, hyin0, hyn0, hynew, hb0⟩ := HY0.out
  obtain ⟨hy1, hyin1, hyn1, hynew1, hb1⟩ := HY1.out
  have hs1 := hw1.size
  have hs2 := hb1.size
  rw [World.size_alloc] at hs1
  have hynew : Fresh (w.heap.size + 1) y0.blocks := by
    have := hynew
    rwa [AE.New, World.size_drew, World.size_alloc] at this
  have hin2 := hyin0.below hb1 (Nat.le_refl _)
  refine ⟨.index w2.heap.size y0 y1, rfl, ⟨?_, ?_, ?_⟩, ?_, ?_, ?_⟩
  · rw [hy0, hy1]; exact Blk.new _ _ _
  · exact hin2.below ((Below.refl _ _).alloc (Nat.le_refl _) _) (Nat.le_refl _)
  · exact hyin1.below ((Below.refl _ _).alloc (Nat.le_refl _) _) (Nat.le_refl _)
  · rw [AE.node, hyn0, hyn1]
  · refine New_one (B' := w.heap.size + 1) (Fresh.append hynew (hynew1.mono (by omega)) (fun c hc hc2 => ?_)) (by omega) (by omega) (fun c hc => ?_)
    · have := AE.In.lt y0 hyin0 c hc
      have := hynew1.1 c hc2
      omega
    · rcases List.mem_append.1 hc with hc | hc
      · exact AE.In.lt y0 hin2 c hc
      · exact AE.In.lt y1 hyin1 c hc
  · exact (HW.out.trans (hw2.mono (Nat.le_add_right _ _))).alloc (by omega) _

theorem exprOf_call (k : Nat) (ih : ExprUpTo k) (x : ANode) (rest : List ANode) (A : Option Addr) (cap : Nat) (hcm : cap ≤ 9223372036854775807) (w : World) (L : Nat) (hL : L ≤ w.heap.size) (hG : Glob w) (hA0 : KidAt w L A 0 x) (hin0 : x.In w L) (hs0 : SizeOf.sizeOf x < k) (hv0 : V x.erase) (hr : KidsIn w L A 1 rest) (hsr : ∀ n ∈ rest, SizeOf.sizeOf n < k) (hvr : VL (eraseL rest)) (hlen : rest.length ≤ 1000) (_hcap2 : rest.length + 1 ≤ cap) (hcap1 : 2 ≤ cap) :
    Calls Tryz.prog 35 #[.agg #[.string ⟨#[99, 97, 108, 108]⟩, .string ⟨#[]⟩, .slice A (rest.length + 1) cap]] w (MadeE (.mk sCall sEmpty (x.erase :: eraseL rest)) w) := by
  have hGL := hG.2
  obtain ⟨b, off, rfl, hbL, c00, c01, c02⟩ := hA0
  simp only [Nat.zero_mul, Nat.add_zero] at c00 c01 c02
  have hbs : b < w.heap.size := by omega
  have hr2 := hr.shift
  have HR := Lib.hid hr2
  clear hr hr2
  have HVR := Lib.hid hvr
  have HSR := Lib.hid hsr
  clear hvr hsr
  have SOF : Hid (∀ w', Below (w.heap.size + 1) (w.alloc (.cells #[.string ⟨#[99, 97, 108, 108]⟩, .string ⟨#[]⟩, .slice (some ⟨b, off, none⟩) (rest.length + 1) cap] 24)) w' → (w'.cell? ⟨w.heap.size, 2, none⟩ = some (.slice (some ⟨b, off, none⟩) (rest.length + 1) cap) ∧ w'.cell? ⟨b, off, none⟩ = some (.string x.kind) ∧ w'.cell? ⟨b, off + 1, none⟩ = some (.string x.text) ∧ w'.cell? ⟨b, off + 2, none⟩ = some (.slice x.addr x.kids.length x.cap))) := by
    intro w' h
    exact ⟨(h.cell (p := ⟨w.heap.size, 2, none⟩) (Nat.lt_succ_self _)).trans (World.cell?_alloc_at _ _ _ _ rfl), ((h.cell (p := ⟨b, off , none⟩) (by show b < _; omega)).trans (World.cell?_alloc_lt _ _ _ hbs)).trans c00, ((h.cell (p := ⟨b, off + 1, none⟩) (by show b < _; omega)).trans (World.cell?_alloc_lt _ _ _ hbs)).trans c01, ((h.cell (p := ⟨b, off + 2, none⟩) (by show b < _; omega)).trans (World.cell?_alloc_lt _ _ _ hbs)).trans c02⟩
  have HW : Hid (Below w.heap.size w (w.alloc (.cells #[.string ⟨#[99, 97, 108, 108]⟩, .string ⟨#[]⟩, .slice (some ⟨b, off, none⟩) (rest.length + 1) cap] 24))) := (Below.refl _ _).alloc (Nat.le_refl _) _
  have hw0 : Below (w.heap.size + 1) (w.alloc (.cells #[.string ⟨#[99, 97, 108, 108]⟩, .string ⟨#[]⟩, .slice (some ⟨b, off, none⟩) (rest.length + 1) cap] 24)) (World.drew (w.alloc (.cells #[.string ⟨#[99, 97, 108, 108]⟩, .string ⟨#[]⟩, .slice (some ⟨b, off, none⟩) (rest.length + 1) cap] 24))) := (Below.refl _ _).drew
  have HZ : Hid (w.heap.size + 1 = (World.heap (w.alloc (.cells #[.string ⟨#[99, 97, 108, 108]⟩, .string ⟨#[]⟩, .slice (some ⟨b, off, none⟩) (rest.length + 1) cap] 24))).size) := (World.size_alloc _ _).symm
  go_enter Tryz.func35, Tryz.ntmps35
  go_wp2_with fail
  have q1 : (1 : Int) ≤ (rest.length : Int) + 1 := by omega
  have q3 : 1 ≤ rest.length + 1 := by omega
  have q4 : ¬ cap = 1 := by omega
  have q5 : 0 < rest.length + 1 := by omega
  go_region_held3 (fun w' => w'.cell? ⟨w.heap.size, 2, none⟩ = some (.slice (some ⟨b, off, none⟩) (rest.length + 1) cap) ∧ w'.cell? ⟨b, off, none⟩ = some (.string x.kind) ∧ w'.cell? ⟨b, off + 1, none⟩ = some (.string x.text) ∧ w'.cell? ⟨b, off + 2, none⟩ = some (.slice x.addr x.kids.length x.cap)) (first | (exact SOF.out _ hw0) | (exact SOF.out _ hw1) | (exact SOF.out _ hw2) | (exact SOF.out _ (hw0.alloc (Nat.le_trans (Nat.le_of_eq HZ.out) hw0.size) _)) | (exact SOF.out _ (hw1.alloc (Nat.le_trans (Nat.le_of_eq HZ.out) hw1.size) _)) | go_keep)
    (first
      | (go_at_call_of 35 (ANode.kind x); refine (ih x _ L hs0 (hin0.below (B := w.heap.size) (HW.out.trans (hw0.mono (Nat.le_add_right _ _))) hL) (Nat.le_trans hL (HW.out.trans (hw0.mono (Nat.le_add_right _ _))).size) (hG.below (B := w.heap.size) (HW.out.trans (hw0.mono (Nat.le_add_right _ _))) (Nat.le_refl _)) hv0).mono ?_; rintro e w1 ⟨y0, he, hyin0, hyn0, hynew0, hb0⟩; obtain ⟨ty0, vy0, hy0⟩ := y0.val_one; rw [hy0] at he; subst he; have hw1 := hw0.trans (hb0.mono (Nat.le_trans (Nat.le_of_eq HZ.out) hw0.size)); have HY0 := Lib.hid (And.intro hy0 (And.intro hyin0 (And.intro hyn0 (And.intro hynew0 hb0)))); clear hyin0 hyn0 hynew0 hy0 hb0)
      | (go_at_call 50; refine (exprsOf_any k ih (some ⟨b, off + 3, none⟩) rest (cap - 1) L _ HSR.out (HR.out.below (B := w.heap.size) (HW.out.trans (hw1.mono (Nat.le_add_right _ _))) hL) hlen (Nat.le_trans hL (HW.out.trans (hw1.mono (Nat.le_add_right _ _))).size) (hG.below (B := w.heap.size) (HW.out.trans (hw1.mono (Nat.le_add_right _ _))) (Nat.le_refl _)) HVR.out).mono ?_; rintro e w2 ⟨g, gc, ys, rfl, hso⟩; have hw2 := hw1.trans (hso.below.mono (Nat.le_trans (Nat.le_of_eq HZ.out) hw1.size)); have HL := Lib.hid hso; clear hso))
  all_goals
    go_wp2_with fail
    go_ret
    obtain ⟨hy0, hyin0, hyn0, hynew, hb0⟩ := HY0.out
    have hso := HL.out
    have hs1 := hw1.size
    have hs2 := hso.below.size
    rw [World.size_alloc] at hs1
    have hynew : Fresh (w.heap.size + 1) y0.blocks := by
      have := hynew
      rwa [AE.New, World.size_drew, World.size_alloc] at this
    have hin2 := hyin0.below hso.below (Nat.le_refl _)
    have hgl := hso.row.lt
    refine ⟨.call w2.heap.size y0 g gc ys, rfl, ⟨?_, ?_, ?_, ?_⟩, ?_, ?_, ?_⟩
    · rw [hy0]; exact Blk.new _ _ _
    · exact hin2.below ((Below.refl _ _).alloc (Nat.le_refl _) _) (Nat.le_refl _)
    · exact ⟨hso.row.below ((Below.refl _ _).alloc (Nat.le_refl _) _) hgl, by have := congrArg List.length hso.node; simp only [nodeL_eq, eraseL_eq, List.length_map] at this; first | omega | (simp only [List.length_nil] at this; omega)⟩
    · exact hso.inn.below ((Below.refl _ _).alloc (Nat.le_refl _) _) (Nat.le_refl _)
    · rw [AE.node, hyn0, hso.node]
    · have hlo := hso.lo
      refine Fresh.cons (Fresh.cons (Fresh.append (hynew.mono (by omega)) (hso.new.mono (by omega)) (fun c hc hc2 => ?_)) (by omega) (fun hm => ?_)) (by omega) (fun hm => ?_)
      · have := AE.In.lt y0 hyin0 c hc
        have := hso.new.1 c hc2
        omega
      · rcases List.mem_append.1 hm with hc | hc
        · have := AE.In.lt y0 hyin0 _ hc; omega
        · exact hso.out hc
      · rcases List.mem_cons.1 hm with hc | hm
        · omega
        · rcases List.mem_append.1 hm with hc | hc
          · have := AE.In.lt y0 hin2 _ hc; omega
          · have := AEInL.lt ys hso.inn _ hc; omega
    · exact (HW.out.trans (hw2.mono (Nat.le_add_right _ _))).alloc (by omega) _

theorem exprOf_call0 (k : Nat) (ih : ExprUpTo k) (x : ANode) (A : Option Addr) (w : World) (L : Nat) (hL : L ≤ w.heap.size) (hG : Glob w) (hA0 : KidAt w L A 0 x) (hin0 : x.In w L) (hs0 : SizeOf.sizeOf x < k) (hv0 : V x.erase) :
    Calls Tryz.prog 35 #[.agg #[.string ⟨#[99, 97, 108, 108]⟩, .string ⟨#[]⟩, .slice A 1 1]] w (MadeE (.mk sCall sEmpty (x.erase :: eraseL [])) w) := by
  have hGL := hG.2
  obtain ⟨b, off, rfl, hbL, c00, c01, c02⟩ := hA0
  simp only [Nat.zero_mul, Nat.add_zero] at c00 c01 c02
  have hbs : b < w.heap.size := by omega
  have SOF : Hid (∀ w', Below (w.heap.size + 1) (w.alloc (.cells #[.string ⟨#[99, 97, 108, 108]⟩, .string ⟨#[]⟩, .slice (some ⟨b, off, none⟩) 1 1] 24)) w' → (w'.cell? ⟨w.heap.size, 2, none⟩ = some (.slice (some ⟨b, off, none⟩) 1 1) ∧ w'.cell? ⟨b, off, none⟩ = some (.string x.kind) ∧ w'.cell? ⟨b, off + 1, none⟩ = some (.string x.text) ∧ w'.cell? ⟨b, off + 2, none⟩ = some (.slice x.addr x.kids.length x.cap))) := by
    intro w' h
    exact ⟨(h.cell (p := ⟨w.heap.size, 2, none⟩) (Nat.lt_succ_self _)).trans (World.cell?_alloc_at _ _ _ _ rfl), ((h.cell (p := ⟨b, off , none⟩) (by show b < _; omega)).trans (World.cell?_alloc_lt _ _ _ hbs)).trans c00, ((h.cell (p := ⟨b, off + 1, none⟩) (by show b < _; omega)).trans (World.cell?_alloc_lt _ _ _ hbs)).trans c01, ((h.cell (p := ⟨b, off + 2, none⟩) (by show b < _; omega)).trans (World.cell?_alloc_lt _ _ _ hbs)).trans c02⟩
  have HW : Hid (Below w.heap.size w (w.alloc (.cells #[.string ⟨#[99, 97, 108, 108]⟩, .string ⟨#[]⟩, .slice (some ⟨b, off, none⟩) 1 1] 24))) := (Below.refl _ _).alloc (Nat.le_refl _) _
  have hw0 : Below (w.heap.size + 1) (w.alloc (.cells #[.string ⟨#[99, 97, 108, 108]⟩, .string ⟨#[]⟩, .slice (some ⟨b, off, none⟩) 1 1] 24)) (World.drew (w.alloc (.cells #[.string ⟨#[99, 97, 108, 108]⟩, .string ⟨#[]⟩, .slice (some ⟨b, off, none⟩) 1 1] 24))) := (Below.refl _ _).drew
  have HZ : Hid (w.heap.size + 1 = (World.heap (w.alloc (.cells #[.string ⟨#[99, 97, 108, 108]⟩, .string ⟨#[]⟩, .slice (some ⟨b, off, none⟩) 1 1] 24))).size) := (World.size_alloc _ _).symm
  go_enter Tryz.func35, Tryz.ntmps35
  go_wp2_with fail
  go_region_held3 (fun w' => w'.cell? ⟨w.heap.size, 2, none⟩ = some (.slice (some ⟨b, off, none⟩) 1 1) ∧ w'.cell? ⟨b, off, none⟩ = some (.string x.kind) ∧ w'.cell? ⟨b, off + 1, none⟩ = some (.string x.text) ∧ w'.cell? ⟨b, off + 2, none⟩ = some (.slice x.addr x.kids.length x.cap)) (first | (exact SOF.out _ hw0) | (exact SOF.out _ hw1) | (exact SOF.out _ hw2) | (exact SOF.out _ (hw0.alloc (Nat.le_trans (Nat.le_of_eq HZ.out) hw0.size) _)) | (exact SOF.out _ (hw1.alloc (Nat.le_trans (Nat.le_of_eq HZ.out) hw1.size) _)) | go_keep)
    (first
      | (go_at_call_of 35 (ANode.kind x); refine (ih x _ L hs0 (hin0.below (B := w.heap.size) (HW.out.trans (hw0.mono (Nat.le_add_right _ _))) hL) (Nat.le_trans hL (HW.out.trans (hw0.mono (Nat.le_add_right _ _))).size) (hG.below (B := w.heap.size) (HW.out.trans (hw0.mono (Nat.le_add_right _ _))) (Nat.le_refl _)) hv0).mono ?_; rintro e w1 ⟨y0, he, hyin0, hyn0, hynew0, hb0⟩; obtain ⟨ty0, vy0, hy0⟩ := y0.val_one; rw [hy0] at he; subst he; have hw1 := hw0.trans (hb0.mono (Nat.le_trans (Nat.le_of_eq HZ.out) hw0.size)); have HY0 := Lib.hid (And.intro hy0 (And.intro hyin0 (And.intro hyn0 (And.intro hynew0 hb0)))); clear hyin0 hyn0 hynew0 hy0 hb0)
      | (go_at_call 50; refine (exprsOf_any k ih (some ⟨b, off, none⟩) [] 0 L _ (by simp) trivial (by simp) (Nat.le_trans hL (HW.out.trans (hw1.mono (Nat.le_add_right _ _))).size) (hG.below (B := w.heap.size) (HW.out.trans (hw1.mono (Nat.le_add_right _ _))) (Nat.le_refl _)) trivial).mono ?_; rintro e w2 ⟨g, gc, ys, rfl, hso⟩; have hw2 := hw1.trans (hso.below.mono (Nat.le_trans (Nat.le_of_eq HZ.out) hw1.size)); have HL := Lib.hid hso; clear hso))
  all_goals
    go_wp2_with fail
    go_ret
    obtain ⟨hy0, hyin0, hyn0, hynew, hb0⟩ := HY0.out
    have hso := HL.out
    have hs1 := hw1.size
    have hs2 := hso.below.size
    rw [World.size_alloc] at hs1
    have hynew : Fresh (w.heap.size + 1) y0.blocks := by
      have := hynew
      rwa [AE.New, World.size_drew, World.size_alloc] at this
    have hin2 := hyin0.below hso.below (Nat.le_refl _)
    have hgl := hso.row.lt
    refine ⟨.call w2.heap.size y0 g gc ys, rfl, ⟨?_, ?_, ?_, ?_⟩, ?_, ?_, ?_⟩
    · rw [hy0]; exact Blk.new _ _ _
    · exact hin2.below ((Below.refl _ _).alloc (Nat.le_refl _) _) (Nat.le_refl _)
    · exact ⟨hso.row.below ((Below.refl _ _).alloc (Nat.le_refl _) _) hgl, by have := congrArg List.length hso.node; simp only [nodeL_eq, eraseL_eq, List.length_map] at this; first | omega | (simp only [List.length_nil] at this; omega)⟩
    · exact hso.inn.below ((Below.refl _ _).alloc (Nat.le_refl _) _) (Nat.le_refl _)
    · rw [AE.node, hyn0, hso.node]
    · have hlo := hso.lo
      refine Fresh.cons (Fresh.cons (Fresh.append (hynew.mono (by omega)) (hso.new.mono (by omega)) (fun c hc hc2 => ?_)) (by omega) (fun hm => ?_)) (by omega) (fun hm => ?_)
      · have := AE.In.lt y0 hyin0 c hc
        have := hso.new.1 c hc2
        omega
      · rcases List.mem_append.1 hm with hc | hc
        · have := AE.In.lt y0 hyin0 _ hc; omega
        · exact hso.out hc
      · rcases List.mem_cons.1 hm with hc | hm
        · omega
        · rcases List.mem_append.1 hm with hc | hc
          · have := AE.In.lt y0 hin2 _ hc; omega
          · have := AEInL.lt ys hso.inn _ hc; omega
    · exact (HW.out.trans (hw2.mono (Nat.le_add_right _ _))).alloc (by omega) _
end Go.Proofs.YtgimbgpebpippaaGreatDoor
