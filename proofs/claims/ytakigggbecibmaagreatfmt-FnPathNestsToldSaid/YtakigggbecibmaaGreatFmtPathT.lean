/- PathEnclosingInterval of the tree: the path, from the least node up. -/
import Derived.Test.YtakigggbecibmaaGreatFmtPathS
import Derived.Test.YtakigggbecibmaaGreatFmtPathPl
import Derived.Deep.RegionHeld3
import Derived.Laws.EntriesVeiled
import Derived.BigRegion
namespace Go.Proofs.YtakigggbecibmaaGreatFmt
open Go.RowKit
set_option maxRecDepth 100000
set_option maxHeartbeats 8000000

section
/-- The world when the captured variables are made. -/
def pathW (w : World) (a b : Int) : World := (((w.alloc (.cells #[.int .i64 a] 50)).alloc (.cells #[.int .i64 b] 50)).alloc (.cells #[.slice none 0 0] 45)).alloc (.cells #[visFn (w.heap.size + 1 + 1) w.heap.size (w.heap.size + 1) (w.heap.size + 1 + 1 + 1)] 57)
theorem PathSt.start (w : World) (a b : Int) : PathSt (pathW w a b) w.heap.size (w.heap.size + 1 + 1) w.heap.size (w.heap.size + 1) (w.heap.size + 1 + 1 + 1) a b (.slice none 0 0) [] where
  pbox := by
    have := (Blk.new ((w.alloc (.cells #[.int .i64 a] 50)).alloc (.cells #[.int .i64 b] 50)) 45 #[.slice none 0 0]).alloc (.cells #[visFn (w.heap.size + 1 + 1) w.heap.size (w.heap.size + 1) (w.heap.size + 1 + 1 + 1)] 57)
    rwa [World.size_alloc, World.size_alloc] at this
  sbox := (((Blk.new w _ _).alloc _).alloc _).alloc _
  ebox := by
    have := ((Blk.new (w.alloc (.cells #[.int .i64 a] 50)) 50 #[.int .i64 b]).alloc (.cells #[.slice none 0 0] 45)).alloc (.cells #[visFn (w.heap.size + 1 + 1) w.heap.size (w.heap.size + 1) (w.heap.size + 1 + 1 + 1)] 57)
    rwa [World.size_alloc] at this
  vbox := by
    have := Blk.new (((w.alloc (.cells #[.int .i64 a] 50)).alloc (.cells #[.int .i64 b] 50)).alloc (.cells #[.slice none 0 0] 45)) 57 #[visFn (w.heap.size + 1 + 1) w.heap.size (w.heap.size + 1) (w.heap.size + 1 + 1 + 1)]
    rwa [World.size_alloc, World.size_alloc, World.size_alloc] at this
  lst := .inl ⟨rfl, rfl⟩
  far := ⟨by simp [Value.ownBlock], by simp [Value.ownBlock], by simp [Value.ownBlock], by simp [Value.ownBlock]⟩
  lo := ⟨by omega, by omega, by omega, by omega⟩
  ne := ⟨by omega, by omega, by omega, by omega, by omega, by omega⟩
theorem pathW_below (w : World) (a b : Int) : Below w.heap.size w (pathW w a b) := by
  unfold pathW
  go_grown
variable {ts : List Tm} {n : Nat} {ad : Ad} {w : World}
variable (h : ∀ t ∈ ts, TmOk t) (hn : n < ts.length) (hl : ts.length ≤ 20) (hT : TreeIn w ts n ad) (h12 : Tok w 12 ⟨#[43]⟩) (h85 : Tok w 85 ⟨#[118, 97, 114]⟩)
include h hn hl hT h12 h85
omit h12 h85 in
theorem file_direct : (∀ w', Below w.heap.size w w' → Calls Tryz.prog 28 #[ptr ad.bF] w' (Num (tE ts n + 1) w')) ∧ ∀ w', Below w.heap.size w w' → Calls Tryz.prog 29 #[ptr ad.bF] w' (Num (0 + 1) w') := by
  have hf := pn_ok h hn hl hT (x := .file) trivial
  obtain ⟨f, r, ⟨m1, _⟩, k1⟩ := hf.end_
  obtain ⟨g, q, ⟨m2, _⟩, k2⟩ := hf.pos
  have e1 := (m1 w).symm.trans (show _ = Result.ok (28, ptr ad.bF) w by kernel_rfl)
  have e2 := (m2 w).symm.trans (show _ = Result.ok (29, ptr ad.bF) w by kernel_rfl)
  injection e1 with e1
  injection e2 with e2
  injection e1 with e3 e4
  injection e2 with e5 e6
  subst e3 e4 e5 e6
  exact ⟨k1, k2⟩
/-! the path turned round, in place -/
def RevAt (N j : Nat) (xs ys : List Value) : Prop := ys.length = N ∧ ∀ p, p < N → ys[p]? = if p < j ∨ N - 1 - p < j then xs[N - 1 - p]? else xs[p]?
omit h hn hl hT h12 h85 in
theorem RevAt.start (xs : List Value) : RevAt xs.length 0 xs xs := ⟨rfl, fun p hp => by rw [if_neg (by omega)]⟩
omit h hn hl hT h12 h85 in
theorem RevAt.next {N j k : Nat} {xs ys : List Value} {a b : Value} (h : RevAt N j xs ys) (hjk : j + k + 1 = N) (hlt : j < k) (ha : ys[j]? = some a) (hb : ys[k]? = some b) : RevAt N (j + 1) xs ((ys.set j b).set k a) := by
  obtain ⟨hl, hp⟩ := h
  have h1 := hp j (by omega)
  have h2 := hp k (by omega)
  rw [if_neg (by omega)] at h1 h2
  refine ⟨by simpa using hl, fun p hpN => ?_⟩
  by_cases e1 : p = k
  · subst e1
    rw [List.getElem?_set_self (by rw [List.length_set]; omega), if_pos (by omega), show N - 1 - p = j by omega, ← h1, ha]
  · rw [List.getElem?_set_ne (fun e => e1 e.symm)]
    by_cases e2 : p = j
    · subst e2
      rw [List.getElem?_set_self (by omega), if_pos (by omega), show N - 1 - p = k by omega, ← h2, hb]
    · rw [List.getElem?_set_ne (fun e => e2 e.symm), hp p hpN]
      by_cases c : p < j ∨ N - 1 - p < j
      · rw [if_pos c, if_pos (by omega)]
      · rw [if_neg c, if_neg (by omega)]
omit h hn hl hT h12 h85 in
theorem RevAt.done {N j : Nat} {xs ys : List Value} (h : RevAt N j xs ys) (hx : xs.length = N) (hj : N / 2 ≤ j) : ys = xs.reverse := by
  obtain ⟨hl, hp⟩ := h
  refine List.ext_getElem? fun p => ?_
  by_cases hpN : p < N
  · rw [hp p hpN, List.getElem?_reverse (by omega), hx]
    by_cases c : p < j ∨ N - 1 - p < j
    · rw [if_pos c]
    · rw [if_neg c, show N - 1 - p = p by omega]
  · rw [List.getElem?_eq_none (by omega), List.getElem?_eq_none (by rw [List.length_reverse]; omega)]
omit h hn hl hT h12 h85 in
theorem Row.set2 {g n cap j k : Nat} {t : TypeId} {ys : List Value} (h : Row w g t 1 n ys cap) (u v : Value) : Row ((w.setCell ⟨g, j, none⟩ u).setCell ⟨g, k, none⟩ v) g t 1 n ((ys.set j u).set k v) cap := by
  obtain ⟨hl1, hl2, hl3, cur, hbk, hsz, htk⟩ := h
  refine ⟨by simpa using hl1, hl2, hl3, _, (hbk.set_ j u).set_ k v, by simpa using hsz, ?_⟩
  simp only [Array.toList_setIfInBounds, List.take_set, htk]
omit h hn hl hT h12 h85 in
theorem Row.frozen {g n cap j : Nat} {t : TypeId} {ys : List Value} (h : Row w g t 1 n ys cap) : w.frozen? ⟨g, j, none⟩ = false := by
  obtain ⟨hl1, hl2, hl3, cur, hbk, hsz, htk⟩ := h
  exact hbk.frozen j
omit h12 h85 in
theorem enclosing_out (a b : Int) (c1 : ¬ a < tE ts n) (hab : a ≤ b) :
    Calls Tryz.prog 20 #[ptr ad.bF, .int .i64 (a + 1), .int .i64 (b + 1)] w fun e w' =>
      ∃ g cap, e = .returned (.tuple #[.slice (some ⟨g, 0, none⟩) (pathOf ts n a b).1.length cap, .bool (pathOf ts n a b).2]) ∧ Row w' g 52 1 (pathOf ts n a b).1.length ((pathOf ts n a b).1.map (PN.val ad)) cap ∧ w.heap.size ≤ g ∧ Below w.heap.size w w' := by
  have HD := Lib.hid (file_direct h hn hl hT)
  clear hT
  go_enter Tryz.func20, Tryz.ntmps20
  go_wp2_with fail
  change Code.wp _ _ _ _ (pathW w (a + 1) (b + 1))
  have HS := Lib.hid (And.intro (PathSt.start w (a + 1) (b + 1)) (pathW_below w (a + 1) (b + 1)))
  generalize pathW w (a + 1) (b + 1) = w3 at HS ⊢
  have cs : w3.cell? ⟨w.heap.size, 0, none⟩ = some (.int .i64 (a + 1)) := HS.out.1.sbox.cell 0
  have ce : w3.cell? ⟨w.heap.size + 1, 0, none⟩ = some (.int .i64 (b + 1)) := HS.out.1.ebox.cell 0
  have z1 := HS.out.1.sbox.lt
  have z2 := HS.out.1.ebox.lt
  have SOF : Hid (∀ w', Below w3.heap.size w3 w' → w'.cell? ⟨w.heap.size, 0, none⟩ = some (.int .i64 (a + 1)) ∧ w'.cell? ⟨w.heap.size + 1, 0, none⟩ = some (.int .i64 (b + 1))) := fun w' hw => ⟨(hw.cell (p := ⟨w.heap.size, 0, none⟩) z1).trans cs, (hw.cell (p := ⟨w.heap.size + 1, 0, none⟩) z2).trans ce⟩
  have HB : Hid (∀ w', Below w3.heap.size w3 w' → Below w.heap.size w w') := fun w' hw => HS.out.2.trans (hw.mono HS.out.2.size)
  have hd : decide (a < tE ts n) = false := by simpa using c1
  refine wp_region_held_drew (S := fun w' => w'.cell? ⟨w.heap.size, 0, none⟩ = some (.int .i64 (a + 1))) (by kernel_rfl) ?_ (fun hHeld => ?_)
  · go_keep
  refine wpAnyH_take (i := 0) (v := .int .i64 (a + 1)) rfl (by kernel_rfl) (by kernel_rfl) (by kernel_rfl) (fun _ _ _ h => h) (Or.inl ⟨by rfl, ?_⟩) (by assumption) ?_
  · intro w' hSw
    go_simp
  (try simp only [Act.put, List.setIfInBounds_toArray])
  refine wpAnyH_ready (rs := [1]) (by kernel_rfl) (by simp) ?_
  refine AllReadyH.cons rfl (fun K hK => ?_) AllReadyH.nil
  go_simp
  refine hK.out _ _ (by go_keep) (fun hHeld => ?_)
  clear hK K
  (try simp only [Act.put, List.setIfInBounds_toArray, List.set_cons_zero, List.set_cons_succ])
  refine wpAnyH_ready (rs := [2]) (by kernel_rfl) (by simp) ?_
  refine AllReadyH.cons rfl (fun K hK => ?_) AllReadyH.nil
  go_simp
  refine (HD.out.1 _ (HB.out _ (by go_grown))).mono ?_
  rintro e w4 ⟨rfl, hb4⟩
  have hbn : Below w3.heap.size w3 w4 := below_then (by go_grown) hb4
  have hS4 := (SOF.out _ hbn).1
  clear hb4
  go_wp2_with fail
  refine hK.out _ _ hS4 (fun hHeld => ?_)
  clear hK K
  (try simp only [Act.put, List.setIfInBounds_toArray, List.set_cons_zero, List.set_cons_succ])
  refine wpAnyH_ready (rs := [3]) (by kernel_rfl) (by simp) ?_
  refine AllReadyH.cons rfl (fun K hK => ?_) AllReadyH.nil
  go_simp
  refine hK.out _ _ hHeld (fun hHeld => ?_)
  clear hK K
  (try simp only [Act.put, List.setIfInBounds_toArray, List.set_cons_zero, List.set_cons_succ])
  refine wpAnyH_ready (rs := [4]) (by kernel_rfl) (by simp) ?_
  refine AllReadyH.cons rfl (fun K hK => ?_) AllReadyH.nil
  go_simp
  refine hK.out _ _ hHeld (fun hHeld => ?_)
  clear hK K
  (try simp only [Act.put, List.setIfInBounds_toArray, List.set_cons_zero, List.set_cons_succ])
  refine wpAnyH_take (i := 5) (v := undef) rfl (by kernel_rfl) (by kernel_rfl) (by kernel_rfl) (fun _ _ _ h => h) (Or.inr ⟨by rfl, rfl⟩) (by assumption) ?_
  (try simp only [Act.put, List.setIfInBounds_toArray])
  refine wpAnyH_take (i := 6) (v := undef) rfl (by kernel_rfl) (by kernel_rfl) (by kernel_rfl) (fun _ _ _ h => h) (Or.inr ⟨by rfl, rfl⟩) (by assumption) ?_
  (try simp only [Act.put])
  refine wpAnyH_take (i := 7) (v := undef) rfl (by kernel_rfl) (by kernel_rfl) (by kernel_rfl) (fun _ _ _ h => h) (Or.inr ⟨by rfl, rfl⟩) (by assumption) ?_
  (try simp only [Act.put])
  refine wpAnyH_take (i := 8) (v := undef) rfl (by kernel_rfl) (by kernel_rfl) (by kernel_rfl) (fun _ _ _ h => h) (Or.inr ⟨by rfl, rfl⟩) (by assumption) ?_
  (try simp only [Act.put])
  refine wpAnyH_ready (rs := [9]) (by kernel_rfl) (by simp) ?_
  refine AllReadyH.cons rfl (fun K hK => ?_) AllReadyH.nil
  go_simp
  refine hK.out _ _ hHeld (fun hHeld => ?_)
  clear hK K
  (try simp only [Act.put, List.setIfInBounds_toArray, List.set_cons_zero, List.set_cons_succ])
  refine wpAnyH_done (by kernel_rfl) ?_ _
  have HS5 := Lib.hid (And.intro (HS.out.1.below hbn) (HB.out _ hbn))
  clear hS4 hHeld
  obtain ⟨i0, hi0, hz0, hz1, hz2⟩ := info_parts Tryz.infoNode
  have HI := Lib.hid (And.intro hi0 (And.intro hz0 (And.intro hz1 hz2)))
  clear hi0 hz0 hz1 hz2
  have cp5 : w4.cell? ⟨w.heap.size + 1 + 1, 0, none⟩ = some (.slice none 0 0) := HS5.out.1.pbox.cell 0
  have hpath := Lib.hid (show pathOf ts n a b = ([.file], false) by unfold pathOf; rw [if_neg (by omega)])
  have hBw : w.heap.size ≤ w4.heap.size := HS5.out.2.size
  go_wp2_with (at_builtin; refine wpList_append_lst _ rfl (.tmp 64) (.tmp 67) 45 rfl 52 i0 .nilIface 16 Tryz.underlying45 HI.out.1 HI.out.2.1 HI.out.2.2.1 HI.out.2.2.2 rfl w.heap.size (.slice none 0 0) [] rfl ?c1 ⟨w4.heap.size, 0, none⟩ 1 1 [.iface 48 (ptr ad.bF)] rfl rfl (by decide) ?c3 ?c4 ?c5 ?c6 ?_)
  case c1 => exact .inl ⟨rfl, rfl⟩
  case c3 => exact cell_one_new _ _ _
  case c4 => intro u hu; cases List.mem_singleton.1 hu; rfl
  case c5 => unfold maxLen; simp
  case c6 => simp
  intro g' cap' w7 hrow hg hg'
  obtain ⟨d0, d1, hst7, hb7⟩ := HS5.out.1.app (u := .iface 48 (ptr ad.bF)) hBw (w2 := w4.alloc (.cells #[.iface 48 (ptr ad.bF)] 52)) (by go_grown) hrow hg (by rw [World.size_alloc]; exact hg')
  have HS7 := Lib.hid (And.intro hst7 (HS5.out.2.trans (hb7.mono (Nat.le_refl _))))
  clear hst7 hb7 hrow hg hg'
  go_wp2_with fail
  have cp7 := HS7.out.1.pbox.cell 0
  refine bodyPost_ret (v := .tuple #[.slice (some ⟨g', 0, none⟩) 1 cap', .bool false]) (by
    have cp8 : (w7.setCell ⟨w.heap.size + 1 + 1, 0, none⟩ (.slice (some ⟨g', 0, none⟩) 1 cap')).cell? ⟨w.heap.size + 1 + 1, 0, none⟩ = some (.slice (some ⟨g', 0, none⟩) 1 cap') := cp7
    simp only [results, Tryz.results20]
    simp [go_sem, cp8]) rfl ?_
  rcases HS7.out.1.lst with ⟨hv, _⟩ | ⟨g2, cap2, hv, hr, hlo⟩
  · cases hv
  injection hv with v1 v2 v3
  injection v1 with v1
  injection v1 with v1
  subst v1 v3
  rw [hpath.out]
  exact ⟨_, _, rfl, hr, hlo, HS7.out.2⟩
theorem enclosing_any (a b : Int) (hab : a ≤ b) (ha : -100000 ≤ a) (hb : b ≤ 100000) :
    Calls Tryz.prog 20 #[ptr ad.bF, .int .i64 (a + 1), .int .i64 (b + 1)] w fun e w' =>
      ∃ g cap, e = .returned (.tuple #[.slice (some ⟨g, 0, none⟩) (pathOf ts n a b).1.length cap, .bool (pathOf ts n a b).2]) ∧ Row w' g 52 1 (pathOf ts n a b).1.length ((pathOf ts n a b).1.map (PN.val ad)) cap ∧ w.heap.size ≤ g ∧ Below w.heap.size w w' := by
  by_cases c1' : ¬ a < tE ts n
  · exact enclosing_out h hn hl hT a b c1' hab
  have c1 : a < tE ts n := by omega
  clear c1'
  have hfile := pn_ok h hn hl hT (x := .file) trivial
  have H := Lib.hid (And.intro hfile (fun bp bs be bv (a b : Int) => visit_any bp bs be bv h hn hl hT h12 h85 (vis_file h (a := a) (b := b) hn) trivial))
  have HD := Lib.hid (file_direct h hn hl hT)
  have HN := Lib.hid (And.intro hn hl)
  clear hfile hT h12 h85
  go_enter Tryz.func20, Tryz.ntmps20
  go_wp2_with fail
  change Code.wp _ _ _ _ (pathW w (a + 1) (b + 1))
  have HS := Lib.hid (And.intro (PathSt.start w (a + 1) (b + 1)) (pathW_below w (a + 1) (b + 1)))
  generalize pathW w (a + 1) (b + 1) = w3 at HS ⊢
  have cs : w3.cell? ⟨w.heap.size, 0, none⟩ = some (.int .i64 (a + 1)) := HS.out.1.sbox.cell 0
  have ce : w3.cell? ⟨w.heap.size + 1, 0, none⟩ = some (.int .i64 (b + 1)) := HS.out.1.ebox.cell 0
  have z1 := HS.out.1.sbox.lt
  have z2 := HS.out.1.ebox.lt
  have SOF : Hid (∀ w', Below w3.heap.size w3 w' → w'.cell? ⟨w.heap.size, 0, none⟩ = some (.int .i64 (a + 1)) ∧ w'.cell? ⟨w.heap.size + 1, 0, none⟩ = some (.int .i64 (b + 1))) := fun w' hw => ⟨(hw.cell (p := ⟨w.heap.size, 0, none⟩) z1).trans cs, (hw.cell (p := ⟨w.heap.size + 1, 0, none⟩) z2).trans ce⟩
  have HB : Hid (∀ w', Below w3.heap.size w3 w' → Below w.heap.size w w') := fun w' hw => HS.out.2.trans (hw.mono HS.out.2.size)
  · by_cases c2 : 0 < b
    · go_region_held3 (fun w' => w'.cell? ⟨w.heap.size, 0, none⟩ = some (.int .i64 (a + 1)) ∧ w'.cell? ⟨w.heap.size + 1, 0, none⟩ = some (.int .i64 (b + 1))) (first | (exact SOF.out _ (by go_grown)) | go_keep)
        (first
          | (go_at_call 28; refine (HD.out.1 _ (HB.out _ (by go_grown))).mono ?_; rintro e w4 ⟨rfl, hb4⟩; have hbn : Below w3.heap.size w3 w4 := below_then (by go_grown) hb4; have hS := SOF.out _ hbn; clear hb4)
          | (go_at_call 29; refine (HD.out.2 _ (HB.out _ (by go_grown))).mono ?_; rintro e w5 ⟨rfl, hb5⟩; have hbn5 : Below w3.heap.size w3 w5 := below_then (by go_grown) hb5; have hS5 := SOF.out _ hbn5; clear hb5))
      have HS5 := Lib.hid (And.intro (HS.out.1.below hbn5) (HB.out _ hbn5))
      clear hS hS5
      have cs5 : w5.cell? ⟨w.heap.size, 0, none⟩ = some (.int .i64 (a + 1)) := HS5.out.1.sbox.cell 0
      have ce5 : w5.cell? ⟨w.heap.size + 1, 0, none⟩ = some (.int .i64 (b + 1)) := HS5.out.1.ebox.cell 0
      have fe5 : w5.frozen? ⟨w.heap.size + 1, 0, none⟩ = false := HS5.out.1.ebox.frozen 0
      obtain ⟨b', hb'⟩ : ∃ b', (if a = b then a + 1 else b) = b' := ⟨_, rfl⟩
      have hpath : pathOf ts n a b = ((visFile ts n a b').1.reverse, (visFile ts n a b').2) := by
        unfold pathOf
        rw [if_pos ⟨c1, c2⟩, hb']
      have hlen := visFile_len (ts := ts) (n := n) (by omega) a b'
      have HP := Lib.hid (And.intro hpath hlen)
      clear hpath hlen
      go_upto_if 29 with fail
      go_cut [] from 11 (fun wx => Hid (PathSt wx w.heap.size (w.heap.size + 1 + 1) w.heap.size (w.heap.size + 1) (w.heap.size + 1 + 1 + 1) (a + 1) (b' + 1) (.slice none 0 0) [] ∧ Below w.heap.size w wx))
      case first =>
        by_cases e : a = b
        · have e' := Lib.hid (show a + 1 = b' by rw [← hb', if_pos e])
          clear hb'
          subst e
          go_wp2_with fail
          go_meet
          rw [← e'.out]
          exact ⟨HS5.out.1.setE _, HS5.out.2.setCell (by exact HS5.out.1.lo.2.2.1) _⟩
        · have e' := Lib.hid (show b = b' by rw [← hb', if_neg e])
          clear hb'
          go_wp2_with fail
          go_meet
          rw [← e'.out]
          exact HS5.out
      case rest =>
        have HC := Lib.hid hcut.out
        have cv : wc.cell? ⟨w.heap.size + 1 + 1 + 1, 0, none⟩ = some (visFn (w.heap.size + 1 + 1) w.heap.size (w.heap.size + 1) (w.heap.size + 1 + 1 + 1)) := HC.out.1.vbox.cell 0
        clear hcut cs5 ce5 fe5 hb'
        go_wp2_with fail
        refine (H.out.2 (w.heap.size + 1 + 1) w.heap.size (w.heap.size + 1) (w.heap.size + 1 + 1 + 1) a b' wc _ [] HC.out.2 HC.out.1 (by have := HP.out.2; simp only [List.length_nil]; omega)).mono ?_
        rintro e w6 ⟨rfl, a6, b6, v6, hst6, hb6⟩
        obtain ⟨xs, hxs⟩ : ∃ xs, (visFile ts n a b').1.map (PN.val ad) = xs := ⟨_, rfl⟩
        obtain ⟨N, hN⟩ : ∃ N, xs.length = N := ⟨_, rfl⟩
        have hNl : (visFile ts n a b').1.length = N := by rw [← hN, ← hxs, List.length_map]
        have hNb : 0 < N ∧ N ≤ 100 := by rw [← hNl]; exact HP.out.2
        rw [hxs, List.nil_append] at hst6
        rcases hst6.lst with ⟨_, hno⟩ | ⟨g, cap, rfl, hrow, hgl⟩
        · rw [hno] at hN
          simp at hN
          omega
        rw [hN] at hst6 hrow
        obtain ⟨r, hr⟩ : ∃ r, (visFile ts n a b').2 = r := ⟨_, rfl⟩
        rw [hr]
        have cp6 : w6.cell? ⟨w.heap.size + 1 + 1, 0, none⟩ = some (.slice (some ⟨g, 0, none⟩) N cap) := hst6.pbox.cell 0
        have hgp : g ≠ w.heap.size + 1 + 1 := by
          have := hst6.far.1
          intro e
          exact this (by simp [Value.ownBlock, e])
        have HR := Lib.hid (And.intro hrow (And.intro hgl (And.intro hb6 (And.intro (And.intro hxs hN) (And.intro hNl hr)))))
        obtain ⟨n1, n2⟩ := hNb
        clear hst6 hrow hgl hb6 hxs hN hNl hr cv
        go_wp2_with fail
        go_quiet (fail)
        go_wp2_with fail
        go_loopw [9] (fun i wr => ∃ (j : Nat) (ys : List Value), i = .int .i64 j ∧ 2 * j ≤ N ∧ wr.cell? ⟨w.heap.size + 1 + 1, 0, none⟩ = some (.slice (some ⟨g, 0, none⟩) N cap) ∧ Hid (RevAt N j xs ys ∧ Row wr g 52 1 N ys cap ∧ Below w.heap.size w wr)) (fun i _ => N - (intOf i).toNat)
        case atStart =>
          refine ⟨0, xs, rfl, by omega, by simpa using cp6, ?_⟩
          have h0 := RevAt.start xs
          rw [HR.out.2.2.2.1.2] at h0
          exact ⟨h0, HR.out.1.same rfl, below_drewN HR.out.2.2.1 _⟩
        case round =>
          obtain ⟨j, ys, rfl, hj, cpw, HW⟩ := hrel
          clear cp6
          by_cases hlt : j < N / 2
          · obtain ⟨k, hk⟩ : ∃ k, j + k + 1 = N := ⟨N - 1 - j, by omega⟩
            have hjk : j < k := by omega
            have el : ∀ p, p < N → ∃ t u, xs[p]? = some (.iface t u) := fun p hp => by
              have e1 := HR.out.2.2.2.1.1
              have e2 := HR.out.2.2.2.1.2
              have hpl : p < xs.length := by omega
              rw [← e1] at hpl ⊢
              rw [List.length_map] at hpl
              exact ⟨_, _, by rw [List.getElem?_map, List.getElem?_eq_getElem hpl]; rfl⟩
            obtain ⟨tj, uj, hxj⟩ := el j (by omega)
            obtain ⟨tk, uk, hxk⟩ := el k (by omega)
            have yj : ys[j]? = some (.iface tj uj) := by rw [HW.out.1.2 j (by omega), if_neg (by omega), hxj]
            have yk : ys[k]? = some (.iface tk uk) := by rw [HW.out.1.2 k (by omega), if_neg (by omega), hxk]
            have cj := HW.out.2.1.cell yj
            have ck := HW.out.2.1.cell yk
            have fj := Row.frozen (j := j) HW.out.2.1
            have fk := Row.frozen (j := k) HW.out.2.1
            have HY := Lib.hid (And.intro yj (And.intro yk hk))
            have q1 : (0 : Int) ≤ (j : Int) := by omega
            have q2 : (j : Int) < (N : Int) := by omega
            have q3 : (0 : Int) ≤ (k : Int) := by omega
            have q4 : (k : Int) < (N : Int) := by omega
            have q5 : (N : Int) - 1 - (j : Int) = (k : Int) := by omega
            have q6 : (j : Int) < (N : Int) / 2 := by omega
            clear el hxj hxk yj yk hk
            go_wp2_with fail
            go_region
            go_wp2_with fail
            go_roundw
            case rel =>
              have hkN := HY.out.2.2
              refine ⟨j + 1, _, by go_num, by omega, ?_, HW.out.1.next hkN hjk HY.out.1 HY.out.2.1, (HW.out.2.1.set2 _ _).same rfl, ?_⟩
              · exact (World.cell?_of_block ((Below.heap_setCell _ _ _ _ (by exact hgp.symm)).trans (Below.heap_setCell _ _ _ _ (by exact hgp.symm)))).trans cpw
              · exact ((HW.out.2.2.setCell (by exact HR.out.2.1) _).setCell (by exact HR.out.2.1) _).drew
            case measure => simp [intOf]; omega
          · have q6 : ¬ (j : Int) < (N : Int) / 2 := by omega
            go_wp2_with fail
            refine bodyPost_ret (v := .tuple #[.slice (some ⟨g, 0, none⟩) N cap, .bool r]) (by simp [results, Tryz.results20, go_sem, cpw]) rfl ?_
            have e1 := HP.out.1
            obtain ⟨hx, hN, hr⟩ := HR.out.2.2.2
            have ey := HW.out.1.done hx.2 (by omega)
            rw [e1]
            refine ⟨g, cap, ?_, ?_, HR.out.2.1, HW.out.2.2⟩
            · simp only [List.length_reverse]
              rw [hN, hr]
            · simp only [List.length_reverse, List.map_reverse]
              rw [hN, hx.1, ← ey]
              exact HW.out.2.1
    · go_region_held3 (fun w' => w'.cell? ⟨w.heap.size, 0, none⟩ = some (.int .i64 (a + 1)) ∧ w'.cell? ⟨w.heap.size + 1, 0, none⟩ = some (.int .i64 (b + 1))) (first | (exact SOF.out _ (by go_grown)) | go_keep)
        (first
          | (go_at_call 28; refine (HD.out.1 _ (HB.out _ (by go_grown))).mono ?_; rintro e w4 ⟨rfl, hb4⟩; have hbn : Below w3.heap.size w3 w4 := below_then (by go_grown) hb4; have hS := SOF.out _ hbn; clear hb4)
          | (go_at_call 29; refine (HD.out.2 _ (HB.out _ (by go_grown))).mono ?_; rintro e w5 ⟨rfl, hb5⟩; have hbn5 : Below w3.heap.size w3 w5 := below_then (by go_grown) hb5; have hS5 := SOF.out _ hbn5; clear hb5))
      have HS5 := Lib.hid (And.intro (HS.out.1.below hbn5) (HB.out _ hbn5))
      clear hS hS5
      obtain ⟨i0, hi0, hz0, hz1, hz2⟩ := info_parts Tryz.infoNode
      have HI := Lib.hid (And.intro hi0 (And.intro hz0 (And.intro hz1 hz2)))
      clear hi0 hz0 hz1 hz2
      have cp5 : w5.cell? ⟨w.heap.size + 1 + 1, 0, none⟩ = some (.slice none 0 0) := HS5.out.1.pbox.cell 0
      have hpath := Lib.hid (show pathOf ts n a b = ([.file], false) by unfold pathOf; rw [if_neg (by omega)])
      have hBw : w.heap.size ≤ w5.heap.size := HS5.out.2.size
      go_wp2_with (at_builtin; refine wpList_append_lst _ rfl (.tmp 64) (.tmp 67) 45 rfl 52 i0 .nilIface 16 Tryz.underlying45 HI.out.1 HI.out.2.1 HI.out.2.2.1 HI.out.2.2.2 rfl w.heap.size (.slice none 0 0) [] rfl ?c1 ⟨w5.heap.size, 0, none⟩ 1 1 [.iface 48 (ptr ad.bF)] rfl rfl (by decide) ?c3 ?c4 ?c5 ?c6 ?_)
      case c1 => exact .inl ⟨rfl, rfl⟩
      case c3 => exact cell_one_new _ _ _
      case c4 => intro u hu; cases List.mem_singleton.1 hu; rfl
      case c5 => unfold maxLen; simp
      case c6 => simp
      intro g' cap' w7 hrow hg hg'
      obtain ⟨d0, d1, hst7, hb7⟩ := HS5.out.1.app (u := .iface 48 (ptr ad.bF)) hBw (w2 := w5.alloc (.cells #[.iface 48 (ptr ad.bF)] 52)) (by go_grown) hrow hg (by rw [World.size_alloc]; exact hg')
      have HS7 := Lib.hid (And.intro hst7 (HS5.out.2.trans (hb7.mono (Nat.le_refl _))))
      clear hst7 hb7 hrow hg hg'
      go_wp2_with fail
      have cp7 := HS7.out.1.pbox.cell 0
      refine bodyPost_ret (v := .tuple #[.slice (some ⟨g', 0, none⟩) 1 cap', .bool false]) (by
        have cp8 : (w7.setCell ⟨w.heap.size + 1 + 1, 0, none⟩ (.slice (some ⟨g', 0, none⟩) 1 cap')).cell? ⟨w.heap.size + 1 + 1, 0, none⟩ = some (.slice (some ⟨g', 0, none⟩) 1 cap') := cp7
        simp only [results, Tryz.results20]
        simp [go_sem, cp8]) rfl ?_
      rcases HS7.out.1.lst with ⟨hv, _⟩ | ⟨g2, cap2, hv, hr, hlo⟩
      · cases hv
      injection hv with v1 v2 v3
      injection v1 with v1
      injection v1 with v1
      subst v1 v3
      rw [hpath.out]
      exact ⟨_, _, rfl, hr, hlo, HS7.out.2⟩
end
end Go.Proofs.YtakigggbecibmaaGreatFmt
