/- The insertion sort over a few nodes; sort.Sort. -/
import Derived.Test.YtakigggbecibmaaGreatFmtPathF
import Derived.Deep.LoopGhost
namespace Go.Proofs.YtakigggbecibmaaGreatFmt
open Go.RowKit
set_option maxRecDepth 100000
set_option maxHeartbeats 2000000

variable {wS : World}
abbrev byPosIf (g n cap : Nat) : Value := .iface 225 (.slice (some ⟨g, 0, none⟩) n cap)
theorem inner_step {m : Nat} {l : List It} (h : (l.getD (m + 1) it0).2 < (l.getD m it0).2) : inner (m + 1) l = inner m (swp l m) := by simp only [inner, if_pos h]
theorem inner_stop {m : Nat} {l : List It} (h : ¬ (l.getD (m + 1) it0).2 < (l.getD m it0).2) : inner (m + 1) l = l := by simp only [inner, if_neg h]
theorem outer_step {n i : Nat} {l : List It} (h : i < n) : outer (n - i) i l = outer (n - (i + 1)) (i + 1) (inner i l) := by
  rw [show n - i = (n - (i + 1)) + 1 by omega, outer]

theorem insertion_any (w0 w : World) (B g cap n : Nat) (l : List It) (h : SortSt w0 wS w B g cap l) (hn : l.length = n) (hl : n ≤ 100) (h1 : 1 ≤ n) :
    Calls Tryz.prog 54 #[byPosIf g n cap, .int .i64 0, .int .i64 n] w fun e w' => e = .returned (.tuple #[]) ∧ SortSt w0 wS w' B g cap (outer (n - 1) 1 l) := by
  have H := Lib.hid (And.intro h hn)
  clear h hn
  go_enter Tryz.func54, Tryz.ntmps54
  go_wp2_with fail
  go_loopw [6, 7] (fun iv _ wr => ∃ (i : Nat) (l' : List It), 1 ≤ i ∧ i ≤ n ∧ iv = .int .i64 i ∧ Hid (l'.length = n ∧ SortSt w0 wS wr B g cap l' ∧ outer (n - i) i l' = outer (n - 1) 1 l)) (fun iv _ _ => n - (intOf iv).toNat)
  case atStart => exact ⟨1, l, by omega, h1, rfl, H.out.2, H.out.1, rfl⟩
  case round =>
    obtain ⟨i, l', hi1, hin, rfl, hst⟩ := hrel
    by_cases hlt : i < n
    · obtain ⟨wo, rfl⟩ : ∃ wo : World, wo = wr := ⟨_, rfl⟩
      go_wp2_with fail
      go_loopw [7] (fun jv wr => ∃ (k : Nat) (l2 : List It), k ≤ i ∧ jv = .int .i64 k ∧ Hid (l2.length = n ∧ SortSt w0 wS wr B g cap l2 ∧ inner k l2 = inner i l')) (fun jv _ => (intOf jv).toNat)
      case atStart => exact ⟨i, l', Nat.le_refl _, rfl, hst.out.1, hst.out.2.1, rfl⟩
      case round =>
        obtain ⟨k, l2, hk, rfl, hs2⟩ := hrel
        cases k with
        | zero =>
          go_wp2_with fail
          go_roundw
          case rel => exact ⟨i + 1, l2, by omega, by omega, by go_num, hs2.out.1, hs2.out.2.1, by
            rw [← hst.out.2.2, outer_step hlt, ← hs2.out.2.2]; rfl⟩
          case measure => simp [intOf]; omega
        | succ m =>
          have hless := less_any w0 wr B g cap l2 (m + 1) m hs2.out.2.1 (by have := hs2.out.1; omega) (by have := hs2.out.1; omega) (by have := hs2.out.1; omega)
          have hswap := swap_any (wS := wS) w0
          rw [hs2.out.1, show ((m + 1 : Nat) : Int) = (m : Int) + 1 from by omega] at hless
          by_cases hc : (l2.getD (m + 1) it0).2 < (l2.getD m it0).2
          · have hd : decide ((l2.getD (m + 1) it0).2 < (l2.getD m it0).2) = true := decide_eq_true hc
            rw [hd] at hless
            have hin2 := hs2.out.2.2
            rw [inner_step hc] at hin2
            have HL := Lib.hid (And.intro hless (And.intro hin2 hswap))
            clear hless hc hd hin2 hswap
            go_wp2_with fail
            refine HL.out.1.mono ?_
            rintro e w1 ⟨rfl, hb1⟩
            have hss := hs2.out.2.1.next hb1
            have hsw := HL.out.2.2 w1 B g cap l2 m hss (by have := hs2.out.1; omega) (by have := hs2.out.1; omega)
            rw [hs2.out.1, show ((m + 1 : Nat) : Int) = (m : Int) + 1 from by omega] at hsw
            have HW := Lib.hid hsw
            clear hss hsw hb1
            go_wp2_with fail
            refine HW.out.mono ?_
            rintro e w2 ⟨rfl, hs3⟩
            have HS3 := Lib.hid hs3
            clear hs3
            go_wp2_with fail
            go_roundw
            case rel => exact ⟨m, swp l2 m, by omega, rfl, by rw [swp_length]; exact hs2.out.1, HS3.out, HL.out.2.1⟩
            case measure => simp [intOf]
          · have hd : decide ((l2.getD (m + 1) it0).2 < (l2.getD m it0).2) = false := decide_eq_false hc
            rw [hd] at hless
            have hin2 := hs2.out.2.2
            rw [inner_stop hc] at hin2
            have HL := Lib.hid (And.intro hless hin2)
            clear hless hc hd hin2 hswap
            go_wp2_with fail
            refine HL.out.1.mono ?_
            rintro e w1 ⟨rfl, hb1⟩
            have hss := hs2.out.2.1.next hb1
            have HS3 := Lib.hid hss
            clear hss hb1
            go_wp2_with fail
            go_roundw
            case rel => exact ⟨i + 1, l2, by omega, by omega, by go_num, hs2.out.1, HS3.out, by
              rw [← hst.out.2.2, outer_step hlt, ← HL.out.2]⟩
            case measure => simp [intOf]; omega
    · obtain rfl : i = n := by omega
      go_wp2_with fail
      go_end0
      refine ⟨rfl, ?_⟩
      have h2 := hst.out.2.2
      rw [Nat.sub_self, outer] at h2
      rw [← h2]
      exact hst.out.2.1

theorem pdq_any (w0 w : World) (B g cap n : Nat) (lim : Int) (l : List It) (h : SortSt w0 wS w B g cap l) (hn : l.length = n) (hl : n ≤ 12) (h1 : 1 ≤ n) :
    Calls Tryz.prog 42 #[byPosIf g n cap, .int .i64 0, .int .i64 n, .int .i64 lim] w fun e w' => e = .returned (.tuple #[]) ∧ SortSt w0 wS w' B g cap (outer (n - 1) 1 l) := by
  have H := Lib.hid (insertion_any w0 w B g cap n l h hn (by omega) h1)
  clear h hn
  go_enter Tryz.func42, Tryz.ntmps42
  go_wp2_with fail
  refine wp_loop_rounds 1 ?_
  rw [rounds_succ]
  go_wp2_with fail
  refine H.out.mono ?_
  rintro e w1 ⟨rfl, hs⟩
  have HS := Lib.hid hs
  clear hs
  go_wp2_with fail
  refine bodyPost_ret (results_none rfl _ _ _) rfl ?_
  exact ⟨rfl, HS.out⟩

def SomeI (w : World) (e : Ending) (w' : World) : Prop := ∃ m : Int, e = .returned (.int .i64 m) ∧ w = w'
theorem bitsLen64_2 (w : World) : Calls Tryz.prog 53 #[.int .u64 2] w (SomeI w) := by
  go_enter Tryz.func53, Tryz.ntmps53
  go_wp2
  go_ret
  exact ⟨_, rfl, rfl⟩
theorem bitsLen_2 (w : World) : Calls Tryz.prog 41 #[.int .u64 2] w (SomeI w) := by
  go_enter Tryz.func41, Tryz.ntmps41
  go_wp2_with fail
  refine (bitsLen64_2 _).mono ?_
  rintro e w' ⟨m, rfl, rfl⟩
  go_wp2_with fail
  go_ret
  exact ⟨_, rfl, rfl⟩
theorem sort_2 (w0 w : World) (B g cap : Nat) (l : List It) (h : SortSt w0 wS w B g cap l) (hn : l.length = 2) :
    Calls Tryz.prog 37 #[byPosIf g 2 cap] w fun e w' => e = .returned (.tuple #[]) ∧ SortSt w0 wS w' B g cap (outer 1 1 l) := by
  have H := Lib.hid (fun lim => pdq_any w0 w B g cap 2 lim l h hn (by omega) (by omega))
  clear h hn
  go_enter Tryz.func37, Tryz.ntmps37
  go_wp2_with (go_at_call 260; go_in)
  refine (bitsLen_2 _).mono ?_
  rintro e w' ⟨m, rfl, rfl⟩
  go_wp2_with fail
  refine (H.out _).mono ?_
  rintro e w' ⟨rfl, hs⟩
  have HS := Lib.hid hs
  clear hs
  go_wp2_with fail
  go_end0
  exact ⟨rfl, HS.out⟩
theorem bitsLen64_3 (w : World) : Calls Tryz.prog 53 #[.int .u64 3] w (SomeI w) := by
  go_enter Tryz.func53, Tryz.ntmps53
  go_wp2
  go_ret
  exact ⟨_, rfl, rfl⟩
theorem bitsLen_3 (w : World) : Calls Tryz.prog 41 #[.int .u64 3] w (SomeI w) := by
  go_enter Tryz.func41, Tryz.ntmps41
  go_wp2_with fail
  refine (bitsLen64_3 _).mono ?_
  rintro e w' ⟨m, rfl, rfl⟩
  go_wp2_with fail
  go_ret
  exact ⟨_, rfl, rfl⟩
theorem sort_3 (w0 w : World) (B g cap : Nat) (l : List It) (h : SortSt w0 wS w B g cap l) (hn : l.length = 3) :
    Calls Tryz.prog 37 #[byPosIf g 3 cap] w fun e w' => e = .returned (.tuple #[]) ∧ SortSt w0 wS w' B g cap (outer 2 1 l) := by
  have H := Lib.hid (fun lim => pdq_any w0 w B g cap 3 lim l h hn (by omega) (by omega))
  clear h hn
  go_enter Tryz.func37, Tryz.ntmps37
  go_wp2_with (go_at_call 260; go_in)
  refine (bitsLen_3 _).mono ?_
  rintro e w' ⟨m, rfl, rfl⟩
  go_wp2_with fail
  refine (H.out _).mono ?_
  rintro e w' ⟨rfl, hs⟩
  have HS := Lib.hid hs
  clear hs
  go_wp2_with fail
  go_end0
  exact ⟨rfl, HS.out⟩
theorem sort_1 (w : World) (g cap : Nat) : Calls Tryz.prog 37 #[byPosIf g 1 cap] w fun e w' => e = .returned (.tuple #[]) ∧ w = w' := by
  go_enter Tryz.func37, Tryz.ntmps37
  go_wp2_with (go_at_call 260; go_in)
  refine bodyPost_ret (results_none rfl _ _ _) rfl ?_
  exact ⟨rfl, rfl⟩
end Go.Proofs.YtakigggbecibmaaGreatFmt
