/- Contracts: tokens, names, the trees of expressions that are made of nodes. -/
import Derived.Test.YtgimbgpebpippaaGreatDoorProg
import Derived.Test.YtgimbgpebpippaaGreatDoorAst
import Derived.WalkKit
import Derived.Handy
import Derived.KernelRfl
import Derived.Lib.Hide
import Derived.Deep.RegionHeld3
import Derived.Deep.RegionWith
namespace Go.Proofs.YtgimbgpebpippaaGreatDoor
open Go.RowKit
set_option maxRecDepth 100000

theorem tokString_any (op : Nat) (w : World) (h : OpOk op) (hT : TokTab w) :
    Calls Tryz.prog 72 #[.int .i64 op] w fun e w' => e = .returned (.string (tok op)) ∧ w = w' := by
  have hc := hT op h.1
  have hlt := h.1
  have hne : (tok op).toList.isEmpty = false := by
    rw [tok, ByteArray.toList_mk]; exact h.2
  have hne2 : ((tok op).toList == []) = false := by
    cases hx : (tok op).toList with
    | nil => rw [hx] at hne; cases hne
    | cons a l => rfl
  clear h hT
  go_enter Tryz.func72, Tryz.ntmps72
  go_wp2_with fail
  go_ret
  exact ⟨rfl, rfl⟩

theorem tokenOf_any (t : ByteArray) (op : Nat) (w : World) (h1 : 12 ≤ op) (h2 : op < 59) (ht : tok op = t) (hT : TokTab w) :
    Calls Tryz.prog 69 #[.string t] w fun e w' => (∃ op' : Nat, e = .returned (.int .i64 op') ∧ OpOk op' ∧ tok op' = t) ∧ w = w' := by
  have HT := Lib.hid ht
  clear ht
  have HTT := Lib.hid hT
  clear hT
  go_enter Tryz.func69, Tryz.ntmps69
  go_wp2_with fail
  go_loop [3] (fun i => ∃ j : Nat, 12 ≤ j ∧ j ≤ op ∧ i = .int .i64 j) (fun i => 100 - (intOf i).toNat)
  case atStart => exact ⟨12, by omega, by omega, rfl⟩
  case round =>
    obtain ⟨j, hj, hjo, rfl⟩ := hrel
    have hok := opOk_range j (by omega) hj
    have HOK := Lib.hid hok
    clear hok
    by_cases heq : tok j = t
    · have HE := Lib.hid heq
      have hb : ((tok j).toList == t.toList) = true := beq_of_eq heq
      clear heq
      go_wp2_with fail
      refine (tokString_any j w HOK.out HTT.out).mono ?_
      rintro e w' ⟨rfl, rfl⟩
      go_wp2_with fail
      go_ret
      exact ⟨⟨j, rfl, HOK.out, HE.out⟩, rfl⟩
    · have hlt : j < op := by
        rcases Nat.lt_or_ge j op with h | h
        · exact h
        · have : j = op := by omega
          exact absurd (this ▸ HT.out) heq
      have hb : ((tok j).toList == t.toList) = false := beq_of_ne heq
      clear heq
      go_wp2_with fail
      refine (tokString_any j w HOK.out HTT.out).mono ?_
      rintro e w' ⟨rfl, rfl⟩
      go_wp2_with fail
      go_round
      case rel => exact ⟨j + 1, by omega, by omega, by go_num⟩
      case measure => simp [intOf]; omega

theorem newIdent_any (s : ByteArray) (w : World) :
    Calls Tryz.prog 47 #[.string s] w fun e w' => e = .returned (.pointer (some ⟨w.heap.size, 0, none⟩)) ∧
      w.alloc (.cells #[.int .i64 0, .string s, .pointer none] 83) = w' := by
  go_enter Tryz.func47, Tryz.ntmps47
  go_wp2_with fail
  go_ret
  exact ⟨rfl, rfl⟩
end Go.Proofs.YtgimbgpebpippaaGreatDoor
