/- spec.children at whatever node; spec.visit. -/
import Derived.Test.YtgimbgpebpippaaGreatDoorApChBin
import Derived.Test.YtgimbgpebpippaaGreatDoorApChIndex
import Derived.Test.YtgimbgpebpippaaGreatDoorApChCall
import Derived.Test.YtgimbgpebpippaaGreatDoorApChSel
import Derived.Test.YtgimbgpebpippaaGreatDoorApChOth
namespace Go.Proofs.YtgimbgpebpippaaGreatDoor
open Go.RowKit
set_option maxRecDepth 100000
set_option maxHeartbeats 4000000
theorem children_any (n : ANode) (w : World) (L : Nat) (hin : n.In w L) (hL : L ≤ w.heap.size) (hlen : n.kids.length ≤ 1000) : Calls Tryz.prog 70 #[n.val] w (MadeC (kidsOf n) w) := by
  have hk := hin.kids
  obtain ⟨kd, tx, A, cp, ns⟩ := n
  by_cases h1 : kd = sBin
  · subst h1; exact children_Bin tx A cp ns w L hk hL hlen
  by_cases h2 : kd = sIndex
  · subst h2; exact children_Index tx A cp ns w L hk hL hlen
  by_cases h3 : kd = sCall
  · subst h3; exact children_Call tx A cp ns w L hk hL hlen
  by_cases h4 : kd = sSel
  · subst h4; exact children_Sel tx A cp ns w L hk hL hlen
  exact children_Oth kd h1 h2 h3 h4 tx A cp ns w L hk hL hlen
def Spot.agg (p : Spot) : Value := .agg #[.string p.field, .int .i64 p.index, .string p.parent]
theorem specVisit_any (kd tx : ByteArray) (A : Option Addr) (l cp : Nat) (p : Spot) (post : Bool) (w : World) : Calls Tryz.prog 49 #[.agg #[.string kd, .string tx, .slice A l cp], p.agg, .bool post] w fun e w' => e = .returned (Vst.agg ⟨post, kd, tx, p⟩) ∧ Below w.heap.size w w' := by
  obtain ⟨f, i, pk⟩ := p
  unfold Spot.agg Vst.agg
  go_enter Tryz.func49, Tryz.ntmps49
  go_wp2_with fail
  have hb := Blk.new ((w.alloc (.cells #[.string kd, .string tx, .slice A l cp] 24)).alloc (.cells #[.string f, .int .i64 i, .string pk] 69)) 54 #[.bool post, .string kd, .string tx, .string f, .int .i64 i, .string pk]
  simp only [World.size_alloc] at hb
  refine bodyPost_ret (results_struct rfl rfl (load_vst hb rfl rfl rfl rfl rfl rfl)) rfl ?_
  exact ⟨rfl, by go_grown⟩
end Go.Proofs.YtgimbgpebpippaaGreatDoor
