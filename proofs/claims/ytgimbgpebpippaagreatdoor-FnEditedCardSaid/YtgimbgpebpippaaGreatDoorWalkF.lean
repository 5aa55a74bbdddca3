/- exprOf whole; Unparen; the last lines of the law of Unparen. -/
import Derived.Test.YtgimbgpebpippaaGreatDoorWalkE
import Derived.Deep.LoopGhost
namespace Go.Proofs.YtgimbgpebpippaaGreatDoor
open Go.RowKit
set_option maxRecDepth 100000
set_option maxHeartbeats 1000000

theorem exprOf_any (k : Nat) : ExprUpTo k := by
  induction k with
  | zero => intro n w L hs; omega
  | succ k ih =>
  intro n w L hs hin hL hG hv
  have hkid := fun i kid (h : n.kids[i]? = some kid) => And.intro (hin.kid h) (ANode.sizeOf_kid h)
  have hcap := hin.cap
  have hlen := hin.len
  have htx := hin.text
  have hks := hin.kids
  obtain ⟨kd, tx, A, cap, ks⟩ := n
  simp only [ANode.erase, V, eraseL_length] at hv
  obtain ⟨hk, hvl⟩ := hv
  have hcm : cap ≤ 9223372036854775807 := by simpa [maxLen, ANode.cap] using hcap
  have hvk : ∀ (i : Nat) (kid : ANode), ks[i]? = some kid → V kid.erase := by
    intro i kid h
    rw [VL_iff] at hvl
    exact hvl _ (by rw [eraseL_eq]; exact List.mem_map_of_mem (List.mem_of_getElem? h))
  simp only [ANode.kids, ANode.addr, ANode.cap, ANode.text] at hkid hlen htx hks
  show Calls Tryz.prog _ #[.agg #[.string kd, .string tx, .slice A ks.length cap]] w (MadeE (.mk kd tx (eraseL ks)) w)
  rcases hk with ⟨hk, ht, hl⟩ | ⟨rfl, hl⟩ | ⟨rfl, rfl, hl⟩ | ⟨rfl, ht, hl⟩ | ⟨rfl, ht, hl⟩ | ⟨rfl, rfl, hl⟩ | ⟨rfl, rfl, hl1, hl2⟩
  · obtain rfl : ks = [] := List.eq_nil_of_length_eq_zero hl
    rcases hk with rfl | rfl
    · exact exprOf_name tx A cap w htx
    · exact exprOf_int tx A cap w htx
  · obtain ⟨x, rfl⟩ := List.length_eq_one_iff.1 hl
    obtain ⟨⟨hA0, hin0⟩, hs0⟩ := hkid 0 x rfl
    exact exprOf_sel k ih x tx A cap w L hL hG (by simpa using hlen) hcm htx hA0 hin0 (by omega) (hvk 0 x rfl)
  · obtain ⟨x, rfl⟩ := List.length_eq_one_iff.1 hl
    obtain ⟨⟨hA0, hin0⟩, hs0⟩ := hkid 0 x rfl
    exact exprOf_paren k ih x sEmpty A cap w L hL hG (by simpa using hlen) hcm htx hA0 hin0 (by omega) (hvk 0 x rfl)
  · obtain ⟨x, rfl⟩ := List.length_eq_one_iff.1 hl
    obtain ⟨⟨hA0, hin0⟩, hs0⟩ := hkid 0 x rfl
    by_cases hst : tx = ⟨#[42]⟩
    · subst hst
      exact exprOf_star k ih x ⟨#[42]⟩ A cap w L hL hG (by simpa using hlen) hcm htx hA0 hin0 (by omega) (hvk 0 x rfl)
    · obtain ⟨op, h1, h2, h3⟩ := op_of_un ht
      exact exprOf_unary k ih x tx A cap w L hL hG (by simpa using hlen) hcm htx hA0 hin0 (by omega) (hvk 0 x rfl) op h1 h2 h3
        ((congrArg (fun z => (tx.toList == z)) (ByteArray.toList_mk [42])).symm.trans (beq_of_ne hst))
  · obtain ⟨x, y, rfl⟩ := length_two hl
    obtain ⟨⟨hA0, hin0⟩, hs0⟩ := hkid 0 x rfl
    obtain ⟨⟨hA1, hin1⟩, hs1⟩ := hkid 1 y rfl
    obtain ⟨op, h1, h2, h3⟩ := op_of_bin ht
    exact exprOf_binary k ih x y tx A cap w L hL hG (by simpa using hlen) hcm htx hA0 hin0 (by omega) (hvk 0 x rfl) hA1 hin1 (by omega) (hvk 1 y rfl) op h1 h2 h3
  · obtain ⟨x, y, rfl⟩ := length_two hl
    obtain ⟨⟨hA0, hin0⟩, hs0⟩ := hkid 0 x rfl
    obtain ⟨⟨hA1, hin1⟩, hs1⟩ := hkid 1 y rfl
    exact exprOf_index k ih x y sEmpty A cap w L hL hG (by simpa using hlen) hcm htx hA0 hin0 (by omega) (hvk 0 x rfl) hA1 hin1 (by omega) (hvk 1 y rfl)
  · match ks, hl1 with
    | x :: rest, _ =>
      obtain ⟨⟨hA0, hin0⟩, hs0⟩ := hkid 0 x rfl
      by_cases hc1 : cap = 1
      · subst hc1
        obtain rfl : rest = [] := List.eq_nil_of_length_eq_zero (by simp only [List.length_cons] at hlen; omega)
        exact exprOf_call0 k ih x A w L hL hG hA0 hin0 (by omega) (hvk 0 x rfl)
      · simp only [List.length_cons] at hlen hl2
        refine exprOf_call k ih x rest A cap hcm w L hL hG hA0 hin0 (by omega) (hvk 0 x rfl) hks.2.2 ?_ ?_ (by omega) (by omega) (by omega)
        · intro n hn
          obtain ⟨i, hi, he⟩ := List.mem_iff_getElem.1 hn
          have := (hkid (i + 1) n (by simp [List.getElem?_eq_getElem hi, he])).2
          omega
        · simp only [eraseL, VL] at hvl
          exact hvl.2

end Go.Proofs.YtgimbgpebpippaaGreatDoor
