/- The plain side: trees of nodes, without the program. -/
import Derived.Below
import Derived.Laws.OwnMore
import Derived.Deep.Draws
import Derived.Laws.Strings
namespace Go.Proofs.YtgimbgpebpippaaGreatDoor
open Go.RowKit

inductive Node where
  | mk (kind text : ByteArray) (kids : List Node)

/-- A node as it lies in memory: the address and the capacity of its list. -/
inductive ANode where
  | mk (kind text : ByteArray) (A : Option Addr) (cap : Nat) (kids : List ANode)

namespace Node
def kind : Node → ByteArray | .mk k _ _ => k
def text : Node → ByteArray | .mk _ t _ => t
def kids : Node → List Node | .mk _ _ ks => ks
end Node

namespace ANode
def kind : ANode → ByteArray | .mk k _ _ _ _ => k
def text : ANode → ByteArray | .mk _ t _ _ _ => t
def addr : ANode → Option Addr | .mk _ _ A _ _ => A
def cap : ANode → Nat | .mk _ _ _ c _ => c
def kids : ANode → List ANode | .mk _ _ _ _ ks => ks
def val (n : ANode) : Value := .agg #[.string n.kind, .string n.text, .slice n.addr n.kids.length n.cap]
end ANode

mutual
def ANode.erase : ANode → Node
  | .mk k t _ _ ks => .mk k t (eraseL ks)
def eraseL : List ANode → List Node
  | [] => []
  | n :: ns => n.erase :: eraseL ns
end

theorem eraseL_eq (l : List ANode) : eraseL l = l.map ANode.erase := by
  induction l with
  | nil => rfl
  | cons a l ih => simp [eraseL, ih]
theorem eraseL_length (l : List ANode) : (eraseL l).length = l.length := by simp [eraseL_eq]

theorem ANode.erase_kind (n : ANode) : n.erase.kind = n.kind := by cases n; rfl
theorem ANode.erase_text (n : ANode) : n.erase.text = n.text := by cases n; rfl
theorem ANode.erase_kids (n : ANode) : n.erase.kids = n.kids.map ANode.erase := by cases n; simp [ANode.erase, Node.kids, ANode.kids, eraseL_eq]

/-- The three cells of the kid at place i of the list at A. -/
def KidAt (w : World) (L : Nat) (A : Option Addr) (i : Nat) (n : ANode) : Prop :=
  ∃ b off, A = some ⟨b, off, none⟩ ∧ b < L ∧ w.cell? ⟨b, off + i * 3, none⟩ = some (.string n.kind) ∧
    w.cell? ⟨b, off + i * 3 + 1, none⟩ = some (.string n.text) ∧ w.cell? ⟨b, off + i * 3 + 2, none⟩ = some (.slice n.addr n.kids.length n.cap)

mutual
def ANode.In (w : World) (L : Nat) : ANode → Prop
  | .mk k t A cap ks => k.size ≤ maxLen ∧ t.size ≤ maxLen ∧ ks.length ≤ cap ∧ cap ≤ maxLen ∧ KidsIn w L A 0 ks
def KidsIn (w : World) (L : Nat) (A : Option Addr) : Nat → List ANode → Prop
  | _, [] => True
  | i, n :: ns => KidAt w L A i n ∧ n.In w L ∧ KidsIn w L A (i + 1) ns
end

theorem KidAt.keep {w w' : World} {L : Nat} {A : Option Addr} {i : Nat} {n : ANode} (h : KidAt w L A i n) (hk : ∀ p : Addr, p.block < L → w'.cell? p = w.cell? p) : KidAt w' L A i n := by
  obtain ⟨b, off, rfl, hb, h0, h1, h2⟩ := h
  exact ⟨b, off, rfl, hb, (hk _ hb).trans h0, (hk _ hb).trans h1, (hk _ hb).trans h2⟩
theorem KidAt.more {w : World} {L L' : Nat} {A : Option Addr} {i : Nat} {n : ANode} (h : KidAt w L A i n) (hL : L ≤ L') : KidAt w L' A i n := by
  obtain ⟨b, off, rfl, hb, h0, h1, h2⟩ := h
  exact ⟨b, off, rfl, by omega, h0, h1, h2⟩

mutual
theorem ANode.In.keep {w w' : World} {L : Nat} (hk : ∀ p : Addr, p.block < L → w'.cell? p = w.cell? p) : ∀ n : ANode, n.In w L → n.In w' L
  | .mk _ _ _ _ ks, h => ⟨h.1, h.2.1, h.2.2.1, h.2.2.2.1, KidsIn.keep hk ks h.2.2.2.2⟩
theorem KidsIn.keep {w w' : World} {L : Nat} (hk : ∀ p : Addr, p.block < L → w'.cell? p = w.cell? p) {A : Option Addr} {i : Nat} : ∀ ns : List ANode, KidsIn w L A i ns → KidsIn w' L A i ns
  | [], _ => trivial
  | n :: ns, h => ⟨h.1.keep hk, ANode.In.keep hk n h.2.1, KidsIn.keep hk ns h.2.2⟩
end
mutual
theorem ANode.In.more {w : World} {L L' : Nat} (hL : L ≤ L') : ∀ n : ANode, n.In w L → n.In w L'
  | .mk _ _ _ _ ks, h => ⟨h.1, h.2.1, h.2.2.1, h.2.2.2.1, KidsIn.more hL ks h.2.2.2.2⟩
theorem KidsIn.more {w : World} {L L' : Nat} (hL : L ≤ L') {A : Option Addr} {i : Nat} : ∀ ns : List ANode, KidsIn w L A i ns → KidsIn w L' A i ns
  | [], _ => trivial
  | n :: ns, h => ⟨h.1.more hL, ANode.In.more hL n h.2.1, KidsIn.more hL ns h.2.2⟩
end
theorem ANode.In.below {w w' : World} {L B : Nat} {n : ANode} (h : n.In w L) (hb : Below B w w') (hB : L ≤ B) : n.In w' L :=
  ANode.In.keep (fun p hp => hb.cell (p := p) (by omega)) n h
theorem KidsIn.below {w w' : World} {L B : Nat} {A : Option Addr} {i : Nat} {ns : List ANode} (h : KidsIn w L A i ns) (hb : Below B w w') (hB : L ≤ B) : KidsIn w' L A i ns :=
  KidsIn.keep (fun p hp => hb.cell (p := p) (by omega)) ns h
theorem KidsIn.get {w : World} {L : Nat} {A : Option Addr} : ∀ {ns : List ANode} {i j : Nat} {n : ANode}, KidsIn w L A i ns → ns[j]? = some n → KidAt w L A (i + j) n ∧ n.In w L
  | [], _, _, _, _, h => by simp at h
  | m :: ns, i, 0, n, hin, h => by
    simp at h; subst h
    exact ⟨hin.1, hin.2.1⟩
  | m :: ns, i, j + 1, n, hin, h => by
    have := KidsIn.get (j := j) (n := n) hin.2.2 (by simpa using h)
    rwa [show i + (j + 1) = i + 1 + j by omega]
theorem ANode.In.kids {w : World} {L : Nat} {n : ANode} (h : n.In w L) : KidsIn w L n.addr 0 n.kids := by cases n; exact h.2.2.2.2
theorem ANode.In.kind {w : World} {L : Nat} {n : ANode} (h : n.In w L) : n.kind.size ≤ maxLen := by cases n; exact h.1
theorem ANode.In.text {w : World} {L : Nat} {n : ANode} (h : n.In w L) : n.text.size ≤ maxLen := by cases n; exact h.2.1
theorem ANode.In.len {w : World} {L : Nat} {n : ANode} (h : n.In w L) : n.kids.length ≤ n.cap := by cases n; exact h.2.2.1
theorem ANode.In.cap {w : World} {L : Nat} {n : ANode} (h : n.In w L) : n.cap ≤ maxLen := by cases n; exact h.2.2.2.1
theorem ANode.In.kid {w : World} {L : Nat} {n kid : ANode} {i : Nat} (h : n.In w L) (hk : n.kids[i]? = some kid) : KidAt w L n.addr i kid ∧ kid.In w L := by
  have := h.kids.get hk
  simpa using this

theorem ret_int {k : IntKind} {a b : Int} (h : a = b) : Ending.returned (.int k a) = Ending.returned (.int k b) := by rw [h]
theorem ret_bool {a b : Bool} (h : a = b) : Ending.returned (.bool a) = Ending.returned (.bool b) := by rw [h]

/-! the count of nodes -/
mutual
def cnt : Node → Int → Int → Int
  | .mk _ _ ks, most, depth => cntL ks most depth 1
def cntL : List Node → Int → Int → Int → Int
  | [], _, _, c => c
  | n :: ns, most, depth, c => if c > most ∨ depth = 0 then most + 1 else cntL ns most depth (c + cnt n (most - c) (depth - 1))
end
mutual
theorem cnt_bd : ∀ (n : Node) (m d : Int), 0 ≤ m → 1 ≤ cnt n m d ∧ cnt n m d ≤ m + 1
  | .mk _ _ ks, m, d, hm => by
    have := cntL_bd ks m d 1 hm (by omega) (by omega)
    simp only [cnt]; omega
theorem cntL_bd : ∀ (ks : List Node) (m d c : Int), 0 ≤ m → 1 ≤ c → c ≤ m + 1 → 1 ≤ cntL ks m d c ∧ cntL ks m d c ≤ m + 1
  | [], m, d, c, hm, h1, h2 => by simp only [cntL]; omega
  | n :: ns, m, d, c, hm, h1, h2 => by
    simp only [cntL]
    split
    · omega
    · rename_i h
      have := cnt_bd n (m - c) (d - 1) (by omega)
      exact cntL_bd ns m d _ hm (by omega) (by omega)
end
mutual
def Node.hgt : Node → Nat
  | .mk _ _ ks => hgtL ks + 1
def hgtL : List Node → Nat
  | [] => 0
  | n :: ns => max n.hgt (hgtL ns)
end
mutual
theorem hgt_le : ∀ (n : Node) (m d : Int), 0 ≤ d → cnt n m d ≤ m → (n.hgt : Int) ≤ d + 1
  | .mk _ _ ks, m, d, hd, h => by
    have := hgtL_le ks m d 1 hd (by simpa only [cnt] using h)
    simp only [Node.hgt]; omega
theorem hgtL_le : ∀ (ks : List Node) (m d c : Int), 0 ≤ d → cntL ks m d c ≤ m → (hgtL ks : Int) ≤ d
  | [], m, d, c, hd, h => by simp only [hgtL]; omega
  | n :: ns, m, d, c, hd, h => by
    simp only [cntL] at h
    split at h
    · omega
    · rename_i hc
      have hd0 : d ≠ 0 := fun e => hc (.inr e)
      have h2 := hgtL_le ns m d _ hd h
      have h1 : cnt n (m - c) (d - 1) ≤ m - c := by
        have := cntL_ge ns m d (c + cnt n (m - c) (d - 1))
        by_cases hx : c + cnt n (m - c) (d - 1) ≤ m
        · omega
        · omega
      have := hgt_le n (m - c) (d - 1) (by omega) h1
      simp only [hgtL]; omega
theorem cntL_ge : ∀ (ks : List Node) (m d c : Int), cntL ks m d c ≤ m → c ≤ m
  | [], m, d, c, h => by simpa only [cntL] using h
  | n :: ns, m, d, c, h => by
    simp only [cntL] at h
    split at h
    · omega
    · omega
end

theorem ANode.sizeOf_kid {n kid : ANode} {i : Nat} (h : n.kids[i]? = some kid) : SizeOf.sizeOf kid < SizeOf.sizeOf n := by
  cases n with
  | mk k t A c ks =>
    have := List.sizeOf_lt_of_mem (List.mem_of_getElem? h)
    simp only [ANode.kids] at this
    simp only [ANode.mk.sizeOf_spec]; omega

theorem eraseL_drop {ns : List ANode} {j : Nat} {kid : ANode} (h : ns[j]? = some kid) : eraseL (ns.drop j) = kid.erase :: eraseL (ns.drop (j + 1)) := by
  have hlt : j < ns.length := by
    rcases Nat.lt_or_ge j ns.length with h1 | h1
    · exact h1
    · rw [List.getElem?_eq_none h1] at h; cases h
  have e : ns[j] = kid := by rw [List.getElem?_eq_getElem hlt] at h; exact Option.some.inj h
  rw [List.drop_eq_getElem_cons hlt, e, eraseL]

theorem cnt_eq (n : ANode) (m d : Int) : cnt n.erase m d = cntL (eraseL (n.kids.drop 0)) m d 1 := by cases n; simp [ANode.erase, cnt, ANode.kids]

theorem hgtL_kid {ns : List ANode} {i : Nat} {kid : ANode} (h : ns[i]? = some kid) : kid.erase.hgt ≤ hgtL (eraseL ns) := by
  induction ns generalizing i with
  | nil => simp at h
  | cons a l ih =>
    simp only [eraseL, hgtL]
    cases i with
    | zero => simp at h; subst h; omega
    | succ i => have := ih (by simpa using h); omega
theorem hgt_kid {n kid : ANode} {i : Nat} (h : n.kids[i]? = some kid) : kid.erase.hgt + 1 ≤ n.erase.hgt := by
  cases n with
  | mk k t A c ks =>
    have := hgtL_kid (ns := ks) h
    simp only [ANode.erase, Node.hgt]; omega

/-! words -/
def sName : ByteArray := ⟨#[110, 97, 109, 101]⟩
def sInt : ByteArray := ⟨#[105, 110, 116]⟩
def sSel : ByteArray := ⟨#[115, 101, 108, 101, 99, 116, 111, 114]⟩
def sParen : ByteArray := ⟨#[112, 97, 114, 101, 110]⟩
def sUn : ByteArray := ⟨#[117, 110, 97, 114, 121]⟩
def sBin : ByteArray := ⟨#[98, 105, 110, 97, 114, 121]⟩
def sIndex : ByteArray := ⟨#[105, 110, 100, 101, 120]⟩
def sCall : ByteArray := ⟨#[99, 97, 108, 108]⟩
def sEmpty : ByteArray := ⟨#[]⟩
def unOps : List ByteArray := [⟨#[42]⟩, ⟨#[45]⟩, ⟨#[43]⟩, ⟨#[33]⟩, ⟨#[94]⟩, ⟨#[38]⟩]
def binOps : List ByteArray := [⟨#[43]⟩, ⟨#[45]⟩, ⟨#[42]⟩, ⟨#[47]⟩, ⟨#[37]⟩, ⟨#[38]⟩, ⟨#[124]⟩, ⟨#[94]⟩, ⟨#[60]⟩, ⟨#[62]⟩]
theorem toList_inj {a b : ByteArray} : a.toList = b.toList ↔ a = b := by
  rw [ByteArray.toList_eq, ByteArray.toList_eq]
  constructor
  · intro h
    have : a.data = b.data := Array.toList_inj.1 h
    cases a; cases b; simp_all
  · intro h; rw [h]
theorem eq_of_beq {a b : ByteArray} (h : (a.toList == b.toList) = true) : a = b := toList_inj.1 (by simpa using h)
theorem beq_of_eq {a b : ByteArray} (h : a = b) : (a.toList == b.toList) = true := by rw [h]; simp
theorem beq_of_ne {a b : ByteArray} (h : a ≠ b) : (a.toList == b.toList) = false := by
  rw [Bool.eq_false_iff]; exact fun e => h (eq_of_beq e)

/-- What the kind asks of the text and of the number of kids. -/
def Vk (k t : ByteArray) (len : Nat) : Prop :=
  (k = sName ∨ k = sInt) ∧ t ≠ sEmpty ∧ len = 0 ∨ k = sSel ∧ len = 1 ∨ k = sParen ∧ t = sEmpty ∧ len = 1 ∨ k = sUn ∧ t ∈ unOps ∧ len = 1 ∨
    k = sBin ∧ t ∈ binOps ∧ len = 2 ∨ k = sIndex ∧ t = sEmpty ∧ len = 2 ∨ k = sCall ∧ t = sEmpty ∧ 1 ≤ len ∧ len ≤ 20
mutual
def V : Node → Prop
  | .mk k t ks => Vk k t ks.length ∧ VL ks
def VL : List Node → Prop
  | [] => True
  | n :: ns => V n ∧ VL ns
end
theorem VL_iff (ns : List Node) : VL ns ↔ ∀ n ∈ ns, V n := by
  induction ns with
  | nil => simp [VL]
  | cons a l ih => simp [VL, ih]
/-- An answer that says something where it is true. -/
def Tells (p : Prop) (w : World) (e : Ending) (w' : World) : Prop := ∃ b, e = .returned (.bool b) ∧ (b = true → p) ∧ Below w.heap.size w w'
theorem Tells.no {p : Prop} {w w' : World} (hb : Below w.heap.size w w') : Tells p w (.returned (.bool false)) w' := ⟨false, rfl, by simp, hb⟩
theorem Tells.of {p : Prop} {w w' : World} {b : Bool} (h : b = true → p) (hb : Below w.heap.size w w') : Tells p w (.returned (.bool b)) w' := ⟨b, rfl, h, hb⟩

theorem Vk.leaf {k t : ByteArray} (h : k = sName ∨ k = sInt) (ht : t ≠ sEmpty) : Vk k t 0 := .inl ⟨h, ht, rfl⟩
theorem Vk.sel {t : ByteArray} {len : Nat} (h : len = 1) : Vk sSel t len := .inr (.inl ⟨rfl, h⟩)
theorem Vk.paren {len : Nat} (h : len = 1) : Vk sParen sEmpty len := .inr (.inr (.inl ⟨rfl, rfl, h⟩))
theorem Vk.un {t : ByteArray} {len : Nat} (ht : t ∈ unOps) (h : len = 1) : Vk sUn t len := .inr (.inr (.inr (.inl ⟨rfl, ht, h⟩)))
theorem Vk.bin {t : ByteArray} {len : Nat} (ht : t ∈ binOps) (h : len = 2) : Vk sBin t len := .inr (.inr (.inr (.inr (.inl ⟨rfl, ht, h⟩))))
theorem Vk.index {len : Nat} (h : len = 2) : Vk sIndex sEmpty len := .inr (.inr (.inr (.inr (.inr (.inl ⟨rfl, rfl, h⟩)))))
theorem Vk.call {len : Nat} (h : 1 ≤ len) (h2 : len ≤ 20) : Vk sCall sEmpty len := .inr (.inr (.inr (.inr (.inr (.inr ⟨rfl, rfl, h, h2⟩)))))
theorem V_mk {k t : ByteArray} {A : Option Addr} {cap : Nat} {ks : List ANode} (h : Vk k t ks.length) (hv : VL (eraseL ks)) : V (ANode.mk k t A cap ks).erase := by
  simp only [ANode.erase, V, eraseL_length]
  exact ⟨h, hv⟩
theorem empty_of {t : ByteArray} (h : t.toList = []) : t = sEmpty := toList_inj.1 (by rw [h]; exact (ByteArray.toList_mk []).symm)
theorem ne_empty {t : ByteArray} (h : ¬ t.toList = []) : t ≠ sEmpty := fun e => h (by rw [e]; exact ByteArray.toList_mk [])
theorem mem_of_any {l : List ByteArray} {t : ByteArray} (h : (l.any fun x => x.toList == t.toList) = true) : t ∈ l := by
  obtain ⟨x, hx, he⟩ := List.any_eq_true.1 h
  rwa [← eq_of_beq he]
theorem strs_cell (W : World) (l : List ByteArray) (T : TypeId) (n : Nat) (hn : n = W.heap.size) (i : Nat) (x : ByteArray) (hx : l[i]? = some x) :
    (W.alloc (.cells (l.map Value.string).toArray T)).cell? ⟨n, i, none⟩ = some (.string x) := by
  subst hn
  rw [World.cell?_alloc_new]
  simp [hx]

theorem take_erase {ns : List ANode} {j : Nat} {kid : ANode} (h : ns[j]? = some kid) : (eraseL ns).take (j + 1) = (eraseL ns).take j ++ [kid.erase] := by
  have hlt : j < ns.length := by
    rcases Nat.lt_or_ge j ns.length with h1 | h1
    · exact h1
    · rw [List.getElem?_eq_none h1] at h; cases h
  have e : ns[j] = kid := by rw [List.getElem?_eq_getElem hlt] at h; exact Option.some.inj h
  rw [eraseL_eq, List.take_succ_eq_append_getElem (by simpa using hlt)]
  simp [e]

theorem KidsIn.shift {w : World} {L b off : Nat} : ∀ {ns : List ANode} {i : Nat}, KidsIn w L (some ⟨b, off, none⟩) (i + 1) ns → KidsIn w L (some ⟨b, off + 3, none⟩) i ns
  | [], _, _ => trivial
  | n :: ns, i, h => by
    obtain ⟨⟨b', off', hA, hb, h0, h1, h2⟩, hin, hrest⟩ := h
    injection hA with hA
    injection hA with e1 e2
    subst e1; subst e2
    have e : off + (i + 1) * 3 = off + 3 + i * 3 := by omega
    rw [e] at h0 h1 h2
    exact ⟨⟨b, off + 3, rfl, hb, h0, h1, h2⟩, hin, KidsIn.shift hrest⟩

theorem length_two {α : Type} {l : List α} (h : l.length = 2) : ∃ x y, l = [x, y] := by
  match l, h with
  | [x, y], _ => exact ⟨x, y, rfl⟩
end Go.Proofs.YtgimbgpebpippaaGreatDoor
