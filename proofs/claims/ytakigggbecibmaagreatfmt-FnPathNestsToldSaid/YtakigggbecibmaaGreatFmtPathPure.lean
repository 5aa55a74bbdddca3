/- The plain side of the paths: sums of terms, the nodes on a path, and what PathEnclosingInterval finds, without the program. -/
namespace Go.Proofs.YtakigggbecibmaaGreatFmt

/-- A term: its name, the blanks ahead of its sign and behind it. -/
structure Tm where
  name : ByteArray
  before : Int
  after : Int

def TmOk (t : Tm) : Prop := 1 ≤ t.name.size ∧ t.name.size ≤ 20 ∧ 0 ≤ t.before ∧ t.before ≤ 20 ∧ 0 ≤ t.after ∧ t.after ≤ 20
def tm (ts : List Tm) (i : Nat) : Tm := ts.getD i ⟨⟨#[]⟩, 0, 0⟩
/-- where a term ends, where its sign stands, where it begins -/
def tE (ts : List Tm) : Nat → Int
  | 0 => 18 + (tm ts 0).name.size
  | k + 1 => tE ts k + (tm ts (k + 1)).before + 1 + (tm ts (k + 1)).after + (tm ts (k + 1)).name.size
def tG (ts : List Tm) : Nat → Int
  | 0 => -1
  | k + 1 => tE ts k + (tm ts (k + 1)).before
def tS (ts : List Tm) : Nat → Int
  | 0 => 18
  | k + 1 => tE ts k + (tm ts (k + 1)).before + 1 + (tm ts (k + 1)).after

inductive PN where
  | file | decl | spec | pkg | var
  | bin (k : Nat)
  | term (k : Nat)

/-- The path below the sum up to a term, and whether it is exact. -/
def visSum (ts : List Tm) : Nat → Int → Int → List PN × Bool
  | 0, _, _ => ([.term 0], true)
  | k + 1, a, b =>
    let a' := max a 18
    let b' := min b (tE ts (k + 1))
    if tE ts k ≤ a' ∧ b' ≤ tG ts (k + 1) then ([.bin (k + 1)], false)
    else if b' ≤ tG ts (k + 1) then (.bin (k + 1) :: (visSum ts k a' b').1, (visSum ts k a' b').2)
    else if a' < tE ts k then ([.bin (k + 1)], decide (a' = 18 ∧ b' = tE ts (k + 1)))
    else if tG ts (k + 1) + 1 ≤ a' ∧ b' ≤ tS ts (k + 1) then ([.bin (k + 1)], false)
    else if b' ≤ tS ts (k + 1) then ([.bin (k + 1)], true)
    else if a' < tG ts (k + 1) + 1 then ([.bin (k + 1)], decide (a' = 18 ∧ b' = tE ts (k + 1)))
    else ([.bin (k + 1), .term (k + 1)], true)
def visSpec (ts : List Tm) (n : Nat) (a b : Int) : List PN × Bool :=
  let a' := max a 14
  let b' := min b (tE ts n)
  if 15 ≤ a' ∧ b' ≤ 18 then ([.spec], false)
  else if b' ≤ 18 then ([.spec, .var], true)
  else if a' < 15 then ([.spec], decide (a' = 14 ∧ b' = tE ts n))
  else (.spec :: (visSum ts n a' b').1, (visSum ts n a' b').2)
def visDecl (ts : List Tm) (n : Nat) (a b : Int) : List PN × Bool :=
  let a' := max a 10
  let b' := min b (tE ts n)
  if 13 ≤ a' ∧ b' ≤ 14 then ([.decl], false)
  else if b' ≤ 14 then ([.decl], true)
  else if a' < 13 then ([.decl], decide (a' = 10 ∧ b' = tE ts n))
  else (.decl :: (visSpec ts n a' b').1, (visSpec ts n a' b').2)
def visFile (ts : List Tm) (n : Nat) (a b : Int) : List PN × Bool :=
  let a' := max a 0
  let b' := min b (tE ts n)
  if 7 ≤ a' ∧ b' ≤ 8 then ([.file], false)
  else if b' ≤ 8 then ([.file], true)
  else if a' < 7 then ([.file], decide (a' = 0 ∧ b' = tE ts n))
  else if 9 ≤ a' ∧ b' ≤ 10 then ([.file], false)
  else if b' ≤ 10 then ([.file, .pkg], true)
  else if a' < 9 then ([.file], decide (a' = 0 ∧ b' = tE ts n))
  else (.file :: (visDecl ts n a' b').1, (visDecl ts n a' b').2)
/-- n: the number of the last term. The path from the smallest node up to the file. -/
def pathOf (ts : List Tm) (n : Nat) (a b : Int) : List PN × Bool :=
  if a < tE ts n ∧ 0 < b then ((visFile ts n a (if a = b then a + 1 else b)).1.reverse, (visFile ts n a (if a = b then a + 1 else b)).2)
  else ([.file], false)

/-- The sums from one up to the last. -/
def sumsFrom (i n : Nat) : List PN := (List.range' i (n + 1 - i)).map PN.bin
def above : List PN := [.spec, .decl, .file]

theorem path_point {ts : List Tm} {n : Nat} {a : Int} (ha : 1 ≤ a) (hb : a < tE ts n) : pathOf ts n a a = pathOf ts n a (a + 1) := by
  unfold pathOf
  have c1 : a < tE ts n ∧ 0 < a := ⟨hb, by omega⟩
  have c2 : a < tE ts n ∧ 0 < a + 1 := ⟨hb, by omega⟩
  rw [if_pos c1, if_pos c2]
  simp

/-! bounds -/
section
variable {ts : List Tm} (h : ∀ t ∈ ts, TmOk t)
include h
theorem tm_ok {i : Nat} (hi : i < ts.length) : TmOk (tm ts i) := by
  unfold tm
  rw [List.getD_eq_getElem?_getD, List.getElem?_eq_getElem hi]
  exact h _ (List.getElem_mem hi)
theorem tE_lt {k : Nat} (hk : k + 1 < ts.length) : tE ts k ≤ tG ts (k + 1) ∧ tG ts (k + 1) + 1 ≤ tS ts (k + 1) ∧ tS ts (k + 1) < tE ts (k + 1) ∧ tE ts (k + 1) ≤ tE ts k + 61 := by
  have := tm_ok h hk
  unfold TmOk at this
  simp only [tE, tG, tS]
  omega
theorem tE_lo : ∀ {k : Nat}, k < ts.length → 19 + (k : Int) ≤ tE ts k ∧ tE ts k ≤ 38 + 61 * k
  | 0, hk => by
    have := tm_ok h hk
    unfold TmOk at this
    simp only [tE]
    omega
  | k + 1, hk => by
    have h1 := tE_lo (k := k) (by omega)
    have h2 := tE_lt h hk
    omega
theorem tE_mono {i k : Nat} (hik : i ≤ k) (hk : k < ts.length) : tE ts i ≤ tE ts k := by
  induction k with
  | zero => obtain rfl : i = 0 := by omega
            exact Int.le_refl _
  | succ k ih =>
    by_cases e : i = k + 1
    · subst e; exact Int.le_refl _
    · have h1 := ih (by omega) (by omega)
      have h2 := tE_lt h hk
      omega
theorem tS_eq {k : Nat} (hk : k < ts.length) : tE ts k = tS ts k + (tm ts k).name.size ∧ 18 ≤ tS ts k ∧ 1 ≤ (tm ts k).name.size := by
  have ho := tm_ok h hk
  unfold TmOk at ho
  cases k with
  | zero => exact ⟨by simp only [tE, tS], by simp [tS], ho.1⟩
  | succ k =>
    have h1 := tE_lo h (k := k) (by omega)
    refine ⟨by simp only [tE, tS], ?_, ho.1⟩
    simp only [tS]
    omega
end

theorem sumsFrom_self (n : Nat) : sumsFrom n n = [.bin n] := by
  unfold sumsFrom
  rw [show n + 1 - n = 1 by omega]
  rfl
theorem sumsFrom_succ {i n : Nat} (h : i ≤ n + 1) : sumsFrom i (n + 1) = sumsFrom i n ++ [.bin (n + 1)] := by
  unfold sumsFrom
  rw [show n + 1 + 1 - i = (n + 1 - i) + 1 by omega, List.range'_concat, List.map_append, List.map_singleton]
  rw [show i + 1 * (n + 1 - i) = n + 1 by omega]
theorem sumsFrom_none {i n : Nat} (h : n < i) : sumsFrom i n = [] := by
  unfold sumsFrom
  rw [show n + 1 - i = 0 by omega]
  rfl

section
variable {ts : List Tm} (h : ∀ t ∈ ts, TmOk t)
include h

/-- From the sum up to the k-th term down to the term i. -/
theorem visSum_term {i : Nat} : ∀ {k : Nat} {a b : Int}, i ≤ k → k < ts.length → (1 ≤ i → tG ts i + 1 ≤ a) → a < tE ts i → tS ts i < b → (i < k → b ≤ tG ts (i + 1)) →
    visSum ts k a b = ((sumsFrom (max i 1) k).reverse ++ [.term i], true)
  | 0, a, b, hik, hk, hG, haE, hbS, hb1 => by
    obtain rfl : i = 0 := by omega
    rw [sumsFrom_none (by omega)]
    rfl
  | k + 1, a, b, hik, hk, hG, haE, hbS, hb1 => by
    have h1 := tE_lt h hk
    have h0 := tE_lo h (k := k) (by omega)
    simp only [visSum]
    by_cases e : i = k + 1
    · subst e
      have hG' := hG (by omega)
      have hs := tS_eq h hk
      obtain ⟨b', hb', q1, q2⟩ : ∃ b', min b (tE ts (k + 1)) = b' ∧ b' ≤ tE ts (k + 1) ∧ tS ts (k + 1) < b' := ⟨_, rfl, by omega, by omega⟩
      have ea : max a 18 = a := by omega
      rw [ea, hb', if_neg (by omega), if_neg (by omega), if_neg (by omega), if_neg (by omega), if_neg (by omega), if_neg (by omega)]
      rw [show max (k + 1) 1 = k + 1 by omega, sumsFrom_self]
      rfl
    · have hm := tE_mono h (i := i) (k := k) (by omega) (by omega)
      have hb' := hb1 (by omega)
      have hbk : b ≤ tG ts (k + 1) := by
        by_cases e2 : i = k
        · subst e2; exact hb'
        · have h2 := tE_lt h (k := i) (by omega)
          have h3 := tE_mono h (i := i + 1) (k := k) (by omega) (by omega)
          omega
      have hs := tS_eq h (k := i) (by omega)
      have eb : min b (tE ts (k + 1)) = b := by omega
      rw [eb, if_neg (by omega), if_pos (by omega)]
      have ih := visSum_term (i := i) (k := k) (a := max a 18) (b := b) (by omega) (by omega) (fun h => by have := hG h; omega) (by omega) (by omega) (fun _ => hb')
      rw [ih, sumsFrom_succ (by omega)]
      simp

/-- From the sum up to the k-th term down to the sum up to j, over which the interval goes. -/
theorem visSum_span {i j : Nat} : ∀ {k : Nat} {a b : Int}, i < j → j ≤ k → k < ts.length → a = tS ts i → b = tE ts j →
    visSum ts k a b = ((sumsFrom j k).reverse, decide (i = 0))
  | 0, a, b, hij, hjk, hk, ha, hb => by omega
  | k + 1, a, b, hij, hjk, hk, ha, hb => by
    have hall := h
    have h1 := tE_lt h hk
    have hs := tS_eq h (k := i) (by omega)
    have hm := tE_mono h (i := i) (k := k) (by omega) (by omega)
    have ea : max a 18 = a := by omega
    simp only [visSum]
    rw [ea]
    by_cases e : j = k + 1
    · subst e
      subst hb
      rw [show min (tE ts (k + 1)) (tE ts (k + 1)) = tE ts (k + 1) by omega, if_neg (by omega), if_neg (by omega), if_pos (by omega), sumsFrom_self]
      have : decide (a = 18 ∧ tE ts (k + 1) = tE ts (k + 1)) = decide (i = 0) := by
        rw [decide_eq_decide]
        constructor
        · rintro ⟨h, _⟩
          rcases Nat.eq_zero_or_pos i with e | e
          · exact e
          · obtain ⟨i', rfl⟩ : ∃ i', i = i' + 1 := ⟨i - 1, by omega⟩
            have h2 := tE_lt hall (k := i') (by omega)
            have h3 := tE_lo hall (k := i') (by omega)
            omega
        · intro e
          subst e
          exact ⟨ha, rfl⟩
      rw [this]
      rfl
    · have hm2 := tE_mono h (i := j) (k := k) (by omega) (by omega)
      have eb : min b (tE ts (k + 1)) = b := by omega
      rw [eb, if_neg (by omega), if_pos (by omega)]
      have ih := visSum_span (i := i) (j := j) (k := k) (a := a) (b := b) hij (by omega) (by omega) ha hb
      rw [ih, sumsFrom_succ (by omega)]
      simp

/-- From the sum up to the k-th term down to the sum up to i, at its sign. -/
theorem visSum_sign {i : Nat} : ∀ {k : Nat} {a b : Int}, 1 ≤ i → i ≤ k → k < ts.length → a = tG ts i → b = tG ts i + 1 →
    visSum ts k a b = ((sumsFrom i k).reverse, true)
  | 0, a, b, hi, hik, hk, ha, hb => by omega
  | k + 1, a, b, hi, hik, hk, ha, hb => by
    have h1 := tE_lt h hk
    have h0 := tE_lo h (k := k) (by omega)
    obtain ⟨i', rfl⟩ : ∃ i', i = i' + 1 := ⟨i - 1, by omega⟩
    have h2 := tE_lt h (k := i') (by omega)
    have h3 := tE_lo h (k := i') (by omega)
    have ea : max a 18 = a := by omega
    simp only [visSum]
    rw [ea]
    by_cases e : i' + 1 = k + 1
    · obtain rfl : i' = k := by omega
      have eb : min b (tE ts (i' + 1)) = b := by omega
      rw [eb, if_neg (by omega), if_neg (by omega), if_neg (by omega), if_neg (by omega), if_pos (by omega), sumsFrom_self]
      rfl
    · have hm2 := tE_mono h (i := i' + 1) (k := k) (by omega) (by omega)
      have eb : min b (tE ts (k + 1)) = b := by omega
      rw [eb, if_neg (by omega), if_pos (by omega)]
      have ih := visSum_sign (i := i' + 1) (k := k) (a := a) (b := b) hi (by omega) (by omega) ha hb
      rw [ih, sumsFrom_succ (by omega)]
      simp

omit h in
/-- From the file down to the sum. -/
theorem pathOf_sum {n : Nat} {a b : Int} (ha : 17 ≤ a) (hab : a < b) (hb : b ≤ tE ts n) (hb2 : 18 < b) :
    pathOf ts n a b = ((visSum ts n a b).1.reverse ++ above, (visSum ts n a b).2) := by
  unfold pathOf
  rw [if_pos (by omega), if_neg (by omega)]
  simp only [visFile]
  rw [show max a 0 = a by omega, show min b (tE ts n) = b by omega, if_neg (by omega), if_neg (by omega), if_neg (by omega), if_neg (by omega), if_neg (by omega), if_neg (by omega)]
  simp only [visDecl]
  rw [show max a 10 = a by omega, show min b (tE ts n) = b by omega, if_neg (by omega), if_neg (by omega), if_neg (by omega)]
  simp only [visSpec]
  rw [show max a 14 = a by omega, show min b (tE ts n) = b by omega, if_neg (by omega), if_neg (by omega), if_neg (by omega)]
  simp [above]

theorem path_term {n i : Nat} {a b : Int} (hn : n + 1 = ts.length) (hi : i ≤ n) (ha : (if i = 0 then 17 else tG ts i + 1) ≤ a) (ha2 : a ≤ tS ts i) (hb : tE ts i ≤ b) (hb2 : b ≤ if i = n then tE ts n else tG ts (i + 1)) :
    pathOf ts n a b = ([.term i] ++ sumsFrom (max i 1) n ++ above, true) := by
  have hs := tS_eq h (k := i) (by omega)
  have hm := tE_mono h (i := i) (k := n) hi (by omega)
  have hbn : b ≤ tE ts n := by
    by_cases e : i = n
    · rw [if_pos e] at hb2; exact hb2
    · rw [if_neg e] at hb2
      have h2 := tE_lt h (k := i) (by omega)
      have h3 := tE_mono h (i := i + 1) (k := n) (by omega) (by omega)
      omega
  have ha17 : 17 ≤ a := by
    by_cases e : i = 0
    · rw [if_pos e] at ha; exact ha
    · rw [if_neg e] at ha
      obtain ⟨i', rfl⟩ : ∃ i', i = i' + 1 := ⟨i - 1, by omega⟩
      have h2 := tE_lt h (k := i') (by omega)
      have h3 := tE_lo h (k := i') (by omega)
      omega
  rw [pathOf_sum ha17 (by omega) hbn (by omega), visSum_term h (i := i) hi (by omega) (fun h => by rwa [if_neg (by omega)] at ha) (by omega) (by omega) (fun h => by rwa [if_neg (by omega)] at hb2)]
  simp

theorem path_within {n i : Nat} {a b : Int} (hn : n + 1 = ts.length) (hi : i ≤ n) (ha : tS ts i ≤ a) (ha2 : a < tE ts i) (hab : a ≤ b) (hb2 : b ≤ tE ts i) :
    (pathOf ts n a b).1 = [.term i] ++ sumsFrom (max i 1) n ++ above := by
  have hs := tS_eq h (k := i) (by omega)
  have hm := tE_mono h (i := i) (k := n) hi (by omega)
  have key : ∀ b : Int, a < b → b ≤ tE ts i → (pathOf ts n a b).1 = [.term i] ++ sumsFrom (max i 1) n ++ above := by
    intro b hab hb2
    rw [pathOf_sum (by omega) (by omega) (by omega) (by omega), visSum_term h (i := i) hi (by omega) (fun hi1 => by
      obtain ⟨i', rfl⟩ : ∃ i', i = i' + 1 := ⟨i - 1, by omega⟩
      have h2 := tE_lt h (k := i') (by omega)
      omega) (by omega) (by omega) (fun hlt => by
      have h2 := tE_lt h (k := i) (by omega)
      omega)]
    simp
  by_cases e : a = b
  · subst e
    rw [path_point (by omega) (by omega)]
    exact key (a + 1) (by omega) (by omega)
  · exact key b (by omega) hb2

theorem path_span {n i j : Nat} (hn : n + 1 = ts.length) (hij : i < j) (hj : j ≤ n) :
    pathOf ts n (tS ts i) (tE ts j) = (sumsFrom j n ++ above, decide (i = 0)) := by
  have hs := tS_eq h (k := i) (by omega)
  have hm := tE_mono h (i := i) (k := j) (by omega) (by omega)
  have hm2 := tE_mono h (i := j) (k := n) hj (by omega)
  rw [pathOf_sum (by omega) (by omega) hm2 (by omega), visSum_span h hij hj (by omega) rfl rfl]
  simp

theorem path_sign {n i : Nat} (hn : n + 1 = ts.length) (hi : 1 ≤ i) (hin : i ≤ n) :
    (pathOf ts n (tG ts i) (tG ts i + 1)).1 = sumsFrom i n ++ above := by
  obtain ⟨i', rfl⟩ : ∃ i', i = i' + 1 := ⟨i - 1, by omega⟩
  have h2 := tE_lt h (k := i') (by omega)
  have h3 := tE_lo h (k := i') (by omega)
  have hm2 := tE_mono h (i := i' + 1) (k := n) hin (by omega)
  rw [pathOf_sum (by omega) (by omega) (by omega) (by omega), visSum_sign h hi hin (by omega) rfl rfl]
  simp

/-! nodes lie within each other -/
def plo (ts : List Tm) : PN → Int
  | .file => 0 | .decl => 10 | .spec => 14 | .pkg => 8 | .var => 14 | .bin _ => 18 | .term k => tS ts k
def phi (ts : List Tm) (n : Nat) : PN → Int
  | .file => tE ts n | .decl => tE ts n | .spec => tE ts n | .pkg => 9 | .var => 15 | .bin k => tE ts k | .term k => tE ts k
/-- from the greatest one down -/
def Nested (ts : List Tm) (n : Nat) : List PN → Prop
  | [] => True
  | [_] => True
  | x :: y :: l => plo ts x ≤ plo ts y ∧ phi ts n y ≤ phi ts n x ∧ Nested ts n (y :: l)
omit h in
theorem Nested.cons {n : Nat} {x : PN} {l : List PN} (h : Nested ts n l) (hx : ∀ y, l.head? = some y → plo ts x ≤ plo ts y ∧ phi ts n y ≤ phi ts n x) : Nested ts n (x :: l) := by
  cases l with
  | nil => trivial
  | cons y l =>
    obtain ⟨h1, h2⟩ := hx y rfl
    exact ⟨h1, h2, h⟩
theorem visSum_nested {n : Nat} : ∀ {k : Nat} {a b : Int}, k < ts.length → Nested ts n (visSum ts k a b).1 ∧ ∃ y, (visSum ts k a b).1.head? = some y ∧ plo ts y = 18 ∧ phi ts n y = tE ts k
  | 0, a, b, hk => ⟨trivial, .term 0, rfl, rfl, rfl⟩
  | k + 1, a, b, hk => by
    have h1 := tE_lt h hk
    have hs := tS_eq h hk
    simp only [visSum]
    split
    · exact ⟨trivial, _, rfl, rfl, rfl⟩
    split
    · obtain ⟨i1, y, i2, i3, i4⟩ := visSum_nested (n := n) (k := k) (a := max a 18) (b := min b (tE ts (k + 1))) (by omega)
      refine ⟨Nested.cons i1 fun z hz => ?_, _, rfl, rfl, rfl⟩
      rw [i2] at hz
      cases hz
      simp only [plo, phi] at *
      omega
    split
    · exact ⟨trivial, _, rfl, rfl, rfl⟩
    split
    · exact ⟨trivial, _, rfl, rfl, rfl⟩
    split
    · exact ⟨trivial, _, rfl, rfl, rfl⟩
    split
    · exact ⟨trivial, _, rfl, rfl, rfl⟩
    · refine ⟨⟨?_, ?_, trivial⟩, _, rfl, rfl, rfl⟩
      · simp only [plo]; omega
      · simp only [phi]; exact Int.le_refl _
theorem visSpec_nested {n : Nat} {a b : Int} (hn : n < ts.length) : Nested ts n (visSpec ts n a b).1 ∧ ∃ y, (visSpec ts n a b).1.head? = some y ∧ plo ts y = 14 ∧ phi ts n y = tE ts n := by
  have h0 := tE_lo h hn
  simp only [visSpec]
  split
  · exact ⟨trivial, _, rfl, rfl, rfl⟩
  split
  · exact ⟨⟨by simp [plo], by simp only [phi]; omega, trivial⟩, _, rfl, rfl, rfl⟩
  split
  · exact ⟨trivial, _, rfl, rfl, rfl⟩
  · obtain ⟨i1, y, i2, i3, i4⟩ := visSum_nested h (n := n) (k := n) (a := max a 14) (b := min b (tE ts n)) hn
    refine ⟨Nested.cons i1 fun z hz => ?_, _, rfl, rfl, rfl⟩
    rw [i2] at hz
    cases hz
    simp only [plo, phi] at *
    omega
theorem visDecl_nested {n : Nat} {a b : Int} (hn : n < ts.length) : Nested ts n (visDecl ts n a b).1 ∧ ∃ y, (visDecl ts n a b).1.head? = some y ∧ plo ts y = 10 ∧ phi ts n y = tE ts n := by
  simp only [visDecl]
  split
  · exact ⟨trivial, _, rfl, rfl, rfl⟩
  split
  · exact ⟨trivial, _, rfl, rfl, rfl⟩
  split
  · exact ⟨trivial, _, rfl, rfl, rfl⟩
  · obtain ⟨i1, y, i2, i3, i4⟩ := visSpec_nested h (n := n) (a := max a 10) (b := min b (tE ts n)) hn
    refine ⟨Nested.cons i1 fun z hz => ?_, _, rfl, rfl, rfl⟩
    rw [i2] at hz
    cases hz
    simp only [plo, phi] at *
    omega
theorem visFile_nested {n : Nat} {a b : Int} (hn : n < ts.length) : Nested ts n (visFile ts n a b).1 ∧ (visFile ts n a b).1.head? = some .file := by
  have h0 := tE_lo h hn
  simp only [visFile]
  split
  · exact ⟨trivial, rfl⟩
  split
  · exact ⟨trivial, rfl⟩
  split
  · exact ⟨trivial, rfl⟩
  split
  · exact ⟨trivial, rfl⟩
  split
  · exact ⟨⟨by simp [plo], by simp only [phi]; omega, trivial⟩, rfl⟩
  split
  · exact ⟨trivial, rfl⟩
  · obtain ⟨i1, y, i2, i3, i4⟩ := visDecl_nested h (n := n) (a := max a 0) (b := min b (tE ts n)) hn
    refine ⟨Nested.cons i1 fun z hz => ?_, rfl⟩
    rw [i2] at hz
    cases hz
    simp only [plo, phi] at *
    omega
omit h in
theorem Nested.get {n : Nat} : ∀ {l : List PN} (_ : Nested ts n l) {i : Nat} {x y : PN}, l[i]? = some x → l[i + 1]? = some y → plo ts x ≤ plo ts y ∧ phi ts n y ≤ phi ts n x
  | [], _, i, x, y, hx, _ => by simp at hx
  | [_], _, i, x, y, hx, hy => by simp at hy
  | u :: v :: l, hn, 0, x, y, hx, hy => by
    simp at hx hy
    subst hx; subst hy
    exact ⟨hn.1, hn.2.1⟩
  | u :: v :: l, hn, i + 1, x, y, hx, hy => Nested.get hn.2.2 (i := i) (by simpa using hx) (by simpa using hy)
/-- Each node on a path lies within the next one, and the last one is the file. -/
theorem pathOf_nests {n : Nat} {a b : Int} (hn : n < ts.length) : (∀ i x y, (pathOf ts n a b).1[i]? = some x → (pathOf ts n a b).1[i + 1]? = some y → plo ts y ≤ plo ts x ∧ phi ts n x ≤ phi ts n y) ∧
    ∃ l, (pathOf ts n a b).1 = l ++ [.file] := by
  unfold pathOf
  split
  · obtain ⟨h1, h2⟩ := visFile_nested h (n := n) (a := a) (b := if a = b then a + 1 else b) hn
    generalize visFile ts n a (if a = b then a + 1 else b) = r at h1 h2
    obtain ⟨l, e⟩ := r
    simp only at h1 h2 ⊢
    refine ⟨fun i x y hx hy => ?_, ?_⟩
    · have hy1 : i + 1 < l.length := by
        rcases Nat.lt_or_ge (i + 1) l.length with h | h
        · exact h
        · rw [List.getElem?_eq_none (by simpa using h)] at hy; cases hy
      rw [List.getElem?_reverse (by omega)] at hx
      rw [List.getElem?_reverse hy1] at hy
      have := Nested.get h1 (i := l.length - 1 - (i + 1)) (x := y) (y := x) hy (by rw [show l.length - 1 - (i + 1) + 1 = l.length - 1 - i by omega]; exact hx)
      exact this
    · cases l with
      | nil => cases h2
      | cons x l =>
        simp at h2
        subst h2
        exact ⟨l.reverse, by simp⟩
  · exact ⟨fun i x y hx hy => by simp at hy, [], rfl⟩
end

/-! what the walk of a node sees: its children, tokens among them -/
structure Kid where
  lo : Int
  hi : Int
  node : Option PN
def sumN : Nat → PN
  | 0 => .term 0
  | k + 1 => .bin (k + 1)
def kidsOf (ts : List Tm) (n : Nat) : PN → List Kid
  | .file => [⟨0, 7, none⟩, ⟨8, 9, some .pkg⟩, ⟨10, tE ts n, some .decl⟩]
  | .decl => [⟨10, 13, none⟩, ⟨14, tE ts n, some .spec⟩]
  | .spec => [⟨14, 15, some .var⟩, ⟨18, tE ts n, some (sumN n)⟩]
  | .bin (k + 1) => [⟨18, tE ts k, some (sumN k)⟩, ⟨tG ts (k + 1), tG ts (k + 1) + 1, none⟩, ⟨tS ts (k + 1), tE ts (k + 1), some (.term (k + 1))⟩]
  | .bin 0 => []
  | .pkg => [⟨8, 9, none⟩]
  | .var => [⟨14, 15, none⟩]
  | .term k => [⟨tS ts k, tE ts k, none⟩]
inductive Out where
  | stop (r : Bool)
  | go (x : PN)
  | rest
/-- One child: what it answers, if anything. -/
def look (a b aug augEnd hi : Int) (node : Option PN) : Option Out :=
  if aug ≤ a ∧ b ≤ augEnd then some (match node with | none => .stop true | some x => .go x)
  else if a < hi ∧ b > augEnd then some .rest
  else none
/-- The loop over the children, from one on: the one ahead of it ended at prev. -/
def scan (a b : Int) : Option Int → List Kid → Out
  | _, [] => .rest
  | prev, [c] => (look a b (prev.getD c.lo) c.hi c.hi c.node).getD .rest
  | prev, c :: d :: l => if c.hi ≤ a ∧ b ≤ d.lo then .stop false else (look a b (prev.getD c.lo) d.lo c.hi c.node).getD (scan a b (some c.hi) (d :: l))
/-- A node that is visited with an interval: the path below it, and what it answers. -/
inductive Vis (ts : List Tm) (n : Nat) : PN → Int → Int → List PN → Bool → Prop
  | stop {x : PN} {a b : Int} {r : Bool} (h : scan (max a (plo ts x)) (min b (phi ts n x)) none (kidsOf ts n x) = .stop r) : Vis ts n x a b [x] r
  | rest {x : PN} {a b : Int} (h : scan (max a (plo ts x)) (min b (phi ts n x)) none (kidsOf ts n x) = .rest) : Vis ts n x a b [x] (decide (max a (plo ts x) = plo ts x ∧ min b (phi ts n x) = phi ts n x))
  | go {x y : PN} {a b : Int} {l : List PN} {r : Bool} (h : scan (max a (plo ts x)) (min b (phi ts n x)) none (kidsOf ts n x) = .go y) (hy : Vis ts n y (max a (plo ts x)) (min b (phi ts n x)) l r) : Vis ts n x a b (x :: l) r

theorem vis_leaf {ts : List Tm} {n : Nat} {x : PN} {a b : Int} (h : kidsOf ts n x = [⟨plo ts x, phi ts n x, none⟩]) : Vis ts n x a b [x] true := by
  refine Vis.stop ?_
  rw [h]
  simp only [scan, look, Option.getD_none]
  rw [if_pos (by omega)]
  rfl
section
variable {ts : List Tm} (h : ∀ t ∈ ts, TmOk t)
include h
theorem vis_sum {n : Nat} : ∀ {k : Nat} {a b : Int}, k < ts.length → Vis ts n (sumN k) a b (visSum ts k a b).1 (visSum ts k a b).2
  | 0, a, b, hk => vis_leaf rfl
  | k + 1, a, b, hk => by
    have h1 := tE_lt h hk
    have h0 := tE_lo h (k := k) (by omega)
    have eqn : ∀ o, scan (max a 18) (min b (tE ts (k + 1))) none (kidsOf ts n (.bin (k + 1))) = o → scan (max a (plo ts (.bin (k + 1)))) (min b (phi ts n (.bin (k + 1)))) none (kidsOf ts n (.bin (k + 1))) = o := fun o h => h
    simp only [visSum]
    generalize ea : max a 18 = a' at eqn ⊢
    generalize eb : min b (tE ts (k + 1)) = b' at eqn ⊢
    simp only [kidsOf, scan, look, Option.getD_none, Option.getD_some] at eqn
    by_cases c1 : tE ts k ≤ a' ∧ b' ≤ tG ts (k + 1)
    · rw [if_pos c1]
      exact Vis.stop (eqn _ (by rw [if_pos c1]))
    · rw [if_neg c1]
      by_cases c2 : b' ≤ tG ts (k + 1)
      · rw [if_pos c2]
        refine Vis.go (eqn _ (by rw [if_neg c1, if_pos (by omega)]; rfl)) ?_
        show Vis ts n (sumN k) (max a 18) (min b (tE ts (k + 1))) _ _
        rw [ea, eb]
        exact vis_sum (by omega)
      · rw [if_neg c2]
        have fin : decide (a' = 18 ∧ b' = tE ts (k + 1)) = decide (max a (plo ts (.bin (k + 1))) = plo ts (.bin (k + 1)) ∧ min b (phi ts n (.bin (k + 1))) = phi ts n (.bin (k + 1))) := by
          rw [decide_eq_decide]
          simp only [plo, phi]
          rw [ea, eb]
        by_cases c3 : a' < tE ts k
        · rw [if_pos c3, fin]
          exact Vis.rest (eqn _ (by rw [if_neg c1, if_neg (by omega), if_pos (by omega)]; rfl))
        · rw [if_neg c3]
          by_cases c4 : tG ts (k + 1) + 1 ≤ a' ∧ b' ≤ tS ts (k + 1)
          · rw [if_pos c4]
            exact Vis.stop (eqn _ (by rw [if_neg c1, if_neg (by omega), if_neg (by omega), if_pos c4]; rfl))
          · rw [if_neg c4]
            by_cases c5 : b' ≤ tS ts (k + 1)
            · rw [if_pos c5]
              exact Vis.stop (eqn _ (by rw [if_neg c1, if_neg (by omega), if_neg (by omega), if_neg c4, if_pos (by omega)]; rfl))
            · rw [if_neg c5]
              by_cases c6 : a' < tG ts (k + 1) + 1
              · rw [if_pos c6, fin]
                exact Vis.rest (eqn _ (by rw [if_neg c1, if_neg (by omega), if_neg (by omega), if_neg c4, if_neg (by omega), if_pos (by omega)]; rfl))
              · rw [if_neg c6]
                refine Vis.go (eqn _ (by rw [if_neg c1, if_neg (by omega), if_neg (by omega), if_neg c4, if_neg (by omega), if_neg (by omega), if_pos (by omega)]; rfl)) ?_
                exact vis_leaf rfl
theorem vis_spec {n : Nat} {a b : Int} (hn : n < ts.length) : Vis ts n .spec a b (visSpec ts n a b).1 (visSpec ts n a b).2 := by
  have h0 := tE_lo h hn
  have eqn : ∀ o, scan (max a 14) (min b (tE ts n)) none (kidsOf ts n .spec) = o → scan (max a (plo ts .spec)) (min b (phi ts n .spec)) none (kidsOf ts n .spec) = o := fun o h => h
  simp only [visSpec]
  generalize ea : max a 14 = a' at eqn ⊢
  generalize eb : min b (tE ts n) = b' at eqn ⊢
  simp only [kidsOf, scan, look, Option.getD_none, Option.getD_some] at eqn
  by_cases c1 : 15 ≤ a' ∧ b' ≤ 18
  · rw [if_pos c1]
    exact Vis.stop (eqn _ (by rw [if_pos c1]))
  · rw [if_neg c1]
    by_cases c2 : b' ≤ 18
    · rw [if_pos c2]
      exact Vis.go (eqn _ (by rw [if_neg c1, if_pos (by omega)]; rfl)) (vis_leaf rfl)
    · rw [if_neg c2]
      by_cases c3 : a' < 15
      · rw [if_pos c3]
        have fin : decide (a' = 14 ∧ b' = tE ts n) = decide (max a (plo ts .spec) = plo ts .spec ∧ min b (phi ts n .spec) = phi ts n .spec) := by
          rw [decide_eq_decide]
          simp only [plo, phi]
          rw [ea, eb]
        rw [fin]
        exact Vis.rest (eqn _ (by rw [if_neg c1, if_neg (by omega), if_pos (by omega)]; rfl))
      · rw [if_neg c3]
        refine Vis.go (eqn _ (by rw [if_neg c1, if_neg (by omega), if_neg (by omega), if_pos (by omega)]; rfl)) ?_
        simp only [plo, phi]
        rw [ea, eb]
        exact vis_sum h hn
theorem vis_decl {n : Nat} {a b : Int} (hn : n < ts.length) : Vis ts n .decl a b (visDecl ts n a b).1 (visDecl ts n a b).2 := by
  have h0 := tE_lo h hn
  have eqn : ∀ o, scan (max a 10) (min b (tE ts n)) none (kidsOf ts n .decl) = o → scan (max a (plo ts .decl)) (min b (phi ts n .decl)) none (kidsOf ts n .decl) = o := fun o h => h
  simp only [visDecl]
  generalize ea : max a 10 = a' at eqn ⊢
  generalize eb : min b (tE ts n) = b' at eqn ⊢
  simp only [kidsOf, scan, look, Option.getD_none, Option.getD_some] at eqn
  by_cases c1 : 13 ≤ a' ∧ b' ≤ 14
  · rw [if_pos c1]
    exact Vis.stop (eqn _ (by rw [if_pos c1]))
  · rw [if_neg c1]
    by_cases c2 : b' ≤ 14
    · rw [if_pos c2]
      exact Vis.stop (eqn _ (by rw [if_neg c1, if_pos (by omega)]; rfl))
    · rw [if_neg c2]
      by_cases c3 : a' < 13
      · rw [if_pos c3]
        have fin : decide (a' = 10 ∧ b' = tE ts n) = decide (max a (plo ts .decl) = plo ts .decl ∧ min b (phi ts n .decl) = phi ts n .decl) := by
          rw [decide_eq_decide]
          simp only [plo, phi]
          rw [ea, eb]
        rw [fin]
        exact Vis.rest (eqn _ (by rw [if_neg c1, if_neg (by omega), if_pos (by omega)]; rfl))
      · rw [if_neg c3]
        refine Vis.go (eqn _ (by rw [if_neg c1, if_neg (by omega), if_neg (by omega), if_pos (by omega)]; rfl)) ?_
        simp only [plo, phi]
        rw [ea, eb]
        exact vis_spec h hn
theorem vis_file {n : Nat} {a b : Int} (hn : n < ts.length) : Vis ts n .file a b (visFile ts n a b).1 (visFile ts n a b).2 := by
  have h0 := tE_lo h hn
  have eqn : ∀ o, scan (max a 0) (min b (tE ts n)) none (kidsOf ts n .file) = o → scan (max a (plo ts .file)) (min b (phi ts n .file)) none (kidsOf ts n .file) = o := fun o h => h
  simp only [visFile]
  generalize ea : max a 0 = a' at eqn ⊢
  generalize eb : min b (tE ts n) = b' at eqn ⊢
  simp only [kidsOf, scan, look, Option.getD_none, Option.getD_some] at eqn
  have fin : decide (a' = 0 ∧ b' = tE ts n) = decide (max a (plo ts .file) = plo ts .file ∧ min b (phi ts n .file) = phi ts n .file) := by
    rw [decide_eq_decide]
    simp only [plo, phi]
    rw [ea, eb]
  by_cases c1 : 7 ≤ a' ∧ b' ≤ 8
  · rw [if_pos c1]
    exact Vis.stop (eqn _ (by rw [if_pos c1]))
  · rw [if_neg c1]
    by_cases c2 : b' ≤ 8
    · rw [if_pos c2]
      exact Vis.stop (eqn _ (by rw [if_neg c1, if_pos (by omega)]; rfl))
    · rw [if_neg c2]
      by_cases c3 : a' < 7
      · rw [if_pos c3, fin]
        exact Vis.rest (eqn _ (by rw [if_neg c1, if_neg (by omega), if_pos (by omega)]; rfl))
      · rw [if_neg c3]
        by_cases c4 : 9 ≤ a' ∧ b' ≤ 10
        · rw [if_pos c4]
          exact Vis.stop (eqn _ (by rw [if_neg c1, if_neg (by omega), if_neg (by omega), if_pos c4]; rfl))
        · rw [if_neg c4]
          by_cases c5 : b' ≤ 10
          · rw [if_pos c5]
            exact Vis.go (eqn _ (by rw [if_neg c1, if_neg (by omega), if_neg (by omega), if_neg c4, if_pos (by omega)]; rfl)) (vis_leaf rfl)
          · rw [if_neg c5]
            by_cases c6 : a' < 9
            · rw [if_pos c6, fin]
              exact Vis.rest (eqn _ (by rw [if_neg c1, if_neg (by omega), if_neg (by omega), if_neg c4, if_neg (by omega), if_pos (by omega)]; rfl))
            · rw [if_neg c6]
              refine Vis.go (eqn _ (by rw [if_neg c1, if_neg (by omega), if_neg (by omega), if_neg c4, if_neg (by omega), if_neg (by omega), if_pos (by omega)]; rfl)) ?_
              simp only [plo, phi]
              rw [ea, eb]
              exact vis_decl h hn
end
end Go.Proofs.YtakigggbecibmaaGreatFmt
