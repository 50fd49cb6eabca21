/-
  The plain part: the DER text of a 64-byte signature tells the signature. No Go in sight.
-/
namespace Go.Proofs.Qxb6600187a.inj

/-- 'xs' is the INTEGER that stands for the 32 bytes 'half': the tag, the length, a zero byte where 'hb' says so of the first byte that is left, the bytes behind the leading zeros (at least one). -/
def IsInt (hb : Int → Bool) (half xs : List Int) : Prop :=
  ∃ j L : Nat, L + j = 32 ∧ 1 ≤ L ∧ (∀ i, i < j → half.getD i 0 = 0) ∧ (L = 1 ∨ half.getD j 0 ≠ 0) ∧
    xs = if hb (half.getD j 0) then 2 :: ((L : Int) + 1) :: 0 :: half.drop j else 2 :: (L : Int) :: half.drop j

theorem IsInt.length {hb : Int → Bool} {half xs : List Int} (h : IsInt hb half xs) (hl : half.length = 32) : xs.length ≤ 35 := by
  obtain ⟨j, L, h1, h2, _, _, rfl⟩ := h
  split <;> simp [hl] <;> omega

/-- Two halves whose ends from j on agree, all zero ahead of it, are one. -/
theorem half_eq {h1 h2 : List Int} (j : Nat) (l1 : h1.length = 32) (l2 : h2.length = 32) (z1 : ∀ i, i < j → h1.getD i 0 = 0) (z2 : ∀ i, i < j → h2.getD i 0 = 0) (hd : h1.drop j = h2.drop j) : h1 = h2 := by
  apply List.ext_getElem?
  intro i
  by_cases hi : i < j
  · by_cases hl : i < 32
    · have a := z1 i hi
      have b := z2 i hi
      simp only [List.getD_eq_getElem?_getD] at a b
      rw [List.getElem?_eq_getElem (by omega)] at a ⊢
      rw [List.getElem?_eq_getElem (by omega)] at b ⊢
      simp only [Option.getD_some] at a b
      rw [a, b]
    · rw [List.getElem?_eq_none (by omega), List.getElem?_eq_none (by omega)]
  · have := congrArg (fun l => l[i - j]?) hd
    simp only [List.getElem?_drop] at this
    rw [show j + (i - j) = i by omega] at this
    exact this

theorem drop_head {h : List Int} {j : Nat} (hj : j < h.length) : h.drop j = h.getD j 0 :: h.drop (j + 1) := by
  rw [List.drop_eq_getElem_cons hj]
  simp [List.getD_eq_getElem?_getD, hj]

theorem int_inj {hb : Int → Bool} {h1 h2 x1 x2 r1 r2 : List Int} (l1 : h1.length = 32) (l2 : h2.length = 32) (k1 : IsInt hb h1 x1) (k2 : IsInt hb h2 x2) (he : x1 ++ r1 = x2 ++ r2) : h1 = h2 ∧ r1 = r2 := by
  obtain ⟨j1, L1, a1, b1, c1, d1, rfl⟩ := k1
  obtain ⟨j2, L2, a2, b2, c2, d2, rfl⟩ := k2
  have e1 : (h1.drop j1).length = L1 := by simp [l1]; omega
  have e2 : (h2.drop j2).length = L2 := by simp [l2]; omega
  by_cases t1 : hb (h1.getD j1 0) = true <;> by_cases t2 : hb (h2.getD j2 0) = true
  · simp only [t1, t2, if_true, List.cons_append, List.cons.injEq, true_and] at he
    obtain ⟨f1, f2⟩ := he
    have hL : L1 = L2 := by omega
    subst hL
    have hj : j1 = j2 := by omega
    subst hj
    obtain ⟨g1, g2⟩ := List.append_inj f2 (by omega)
    exact ⟨half_eq j1 l1 l2 c1 c2 g1, g2⟩
  · simp only [t1, t2, if_true, Bool.false_eq_true, if_false, List.cons_append, List.cons.injEq, true_and] at he
    obtain ⟨f1, f2⟩ := he
    exfalso
    rw [drop_head (h := h2) (j := j2) (by omega)] at f2
    simp only [List.cons_append, List.cons.injEq] at f2
    rcases d2 with d2 | d2
    · omega
    · exact d2 f2.1.symm
  · simp only [t1, t2, if_true, Bool.false_eq_true, if_false, List.cons_append, List.cons.injEq, true_and] at he
    obtain ⟨f1, f2⟩ := he
    exfalso
    rw [drop_head (h := h1) (j := j1) (by omega)] at f2
    simp only [List.cons_append, List.cons.injEq] at f2
    rcases d1 with d1 | d1
    · omega
    · exact d1 f2.1
  · simp only [t1, t2, Bool.false_eq_true, if_false, List.cons_append, List.cons.injEq, true_and] at he
    obtain ⟨f1, f2⟩ := he
    have hL : L1 = L2 := by omega
    subst hL
    have hj : j1 = j2 := by omega
    subst hj
    obtain ⟨g1, g2⟩ := List.append_inj f2 (by omega)
    exact ⟨half_eq j1 l1 l2 c1 c2 g1, g2⟩

theorem int_one {hb : Int → Bool} {h x1 x2 : List Int} (k1 : IsInt hb h x1) (k2 : IsInt hb h x2) : x1 = x2 := by
  obtain ⟨j1, L1, a1, b1, c1, d1, rfl⟩ := k1
  obtain ⟨j2, L2, a2, b2, c2, d2, rfl⟩ := k2
  have hj : j1 = j2 := by
    rcases Nat.lt_trichotomy j1 j2 with h | h | h
    · exfalso
      rcases d1 with d1 | d1
      · omega
      · exact d1 (c2 j1 h)
    · exact h
    · exfalso
      rcases d2 with d2 | d2
      · omega
      · exact d2 (c1 j2 h)
  subst hj
  have hL : L1 = L2 := by omega
  subst hL
  rfl

/-- 'xs' is the whole text for the signature Z. -/
def IsDer (hb : Int → Bool) (Z xs : List Int) : Prop :=
  ∃ (x1 x2 : List Int) (n : Int), IsInt hb (Z.take 32) x1 ∧ IsInt hb (Z.drop 32) x2 ∧ n = ((x1 ++ x2).length : Int) ∧ xs = 48 :: n :: (x1 ++ x2)

theorem der_inj {hb : Int → Bool} {A B xs ys : List Int} (la : A.length = 64) (lb : B.length = 64) (ha : IsDer hb A xs) (hB : IsDer hb B ys) : xs = ys ↔ A = B := by
  obtain ⟨x1, x2, n, p1, p2, hn, rfl⟩ := ha
  obtain ⟨y1, y2, m, q1, q2, hm, rfl⟩ := hB
  constructor
  · intro h
    simp only [List.cons.injEq, true_and] at h
    obtain ⟨e1, e2⟩ := int_inj (by simp [la]) (by simp [lb]) p1 q1 h.2
    have e3 := int_inj (r1 := []) (r2 := []) (by simp [la]) (by simp [lb]) p2 q2 (by rw [e2])
    rw [← List.take_append_drop 32 A, ← List.take_append_drop 32 B, e1, e3.1]
  · intro h
    subst h
    rw [int_one p1 q1, int_one p2 q2] at hn ⊢
    rw [hn, hm]

end Go.Proofs.Qxb6600187a.inj
