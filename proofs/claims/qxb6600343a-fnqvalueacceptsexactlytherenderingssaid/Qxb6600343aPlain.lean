/-
  The plain part: which weights are renderings, over the numbers of their bytes. No Go in sight.
-/
namespace Go.Proofs.Qxb6600343a.qv

/-- The digit at place i; 0 where the weight has ended. -/
def dig (n : Nat) (B : Nat → Int) (i : Nat) : Int := if i < n then B i - 48 else 0
def isDig (n : Nat) (B : Nat → Int) (i : Nat) : Prop := i < n → 48 ≤ B i ∧ B i ≤ 57
/-- The thousandths behind the dot. -/
def tho (n : Nat) (B : Nat → Int) : Int := 100 * dig n B 4 + 10 * dig n B 5 + dig n B 6
/-- What qvalue accepts. -/
def Good (n : Nat) (B : Nat → Int) : Prop :=
  3 ≤ n ∧ n ≤ 7 ∧ (B 0 = 113 ∨ B 0 = 81) ∧ B 1 = 61 ∧ (B 2 = 48 ∨ B 2 = 49) ∧ (3 < n → B 3 = 46) ∧ isDig n B 4 ∧ isDig n B 5 ∧ isDig n B 6 ∧ (B 2 = 49 → tho n B = 0)
/-- .. and its answer. -/
def val (n : Nat) (B : Nat → Int) : Int := (B 2 - 48) * 1000 + tho n B

/-- The letter of the rendering. -/
def letter (b : Int) : Int := if b = 81 then 81 else 113
/-- The bytes of the rendering of c. -/
def buf (q c : Int) : Nat → Int
  | 0 => q
  | 1 => 61
  | 2 => 48 + c / 1000
  | 3 => 46
  | 4 => 48 + c % 1000 / 100
  | 5 => 48 + c % 1000 / 10 % 10
  | _ => 48 + c % 10
def drop (n : Nat) : Int := if n = 5 then 100 else if n = 6 then 10 else if n = 7 then 1 else 1000
/-- The weight is the rendering of c. -/
def Rend (n : Nat) (B : Nat → Int) (q c : Int) : Prop := c % 1000 % drop n = 0 ∧ ∀ i, i < n → buf q c i = B i

theorem rend_iff {n : Nat} {B : Nat → Int} {c : Int} (h3 : 3 ≤ n) (h7 : n ≤ 7) (h0 : 0 ≤ c) (h1 : c ≤ 1000) : Rend n B (letter (B 0)) c ↔ Good n B ∧ c = val n B := by
  rcases (show n = 3 ∨ n = 4 ∨ n = 5 ∨ n = 6 ∨ n = 7 by omega) with rfl | rfl | rfl | rfl | rfl
  · constructor
    · rintro ⟨hd, h⟩
      have e0 := h 0 (by omega)
      have e1 := h 1 (by omega)
      have e2 := h 2 (by omega)
      simp only [buf, drop, letter] at e0 e1 e2 hd
      refine ⟨⟨by omega, by omega, ?_, by omega, by omega, by omega, fun h => by omega, fun h => by omega, fun h => by omega, fun h => by simp [tho, dig]⟩, ?_⟩
      · split at e0 <;> omega
      · simp [val, tho, dig]; simp at hd; omega
    · rintro ⟨⟨_, _, g0, g1, g2, g3, _, _, _, g7⟩, hv⟩
      simp only [val, tho, dig] at hv g7
      refine ⟨by simp [drop]; simp at hv; omega, fun i hi => ?_⟩
      rcases (show i = 0 ∨ i = 1 ∨ i = 2 by omega) with rfl | rfl | rfl
      · simp only [buf, letter]; split <;> omega
      · simp only [buf]; omega
      · simp only [buf]; simp at hv; omega
  · constructor
    · rintro ⟨hd, h⟩
      have e0 := h 0 (by omega)
      have e1 := h 1 (by omega)
      have e2 := h 2 (by omega)
      have e3 := h 3 (by omega)
      simp only [buf, drop, letter] at e0 e1 e2 e3 hd
      refine ⟨⟨by omega, by omega, ?_, by omega, by omega, by omega, fun h => by omega, fun h => by omega, fun h => by omega, fun h => by simp [tho, dig]⟩, ?_⟩
      · split at e0 <;> omega
      · simp [val, tho, dig]; simp at hd; omega
    · rintro ⟨⟨_, _, g0, g1, g2, g3, _, _, _, g7⟩, hv⟩
      simp only [val, tho, dig] at hv g7
      refine ⟨by simp [drop]; simp at hv; omega, fun i hi => ?_⟩
      rcases (show i = 0 ∨ i = 1 ∨ i = 2 ∨ i = 3 by omega) with rfl | rfl | rfl | rfl
      · simp only [buf, letter]; split <;> omega
      · simp only [buf]; omega
      · simp only [buf]; simp at hv; omega
      · simp only [buf]; omega
  · constructor
    · rintro ⟨hd, h⟩
      have e0 := h 0 (by omega)
      have e1 := h 1 (by omega)
      have e2 := h 2 (by omega)
      have e3 := h 3 (by omega)
      have e4 := h 4 (by omega)
      simp only [buf, drop, letter] at e0 e1 e2 e3 e4 hd
      refine ⟨⟨by omega, by omega, ?_, by omega, by omega, by omega, fun h => by omega, fun h => by omega, fun h => by omega, fun h => ?_⟩, ?_⟩
      · split at e0 <;> omega
      · simp [tho, dig]; omega
      · simp [val, tho, dig]; simp at hd; omega
    · rintro ⟨⟨_, _, g0, g1, g2, g3, g4, _, _, g7⟩, hv⟩
      have d4 := g4 (by omega)
      simp [val, tho, dig] at hv g7
      refine ⟨by simp [drop]; omega, fun i hi => ?_⟩
      rcases (show i = 0 ∨ i = 1 ∨ i = 2 ∨ i = 3 ∨ i = 4 by omega) with rfl | rfl | rfl | rfl | rfl
      · simp only [buf, letter]; split <;> omega
      · simp only [buf]; omega
      · simp only [buf]; omega
      · simp only [buf]; omega
      · simp only [buf]; omega
  · constructor
    · rintro ⟨hd, h⟩
      have e0 := h 0 (by omega)
      have e1 := h 1 (by omega)
      have e2 := h 2 (by omega)
      have e3 := h 3 (by omega)
      have e4 := h 4 (by omega)
      have e5 := h 5 (by omega)
      simp only [buf, drop, letter] at e0 e1 e2 e3 e4 e5 hd
      refine ⟨⟨by omega, by omega, ?_, by omega, by omega, by omega, fun h => by omega, fun h => by omega, fun h => by omega, fun h => ?_⟩, ?_⟩
      · split at e0 <;> omega
      · simp [tho, dig]; omega
      · simp [val, tho, dig]; simp at hd; omega
    · rintro ⟨⟨_, _, g0, g1, g2, g3, g4, g5, _, g7⟩, hv⟩
      have d4 := g4 (by omega)
      have d5 := g5 (by omega)
      simp [val, tho, dig] at hv g7
      refine ⟨by simp [drop]; omega, fun i hi => ?_⟩
      rcases (show i = 0 ∨ i = 1 ∨ i = 2 ∨ i = 3 ∨ i = 4 ∨ i = 5 by omega) with rfl | rfl | rfl | rfl | rfl | rfl
      · simp only [buf, letter]; split <;> omega
      · simp only [buf]; omega
      · simp only [buf]; omega
      · simp only [buf]; omega
      · simp only [buf]; omega
      · simp only [buf]; omega
  · constructor
    · rintro ⟨hd, h⟩
      have e0 := h 0 (by omega)
      have e1 := h 1 (by omega)
      have e2 := h 2 (by omega)
      have e3 := h 3 (by omega)
      have e4 := h 4 (by omega)
      have e5 := h 5 (by omega)
      have e6 := h 6 (by omega)
      simp only [buf, letter] at e0 e1 e2 e3 e4 e5 e6
      refine ⟨⟨by omega, by omega, ?_, by omega, by omega, by omega, fun h => by omega, fun h => by omega, fun h => by omega, fun h => ?_⟩, ?_⟩
      · split at e0 <;> omega
      · simp [tho, dig]; omega
      · simp [val, tho, dig]; omega
    · rintro ⟨⟨_, _, g0, g1, g2, g3, g4, g5, g6, g7⟩, hv⟩
      have d4 := g4 (by omega)
      have d5 := g5 (by omega)
      have d6 := g6 (by omega)
      simp [val, tho, dig] at hv g7
      refine ⟨by simp [drop], fun i hi => ?_⟩
      rcases (show i = 0 ∨ i = 1 ∨ i = 2 ∨ i = 3 ∨ i = 4 ∨ i = 5 ∨ i = 6 by omega) with rfl | rfl | rfl | rfl | rfl | rfl | rfl
      · simp only [buf, letter]; split <;> omega
      · simp only [buf]; omega
      · simp only [buf]; omega
      · simp only [buf]; omega
      · simp only [buf]; omega
      · simp only [buf]; omega
      · simp only [buf]; omega

end Go.Proofs.Qxb6600343a.qv
