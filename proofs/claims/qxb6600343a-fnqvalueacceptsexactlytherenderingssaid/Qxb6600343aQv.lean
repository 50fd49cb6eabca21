/-
  The walks of lowerASCII (22), qvalue (21), ZZqvalue (14).
-/
import Derived.Test.Qxb6600343aRend
namespace Go.Proofs.Qxb6600343a.qv
open Go.RowKit Go.Deep
set_option linter.unusedVariables false

def low (x : Int) : Int := if 65 ≤ x ∧ x ≤ 90 then x + 32 else x

theorem lower (x : Int) (w : World) (h0 : 0 ≤ x) (h1 : x ≤ 255) : Calls Try.prog 22 #[.int .u8 x] w fun e w' => e = .returned (.int .u8 (low x)) ∧ w = w' := by
  by_cases h : 65 ≤ x ∧ x ≤ 90
  · have H : Hid (low x = x + 32) := by show low x = x + 32; simp [low, h]
    obtain ⟨h2, h3⟩ := h
    go_enter Try.func22, Try.ntmps22
    go_wp2
    go_ret
    refine ⟨?_, rfl⟩
    rw [H.out]
    show Ending.returned (.int .u8 (x + 97 - 65)) = _
    rw [show x + 97 - 65 = x + 32 by omega]
  · have H : Hid (low x = x) := by show low x = x; simp only [low, if_neg h]
    rcases (show ¬ 65 ≤ x ∨ (65 ≤ x ∧ ¬ x ≤ 90) by omega) with h2 | ⟨h2, h3⟩
    all_goals
      clear h
      go_enter Try.func22, Try.ntmps22
      go_wp2
      go_ret
      refine ⟨?_, rfl⟩
      rw [H.out]
      rfl

def Answers (n : Nat) (B : Nat → Int) (w : World) (e : Ending) (w' : World) : Prop :=
  ∃ (v : Int) (ok : Bool), e = .returned (.tuple #[.int .i64 v, .bool ok]) ∧ w = w' ∧ (ok = true → Good n B ∧ v = val n B) ∧ (ok = false → v = 0 ∧ ¬ Good n B)
theorem answers_no {n : Nat} {B : Nat → Int} {w : World} (h : ¬ Good n B) : Answers n B w (.returned (.tuple #[.int .i64 0, .bool false])) w := ⟨0, false, rfl, rfl, fun k => (by cases k), fun _ => ⟨rfl, h⟩⟩
theorem byte_bd (b : UInt8) : (0 : Int) ≤ (b.toNat : Int) ∧ (b.toNat : Int) ≤ 255 := ⟨by omega, by have := b.toNat_lt; omega⟩

theorem low_iff (x : Int) : low x = 113 ↔ x = 113 ∨ x = 81 := by
  unfold low
  split <;> omega

/-- The thousandths gathered when the loop's counter is i. -/
def acc (n : Nat) (B : Nat → Int) : Nat → Int
  | 3 => dig n B 4
  | 4 => 10 * dig n B 4 + dig n B 5
  | 5 => tho n B
  | _ => 0

theorem acc_step (n : Nat) (B : Nat → Int) (i : Nat) (h2 : 2 ≤ i) (h5 : i < 5) : acc n B (i + 1) = acc n B i * 10 + dig n B (i + 2) := by
  rcases (show i = 2 ∨ i = 3 ∨ i = 4 by omega) with rfl | rfl | rfl
  · simp [acc]
  · show 10 * dig n B 4 + dig n B 5 = dig n B 4 * 10 + dig n B 5; omega
  · show 100 * dig n B 4 + 10 * dig n B 5 + dig n B 6 = (10 * dig n B 4 + dig n B 5) * 10 + dig n B 6; omega

theorem dig_bd {n : Nat} {B : Nat → Int} {i : Nat} (h : isDig n B i) : 0 ≤ dig n B i ∧ dig n B i ≤ 9 := by
  unfold dig
  by_cases hi : i < n
  · have := h hi
    rw [if_pos hi]
    omega
  · rw [if_neg hi]
    omega

theorem acc_bd {n : Nat} {B : Nat → Int} {i : Nat} (h2 : 2 ≤ i) (h5 : i ≤ 5) (h : ∀ j, 4 ≤ j → j < i + 2 → isDig n B j) : 0 ≤ acc n B i ∧ acc n B i ≤ 999 := by
  rcases (show i = 2 ∨ i = 3 ∨ i = 4 ∨ i = 5 by omega) with rfl | rfl | rfl | rfl
  · simp [acc]
  · have a := dig_bd (h 4 (by omega) (by omega))
    simp only [acc]; omega
  · have a := dig_bd (h 4 (by omega) (by omega))
    have b := dig_bd (h 5 (by omega) (by omega))
    simp only [acc]; omega
  · have a := dig_bd (h 4 (by omega) (by omega))
    have b := dig_bd (h 5 (by omega) (by omega))
    have c := dig_bd (h 6 (by omega) (by omega))
    simp only [acc, tho]; omega

theorem cut_size (s : ByteArray) : (s.extract 2 s.size).size = s.size - 2 := by simp
theorem cut_at (s : ByteArray) (B : Nat → Int) (hB : ∀ i (h : i < s.size), ((s[i]'h).toNat : Int) = B i) (i : Nat) (h : i < (s.extract 2 s.size).size) : (((s.extract 2 s.size)[i]'h).toNat : Int) = B (i + 2) := by
  rw [cut_size] at h
  rw [← hB (i + 2) (by omega)]
  congr 2
  rw [ByteArray.getElem_extract]
  congr 1
  omega

end Go.Proofs.Qxb6600343a.qv
