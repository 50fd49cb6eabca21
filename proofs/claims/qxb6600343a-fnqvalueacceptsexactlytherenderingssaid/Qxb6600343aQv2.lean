/-
  The walk of qvalue (21), by cases; ZZqvalue (14).
-/
import Derived.Test.Qxb6600343aQv
import Derived.Deep.Cut
namespace Go.Proofs.Qxb6600343a.qv
open Go.RowKit Go.Deep
set_option linter.unusedVariables false

theorem qv_short (s : ByteArray) (B : Nat → Int) (w : World) (h : s.size < 3) : Calls Try.prog 21 #[.string s] w fun e w' => Answers s.size B w e w' := by
  have H : Hid (¬ Good s.size B) := fun g => by have := g.1; omega
  go_enter Try.func21, Try.ntmps21
  go_wp2
  go_ret2
  exact answers_no H.out

set_option maxHeartbeats 1000000 in
theorem qv_letter (s : ByteArray) (B : Nat → Int) (w : World) (h3 : 3 ≤ s.size) (hx0 : (low ((s[0]'(by omega)).toNat : Int) != 113) = true) (H : Hid (¬ Good s.size B)) : Calls Try.prog 21 #[.string s] w fun e w' => Answers s.size B w e w' := by
  go_enter Try.func21, Try.ntmps21
  go_wp2_with fail
  refine (lower _ _ (byte_bd _).1 (byte_bd _).2).mono ?_
  rintro e w' ⟨rfl, rfl⟩
  go_wp2
  go_ret2
  exact answers_no H.out

set_option maxHeartbeats 1000000 in
theorem qv_eq (s : ByteArray) (B : Nat → Int) (w : World) (h3 : 3 ≤ s.size) (hx0 : (low ((s[0]'(by omega)).toNat : Int) != 113) = false) (hx1 : (((s[1]'(by omega)).toNat : Int) != 61) = true) (H : Hid (¬ Good s.size B)) :
    Calls Try.prog 21 #[.string s] w fun e w' => Answers s.size B w e w' := by
  go_enter Try.func21, Try.ntmps21
  go_wp2_with fail
  refine (lower _ _ (byte_bd _).1 (byte_bd _).2).mono ?_
  rintro e w' ⟨rfl, rfl⟩
  go_wp2
  go_ret2
  exact answers_no H.out

theorem answers_yes {n : Nat} {B : Nat → Int} {w : World} {v : Int} (h : Good n B) (hv : v = val n B) : Answers n B w (.returned (.tuple #[.int .i64 v, .bool true])) w := ⟨v, true, rfl, rfl, fun _ => ⟨h, hv⟩, fun k => (by cases k)⟩

theorem good_of {n : Nat} {B : Nat → Int} {d : Int} (h3 : 3 ≤ n) (h7 : n ≤ 7) (hg : (B 0 = 113 ∨ B 0 = 81) ∧ B 1 = 61) (h2 : B 2 = d) (hd : d = 48 ∨ d = 49) (hdot : 3 < n → B 3 = 46) (hdig : ∀ j, 4 ≤ j → j < 7 → isDig n B j) (ht : d = 49 → tho n B = 0) : Good n B :=
  ⟨h3, h7, hg.1, hg.2, by omega, hdot, hdig 4 (by omega) (by omega), hdig 5 (by omega) (by omega), hdig 6 (by omega) (by omega), fun h => ht (by omega)⟩

theorem acc_digit {n : Nat} {B : Nat → Int} {i : Nat} {a x : Int} (ha : a = acc n B i) (hj : ∀ j, 4 ≤ j → j < i + 2 → isDig n B j) (h2 : 2 ≤ i) (h5 : i < 5) (hn : i + 2 < n) (hx : x = B (i + 2)) (g1 : 48 ≤ x) (g2 : x ≤ 57) :
    0 ≤ a * 10 + (x - 48) ∧ a * 10 + (x - 48) ≤ 999 ∧ (a * 10 + (x - 48) = acc n B (i + 1) ∧ ∀ j, 4 ≤ j → j < i + 1 + 2 → isDig n B j) := by
  have hj' : ∀ j, 4 ≤ j → j < i + 1 + 2 → isDig n B j := fun j h1 h3 => by
    by_cases e : j = i + 2
    · subst e
      intro _
      rw [← hx]
      exact ⟨g1, g2⟩
    · exact hj j h1 (by omega)
  have e : a * 10 + (x - 48) = acc n B (i + 1) := by
    rw [acc_step n B i h2 h5, ha, dig, if_pos hn, hx]
  have := acc_bd (n := n) (B := B) (i := i + 1) (by omega) (by omega) hj'
  rw [← e] at this
  exact ⟨this.1, this.2, e, hj'⟩

theorem acc_none {n : Nat} {B : Nat → Int} {i : Nat} {a : Int} (ha : a = acc n B i) (hj : ∀ j, 4 ≤ j → j < i + 2 → isDig n B j) (h2 : 2 ≤ i) (h5 : i < 5) (hn : ¬ i + 2 < n) :
    0 ≤ a * 10 ∧ a * 10 ≤ 999 ∧ (a * 10 = acc n B (i + 1) ∧ ∀ j, 4 ≤ j → j < i + 1 + 2 → isDig n B j) := by
  have hj' : ∀ j, 4 ≤ j → j < i + 1 + 2 → isDig n B j := fun j h1 h3 => by
    by_cases e : j = i + 2
    · subst e
      exact fun h => absurd h hn
    · exact hj j h1 (by omega)
  have e : a * 10 = acc n B (i + 1) := by
    rw [acc_step n B i h2 h5, ha, dig, if_neg hn, Int.add_zero]
  have := acc_bd (n := n) (B := B) (i := i + 1) (by omega) (by omega) hj'
  rw [← e] at this
  exact ⟨this.1, this.2, e, hj'⟩

theorem not_digit {n : Nat} {B : Nat → Int} {i : Nat} {x : Int} (h2 : 2 ≤ i) (h5 : i < 5) (hn : i + 2 < n) (hx : x = B (i + 2)) (hd : ¬ (48 ≤ x ∧ x ≤ 57)) : ¬ Good n B := fun g => by
  obtain ⟨_, _, _, _, _, _, d4, d5, d6, _⟩ := g
  apply hd
  rw [hx]
  rcases (show i = 2 ∨ i = 3 ∨ i = 4 by omega) with rfl | rfl | rfl
  · exact d4 hn
  · exact d5 hn
  · exact d6 hn

set_option maxHeartbeats 2000000 in
theorem qv_main (s : ByteArray) (B : Nat → Int) (w : World) (h3 : 3 ≤ s.size) (hx0 : (low ((s[0]'(by omega)).toNat : Int) != 113) = false) (hx1 : (((s[1]'(by omega)).toNat : Int) != 61) = false)
    (HB : Hid (∀ i (h : i < s.size), ((s[i]'h).toNat : Int) = B i)) (HG : Hid ((B 0 = 113 ∨ B 0 = 81) ∧ B 1 = 61)) :
    Calls Try.prog 21 #[.string s] w fun e w' => Answers s.size B w e w' := by
  go_enter Try.func21, Try.ntmps21
  go_wp2_with fail
  refine (lower _ _ (byte_bd _).1 (byte_bd _).2).mono ?_
  rintro e w' ⟨rfl, rfl⟩
  go_upto_region 4 with fail
  have HT := hid (cut_at s B HB.out)
  have hz1 : (s.extract 2 s.size).size + 2 ≤ s.size := by rw [cut_size]; omega
  have hz2 : s.size ≤ (s.extract 2 s.size).size + 2 := by rw [cut_size]; omega
  generalize s.extract 2 s.size = t at HT hz1 hz2 ⊢
  clear hx0 hx1 HB
  have ht0 : 0 < t.size := by omega
  have HX2 : Hid (((t[0]'ht0).toNat : Int) = B 2) := HT.out 0 ht0
  by_cases hd : ¬ ((t[0]'ht0).toNat : Int) = 48 ∧ ¬ ((t[0]'ht0).toNat : Int) = 49
  · have H : Hid (¬ Good s.size B) := fun g => by
      have := g.2.2.2.2.1
      rw [← HX2.out] at this
      omega
    have e1 : (((t[0]'ht0).toNat : Int) != 48) = true := by simpa using hd.1
    have e2 : (((t[0]'ht0).toNat : Int) != 49) = true := by simpa using hd.2
    clear hd
    go_wp2
    go_ret2
    exact answers_no H.out
  have hd' : ∃ d : Int, (d = 48 ∨ d = 49) ∧ ((t[0]'ht0).toNat : Int) = d := ⟨_, by omega, rfl⟩
  clear hd
  obtain ⟨d, hd, hx2⟩ := hd'
  have HD : Hid (B 2 = d) := HX2.out.symm.trans hx2
  clear HX2
  by_cases hm : 1 < t.size
  · have i1 : (1 : Int) < (t.size : Int) := by omega
    have HX3 : Hid (((t[1]'hm).toNat : Int) = B 3) := HT.out 1 hm
    by_cases hdot : ((t[1]'hm).toNat : Int) = 46
    · by_cases hl : 5 < t.size
      · have H : Hid (¬ Good s.size B) := fun g => by have := g.2.1; omega
        have i2 : (5 : Int) < (t.size : Int) := by omega
        rcases hd with rfl | rfl
        all_goals
          go_wp2
          go_ret2
          exact answers_no H.out
      · have HDOT : Hid (3 < s.size → B 3 = 46) := fun _ => HX3.out.symm.trans hdot
        have i2 : ¬ (5 : Int) < (t.size : Int) := by omega
        rcases hd with rfl | rfl
        · go_wp2
          go_loop [5, 6] (fun tv iv => ∃ (i : Nat) (a : Int), 2 ≤ i ∧ i ≤ 5 ∧ iv = .int .i64 i ∧ tv = .int .i64 a ∧ 0 ≤ a ∧ a ≤ 999 ∧ Hid (a = acc s.size B i ∧ ∀ j, 4 ≤ j → j < i + 2 → isDig s.size B j)) (fun _ iv => 5 - (intOf iv).toNat)
          case atStart => exact ⟨2, 0, by omega, by omega, rfl, rfl, by omega, by omega, rfl, fun j h1 h2 => by omega⟩
          case round =>
            obtain ⟨i, a, h2, h5, rfl, rfl, a0, a9, hA⟩ := hrel
            by_cases hi : i < 5
            · have i5 : (i : Int) < 5 := by omega
              by_cases hit : i < t.size
              · have i6 : (i : Int) < (t.size : Int) := by omega
                have HX : Hid (((t[i]'hit).toNat : Int) = B (i + 2)) := HT.out i hit
                by_cases hdg : 48 ≤ ((t[i]'hit).toNat : Int) ∧ ((t[i]'hit).toNat : Int) ≤ 57
                · obtain ⟨g1, g2⟩ := hdg
                  have HS := hid (acc_digit hA.out.1 hA.out.2 h2 hi (by omega) HX.out g1 g2)
                  go_wp2
                  go_round
                  case rel => exact ⟨i + 1, _, by omega, by omega, by go_num, rfl, HS.out.1, HS.out.2.1, HS.out.2.2⟩
                  case measure => simp [intOf]; omega
                · have H : Hid (¬ Good s.size B) := not_digit h2 hi (by omega) HX.out hdg
                  rcases (show ((t[i]'hit).toNat : Int) < 48 ∨ (48 ≤ ((t[i]'hit).toNat : Int) ∧ 57 < ((t[i]'hit).toNat : Int)) by omega) with g1 | ⟨g1, g2⟩
                  all_goals
                    clear hdg
                    go_wp2
                    go_ret2
                    exact answers_no H.out
              · have HS := hid (acc_none hA.out.1 hA.out.2 h2 hi (by omega))
                go_wp2
                go_round
                case rel => exact ⟨i + 1, _, by omega, by omega, by go_num, rfl, HS.out.1, HS.out.2.1, HS.out.2.2⟩
                case measure => simp [intOf]; omega
            · have e5 : i = 5 := by omega
              have HE : Hid (a = tho s.size B ∧ ∀ j, 4 ≤ j → j < 7 → isDig s.size B j) := by
                have := hA.out
                rw [e5] at this
                exact this
              clear e5 hA
              go_wp2
              go_ret2
              exact answers_yes (good_of h3 (by omega) HG.out HD.out (.inl rfl) HDOT.out HE.out.2 (fun h => by cases h)) (by rw [val, HD.out, ← HE.out.1]; omega)
        · go_wp2
          go_loop [5, 6] (fun tv iv => ∃ (i : Nat) (a : Int), 2 ≤ i ∧ i ≤ 5 ∧ iv = .int .i64 i ∧ tv = .int .i64 a ∧ 0 ≤ a ∧ a ≤ 999 ∧ Hid (a = acc s.size B i ∧ ∀ j, 4 ≤ j → j < i + 2 → isDig s.size B j)) (fun _ iv => 5 - (intOf iv).toNat)
          case atStart => exact ⟨2, 0, by omega, by omega, rfl, rfl, by omega, by omega, rfl, fun j h1 h2 => by omega⟩
          case round =>
            obtain ⟨i, a, h2, h5, rfl, rfl, a0, a9, hA⟩ := hrel
            by_cases hi : i < 5
            · have i5 : (i : Int) < 5 := by omega
              by_cases hit : i < t.size
              · have i6 : (i : Int) < (t.size : Int) := by omega
                have HX : Hid (((t[i]'hit).toNat : Int) = B (i + 2)) := HT.out i hit
                by_cases hdg : 48 ≤ ((t[i]'hit).toNat : Int) ∧ ((t[i]'hit).toNat : Int) ≤ 57
                · obtain ⟨g1, g2⟩ := hdg
                  have HS := hid (acc_digit hA.out.1 hA.out.2 h2 hi (by omega) HX.out g1 g2)
                  go_wp2
                  go_round
                  case rel => exact ⟨i + 1, _, by omega, by omega, by go_num, rfl, HS.out.1, HS.out.2.1, HS.out.2.2⟩
                  case measure => simp [intOf]; omega
                · have H : Hid (¬ Good s.size B) := not_digit h2 hi (by omega) HX.out hdg
                  rcases (show ((t[i]'hit).toNat : Int) < 48 ∨ (48 ≤ ((t[i]'hit).toNat : Int) ∧ 57 < ((t[i]'hit).toNat : Int)) by omega) with g1 | ⟨g1, g2⟩
                  all_goals
                    clear hdg
                    go_wp2
                    go_ret2
                    exact answers_no H.out
              · have HS := hid (acc_none hA.out.1 hA.out.2 h2 hi (by omega))
                go_wp2
                go_round
                case rel => exact ⟨i + 1, _, by omega, by omega, by go_num, rfl, HS.out.1, HS.out.2.1, HS.out.2.2⟩
                case measure => simp [intOf]; omega
            · have e5 : i = 5 := by omega
              have HE : Hid (a = tho s.size B ∧ ∀ j, 4 ≤ j → j < 7 → isDig s.size B j) := by
                have := hA.out
                rw [e5] at this
                exact this
              clear e5 hA
              by_cases hp : 0 < a
              · have H : Hid (¬ Good s.size B) := fun g => by
                  have := g.2.2.2.2.2.2.2.2.2 HD.out
                  rw [← HE.out.1] at this
                  omega
                go_wp2
                go_ret2
                exact answers_no H.out
              · go_wp2
                go_ret2
                exact answers_yes (good_of h3 (by omega) HG.out HD.out (.inr rfl) HDOT.out HE.out.2 (fun _ => by rw [← HE.out.1]; omega)) (by rw [val, HD.out, ← HE.out.1]; omega)
    · have H : Hid (¬ Good s.size B) := fun g => by
        have := g.2.2.2.2.2.1 (by omega)
        rw [← HX3.out] at this
        exact hdot this
      have e1 : (((t[1]'hm).toNat : Int) != 46) = true := by simpa using hdot
      clear hdot
      rcases hd with rfl | rfl
      all_goals
        go_wp2
        go_ret2
        exact answers_no H.out
  · have HDOT : Hid (3 < s.size → B 3 = 46) := fun h => by omega
    have i1 : ¬ (1 : Int) < (t.size : Int) := by omega
    rcases hd with rfl | rfl
    · go_wp2
      go_loop [5, 6] (fun tv iv => ∃ (i : Nat) (a : Int), 2 ≤ i ∧ i ≤ 5 ∧ iv = .int .i64 i ∧ tv = .int .i64 a ∧ 0 ≤ a ∧ a ≤ 999 ∧ Hid (a = acc s.size B i ∧ ∀ j, 4 ≤ j → j < i + 2 → isDig s.size B j)) (fun _ iv => 5 - (intOf iv).toNat)
      case atStart => exact ⟨2, 0, by omega, by omega, rfl, rfl, by omega, by omega, rfl, fun j h1 h2 => by omega⟩
      case round =>
        obtain ⟨i, a, h2, h5, rfl, rfl, a0, a9, hA⟩ := hrel
        by_cases hi : i < 5
        · have i5 : (i : Int) < 5 := by omega
          by_cases hit : i < t.size
          · exact absurd hit (by omega)
          · have HS := hid (acc_none hA.out.1 hA.out.2 h2 hi (by omega))
            go_wp2
            go_round
            case rel => exact ⟨i + 1, _, by omega, by omega, by go_num, rfl, HS.out.1, HS.out.2.1, HS.out.2.2⟩
            case measure => simp [intOf]; omega
        · have e5 : i = 5 := by omega
          have HE : Hid (a = tho s.size B ∧ ∀ j, 4 ≤ j → j < 7 → isDig s.size B j) := by
            have := hA.out
            rw [e5] at this
            exact this
          clear e5 hA
          go_wp2
          go_ret2
          exact answers_yes (good_of h3 (by omega) HG.out HD.out (.inl rfl) HDOT.out HE.out.2 (fun h => by cases h)) (by rw [val, HD.out, ← HE.out.1]; omega)
    · go_wp2
      go_loop [5, 6] (fun tv iv => ∃ (i : Nat) (a : Int), 2 ≤ i ∧ i ≤ 5 ∧ iv = .int .i64 i ∧ tv = .int .i64 a ∧ 0 ≤ a ∧ a ≤ 999 ∧ Hid (a = acc s.size B i ∧ ∀ j, 4 ≤ j → j < i + 2 → isDig s.size B j)) (fun _ iv => 5 - (intOf iv).toNat)
      case atStart => exact ⟨2, 0, by omega, by omega, rfl, rfl, by omega, by omega, rfl, fun j h1 h2 => by omega⟩
      case round =>
        obtain ⟨i, a, h2, h5, rfl, rfl, a0, a9, hA⟩ := hrel
        by_cases hi : i < 5
        · have i5 : (i : Int) < 5 := by omega
          by_cases hit : i < t.size
          · exact absurd hit (by omega)
          · have HS := hid (acc_none hA.out.1 hA.out.2 h2 hi (by omega))
            go_wp2
            go_round
            case rel => exact ⟨i + 1, _, by omega, by omega, by go_num, rfl, HS.out.1, HS.out.2.1, HS.out.2.2⟩
            case measure => simp [intOf]; omega
        · have e5 : i = 5 := by omega
          have HE : Hid (a = tho s.size B ∧ ∀ j, 4 ≤ j → j < 7 → isDig s.size B j) := by
            have := hA.out
            rw [e5] at this
            exact this
          clear e5 hA
          by_cases hp : 0 < a
          · have H : Hid (¬ Good s.size B) := fun g => by
              have := g.2.2.2.2.2.2.2.2.2 HD.out
              rw [← HE.out.1] at this
              omega
            go_wp2
            go_ret2
            exact answers_no H.out
          · go_wp2
            go_ret2
            exact answers_yes (good_of h3 (by omega) HG.out HD.out (.inr rfl) HDOT.out HE.out.2 (fun _ => by rw [← HE.out.1]; omega)) (by rw [val, HD.out, ← HE.out.1]; omega)

end Go.Proofs.Qxb6600343a.qv
