/-
  qvalue whole, ZZqvalue (14), and the law (6): a theorem a length of the weight, laid out of one text.
-/
import Derived.Test.Qxb6600343aQv2
namespace Go.Proofs.Qxb6600343a.qv
open Go.RowKit Go.Deep
set_option linter.unusedVariables false

/-- The numbers of the weight's bytes. -/
def byteAt (s : ByteArray) (i : Nat) : Int := if h : i < s.size then ((s[i]'h).toNat : Int) else 0
theorem byteAt_eq (s : ByteArray) : ∀ i (h : i < s.size), ((s[i]'h).toNat : Int) = byteAt s i := fun i h => by rw [byteAt, dif_pos h]

/-- Function 21, whatever the weight. -/
theorem qvalue (s : ByteArray) (w : World) : Calls Try.prog 21 #[.string s] w fun e w' => Answers s.size (byteAt s) w e w' := by
  by_cases h3 : s.size < 3
  · exact qv_short s _ w h3
  have h3' : 3 ≤ s.size := by omega
  have e0 := byteAt_eq s 0 (by omega)
  have e1 := byteAt_eq s 1 (by omega)
  by_cases g0 : low ((s[0]'(by omega)).toNat : Int) = 113
  · by_cases g1 : ((s[1]'(by omega)).toNat : Int) = 61
    · refine qv_main s _ w h3' (by simp [g0]) (by simp [g1]) (byteAt_eq s) ⟨?_, e1.symm.trans g1⟩
      rw [← e0]
      exact (low_iff _).1 g0
    · refine qv_eq s _ w h3' (by simp [g0]) (by simpa using g1) (fun g => g1 ?_)
      rw [e1]
      exact g.2.2.2.1
  · refine qv_letter s _ w h3' (by simpa using g0) (fun g => g0 ((low_iff _).2 ?_))
    rw [e0]
    exact g.2.2.1

theorem zzQvalue (s : ByteArray) (w : World) : Calls Try.prog 14 #[.string s] w fun e w' => Answers s.size (byteAt s) w e w' := by
  have H := hid (qvalue s w)
  go_enter Try.func14, Try.ntmps14
  go_wp2_with fail
  refine H.out.mono ?_
  rintro e w' ⟨v, ok, rfl, rfl, h1, h2⟩
  have H1 := hid h1
  have H2 := hid h2
  clear h1 h2 H
  go_wp2
  go_ret2
  exact ⟨v, ok, rfl, rfl, H1.out, H2.out⟩

theorem val_bd {n : Nat} {B : Nat → Int} (g : Good n B) : 0 ≤ val n B ∧ val n B ≤ 1000 := by
  obtain ⟨_, _, _, _, h2, _, d4, d5, d6, h49⟩ := g
  have a := dig_bd d4
  have b := dig_bd d5
  have c := dig_bd d6
  unfold val
  rcases h2 with h | h
  · rw [h]; unfold tho; omega
  · rw [h49 h, h]; omega

theorem letter_q {s : ByteArray} (h : 0 < s.size) (e : ¬ ((s[0]'h).toNat : Int) = 81) : letter (byteAt s 0) = 113 := by
  rw [← byteAt_eq s 0 h]; simp [letter, e]
theorem letter_Q {s : ByteArray} (h : 0 < s.size) (e : ((s[0]'h).toNat : Int) = 81) : letter (byteAt s 0) = 81 := by
  rw [← byteAt_eq s 0 h]; simp [letter, e]

/-- What the loop has found when c is k. -/
def fnd (v k : Int) : Int := if v < k then v else -1

theorem ret_bool {a b : Bool} (h : a = b) : Ending.returned (.bool a) = .returned (.bool b) := by rw [h]
theorem below_up {w w' w'' : World} (h : Below w.heap.size w w') (k : Below w'.heap.size w' w'') : Below w.heap.size w w'' := h.trans (k.mono h.size)

set_option maxHeartbeats 4000000 in
theorem law3 (s : ByteArray) (w : World) (hs : s.size = 3) : Calls Try.prog 6 #[.string s] w fun e w' => e = .returned (.bool true) ∧ Below w.heap.size w w' := by
  have HS := hid hs
  have h0 : 0 < s.size := by omega
  have H := hid (zzQvalue s w)
  go_enter Try.func6, Try.ntmps6
  go_wp2_with (go_at_call 13; go_in)
  refine H.out.mono ?_
  rintro e w' ⟨v, ok, rfl, rfl, h1, h2⟩
  clear H
  cases ok
  · obtain ⟨rfl, hN⟩ := h2 rfl
    have HN : Hid (¬ Good 3 (byteAt s)) := by rw [hs] at hN; exact hN
    clear h1 h2 hN
    by_cases hq : ((s[0]'h0).toNat : Int) = 81
    · have HL : Hid (letter (byteAt s 0) = 81) := letter_Q h0 hq
      go_wp2
      · clear hq
        go_loopw [5, 10] (fun fv i wr => ∃ k : Nat, k ≤ 1001 ∧ fv = .int .i64 (-1) ∧ i = .int .i64 k ∧ Below w.heap.size w wr) (fun _ i _ => 1001 - (intOf i).toNat)
        case atStart => exact ⟨0, by omega, rfl, rfl, Below.refl _ _⟩
        case round =>
          obtain ⟨k, hk, rfl, rfl, hbel⟩ := hrel
          by_cases hlt : k ≤ 1000
          · have i1 : (k : Int) ≤ 1000 := by omega
            go_wp2_with fail
            refine (rend3 s (byteAt s) k 81 _ HS.out (byteAt_eq s) (by omega) i1).mono ?_
            rintro e w1 ⟨bb, rfl, hbb, hb1⟩
            have hf : bb = false := by
              cases bb
              · rfl
              · exact absurd ((rend_iff (by omega) (by omega) (by omega) (by omega)).1 (HL.out ▸ hbb.1 rfl)).1 HN.out
            subst hf
            have hb2 := below_up hbel hb1
            clear hbb hb1 hbel
            go_wp2
            go_roundw
            case rel => exact ⟨k + 1, by omega, rfl, by go_num, hb2⟩
            case measure => simp [intOf]; omega
          · have i1 : ¬ (k : Int) ≤ 1000 := by omega
            go_wp2
            go_ret
            exact ⟨rfl, hbel⟩
    · have HL : Hid (letter (byteAt s 0) = 113) := letter_q h0 hq
      have hq' : (((s[0]'h0).toNat : Int) == 81) = false := by simpa using hq
      clear hq
      go_wp2
      · skip
        go_loopw [5, 10] (fun fv i wr => ∃ k : Nat, k ≤ 1001 ∧ fv = .int .i64 (-1) ∧ i = .int .i64 k ∧ Below w.heap.size w wr) (fun _ i _ => 1001 - (intOf i).toNat)
        case atStart => exact ⟨0, by omega, rfl, rfl, Below.refl _ _⟩
        case round =>
          obtain ⟨k, hk, rfl, rfl, hbel⟩ := hrel
          by_cases hlt : k ≤ 1000
          · have i1 : (k : Int) ≤ 1000 := by omega
            go_wp2_with fail
            refine (rend3 s (byteAt s) k 113 _ HS.out (byteAt_eq s) (by omega) i1).mono ?_
            rintro e w1 ⟨bb, rfl, hbb, hb1⟩
            have hf : bb = false := by
              cases bb
              · rfl
              · exact absurd ((rend_iff (by omega) (by omega) (by omega) (by omega)).1 (HL.out ▸ hbb.1 rfl)).1 HN.out
            subst hf
            have hb2 := below_up hbel hb1
            clear hbb hb1 hbel
            go_wp2
            go_roundw
            case rel => exact ⟨k + 1, by omega, rfl, by go_num, hb2⟩
            case measure => simp [intOf]; omega
          · have i1 : ¬ (k : Int) ≤ 1000 := by omega
            go_wp2
            go_ret
            exact ⟨rfl, hbel⟩
  · obtain ⟨hG, hv⟩ := h1 rfl
    have HG : Hid (Good 3 (byteAt s) ∧ v = val 3 (byteAt s)) := by rw [hs] at hG hv; exact ⟨hG, hv⟩
    have vb := val_bd HG.out.1
    rw [← HG.out.2] at vb
    obtain ⟨v0, v1⟩ := vb
    clear h1 h2 hG hv
    by_cases hq : ((s[0]'h0).toNat : Int) = 81
    · have HL : Hid (letter (byteAt s 0) = 81) := letter_Q h0 hq
      go_wp2
      · clear hq
        go_loopw [5, 10] (fun fv i wr => ∃ k : Nat, k ≤ 1001 ∧ fv = .int .i64 (fnd v k) ∧ i = .int .i64 k ∧ Below w.heap.size w wr) (fun _ i _ => 1001 - (intOf i).toNat)
        case atStart => exact ⟨0, by omega, by simp [fnd]; omega, rfl, Below.refl _ _⟩
        case round =>
          obtain ⟨k, hk, rfl, rfl, hbel⟩ := hrel
          by_cases hlt : k ≤ 1000
          · have i1 : (k : Int) ≤ 1000 := by omega
            go_wp2_with fail
            refine (rend3 s (byteAt s) k 81 _ HS.out (byteAt_eq s) (by omega) i1).mono ?_
            rintro e w1 ⟨bb, rfl, hbb, hb1⟩
            have hb2 := below_up hbel hb1
            have hiff : bb = true ↔ (k : Int) = v := by
              rw [hbb, ← HL.out, rend_iff (by omega) (by omega) (by omega) (by omega)]
              exact ⟨fun h => h.2.trans HG.out.2.symm, fun h => ⟨HG.out.1, h.trans HG.out.2⟩⟩
            clear hbb hb1 hbel
            by_cases hkv : (k : Int) = v
            · have hf : bb = true := hiff.2 hkv
              subst hf
              have F : Hid ((k : Int) = fnd v ((k + 1 : Nat) : Int)) := by show (k : Int) = fnd v ((k + 1 : Nat) : Int); rw [fnd, if_pos (by omega)]; exact hkv
              clear hkv hiff
              go_wp2
              go_roundw
              case rel => exact ⟨k + 1, by omega, congrArg (Value.int .i64) F.out, by go_num, hb2⟩
              case measure => simp [intOf]; omega
            · have hf : bb = false := by
                cases bb
                · rfl
                · exact absurd (hiff.1 rfl) hkv
              subst hf
              have F : Hid (fnd v (k : Int) = fnd v ((k + 1 : Nat) : Int)) := by
                show fnd v (k : Int) = fnd v ((k + 1 : Nat) : Int)
                unfold fnd
                by_cases h : v < (k : Int)
                · rw [if_pos h, if_pos (by omega)]
                · rw [if_neg h, if_neg (by omega)]
              clear hkv hiff
              go_wp2
              go_roundw
              case rel => exact ⟨k + 1, by omega, congrArg (Value.int .i64) F.out, by go_num, hb2⟩
              case measure => simp [intOf]; omega
          · have i1 : ¬ (k : Int) ≤ 1000 := by omega
            have e1 : fnd v (k : Int) = v := by rw [fnd, if_pos (by omega)]
            go_wp2
            go_ret
            exact ⟨rfl, hbel⟩
    · have HL : Hid (letter (byteAt s 0) = 113) := letter_q h0 hq
      have hq' : (((s[0]'h0).toNat : Int) == 81) = false := by simpa using hq
      clear hq
      go_wp2
      · skip
        go_loopw [5, 10] (fun fv i wr => ∃ k : Nat, k ≤ 1001 ∧ fv = .int .i64 (fnd v k) ∧ i = .int .i64 k ∧ Below w.heap.size w wr) (fun _ i _ => 1001 - (intOf i).toNat)
        case atStart => exact ⟨0, by omega, by simp [fnd]; omega, rfl, Below.refl _ _⟩
        case round =>
          obtain ⟨k, hk, rfl, rfl, hbel⟩ := hrel
          by_cases hlt : k ≤ 1000
          · have i1 : (k : Int) ≤ 1000 := by omega
            go_wp2_with fail
            refine (rend3 s (byteAt s) k 113 _ HS.out (byteAt_eq s) (by omega) i1).mono ?_
            rintro e w1 ⟨bb, rfl, hbb, hb1⟩
            have hb2 := below_up hbel hb1
            have hiff : bb = true ↔ (k : Int) = v := by
              rw [hbb, ← HL.out, rend_iff (by omega) (by omega) (by omega) (by omega)]
              exact ⟨fun h => h.2.trans HG.out.2.symm, fun h => ⟨HG.out.1, h.trans HG.out.2⟩⟩
            clear hbb hb1 hbel
            by_cases hkv : (k : Int) = v
            · have hf : bb = true := hiff.2 hkv
              subst hf
              have F : Hid ((k : Int) = fnd v ((k + 1 : Nat) : Int)) := by show (k : Int) = fnd v ((k + 1 : Nat) : Int); rw [fnd, if_pos (by omega)]; exact hkv
              clear hkv hiff
              go_wp2
              go_roundw
              case rel => exact ⟨k + 1, by omega, congrArg (Value.int .i64) F.out, by go_num, hb2⟩
              case measure => simp [intOf]; omega
            · have hf : bb = false := by
                cases bb
                · rfl
                · exact absurd (hiff.1 rfl) hkv
              subst hf
              have F : Hid (fnd v (k : Int) = fnd v ((k + 1 : Nat) : Int)) := by
                show fnd v (k : Int) = fnd v ((k + 1 : Nat) : Int)
                unfold fnd
                by_cases h : v < (k : Int)
                · rw [if_pos h, if_pos (by omega)]
                · rw [if_neg h, if_neg (by omega)]
              clear hkv hiff
              go_wp2
              go_roundw
              case rel => exact ⟨k + 1, by omega, congrArg (Value.int .i64) F.out, by go_num, hb2⟩
              case measure => simp [intOf]; omega
          · have i1 : ¬ (k : Int) ≤ 1000 := by omega
            have e1 : fnd v (k : Int) = v := by rw [fnd, if_pos (by omega)]
            go_wp2
            go_ret
            exact ⟨rfl, hbel⟩

set_option maxHeartbeats 4000000 in
theorem law4 (s : ByteArray) (w : World) (hs : s.size = 4) : Calls Try.prog 6 #[.string s] w fun e w' => e = .returned (.bool true) ∧ Below w.heap.size w w' := by
  have HS := hid hs
  have h0 : 0 < s.size := by omega
  have H := hid (zzQvalue s w)
  go_enter Try.func6, Try.ntmps6
  go_wp2_with (go_at_call 13; go_in)
  refine H.out.mono ?_
  rintro e w' ⟨v, ok, rfl, rfl, h1, h2⟩
  clear H
  cases ok
  · obtain ⟨rfl, hN⟩ := h2 rfl
    have HN : Hid (¬ Good 4 (byteAt s)) := by rw [hs] at hN; exact hN
    clear h1 h2 hN
    by_cases hq : ((s[0]'h0).toNat : Int) = 81
    · have HL : Hid (letter (byteAt s 0) = 81) := letter_Q h0 hq
      go_wp2
      · clear hq
        go_loopw [5, 10] (fun fv i wr => ∃ k : Nat, k ≤ 1001 ∧ fv = .int .i64 (-1) ∧ i = .int .i64 k ∧ Below w.heap.size w wr) (fun _ i _ => 1001 - (intOf i).toNat)
        case atStart => exact ⟨0, by omega, rfl, rfl, Below.refl _ _⟩
        case round =>
          obtain ⟨k, hk, rfl, rfl, hbel⟩ := hrel
          by_cases hlt : k ≤ 1000
          · have i1 : (k : Int) ≤ 1000 := by omega
            go_wp2_with fail
            refine (rend4 s (byteAt s) k 81 _ HS.out (byteAt_eq s) (by omega) i1).mono ?_
            rintro e w1 ⟨bb, rfl, hbb, hb1⟩
            have hf : bb = false := by
              cases bb
              · rfl
              · exact absurd ((rend_iff (by omega) (by omega) (by omega) (by omega)).1 (HL.out ▸ hbb.1 rfl)).1 HN.out
            subst hf
            have hb2 := below_up hbel hb1
            clear hbb hb1 hbel
            go_wp2
            go_roundw
            case rel => exact ⟨k + 1, by omega, rfl, by go_num, hb2⟩
            case measure => simp [intOf]; omega
          · have i1 : ¬ (k : Int) ≤ 1000 := by omega
            go_wp2
            go_ret
            exact ⟨rfl, hbel⟩
    · have HL : Hid (letter (byteAt s 0) = 113) := letter_q h0 hq
      have hq' : (((s[0]'h0).toNat : Int) == 81) = false := by simpa using hq
      clear hq
      go_wp2
      · skip
        go_loopw [5, 10] (fun fv i wr => ∃ k : Nat, k ≤ 1001 ∧ fv = .int .i64 (-1) ∧ i = .int .i64 k ∧ Below w.heap.size w wr) (fun _ i _ => 1001 - (intOf i).toNat)
        case atStart => exact ⟨0, by omega, rfl, rfl, Below.refl _ _⟩
        case round =>
          obtain ⟨k, hk, rfl, rfl, hbel⟩ := hrel
          by_cases hlt : k ≤ 1000
          · have i1 : (k : Int) ≤ 1000 := by omega
            go_wp2_with fail
            refine (rend4 s (byteAt s) k 113 _ HS.out (byteAt_eq s) (by omega) i1).mono ?_
            rintro e w1 ⟨bb, rfl, hbb, hb1⟩
            have hf : bb = false := by
              cases bb
              · rfl
              · exact absurd ((rend_iff (by omega) (by omega) (by omega) (by omega)).1 (HL.out ▸ hbb.1 rfl)).1 HN.out
            subst hf
            have hb2 := below_up hbel hb1
            clear hbb hb1 hbel
            go_wp2
            go_roundw
            case rel => exact ⟨k + 1, by omega, rfl, by go_num, hb2⟩
            case measure => simp [intOf]; omega
          · have i1 : ¬ (k : Int) ≤ 1000 := by omega
            go_wp2
            go_ret
            exact ⟨rfl, hbel⟩
  · obtain ⟨hG, hv⟩ := h1 rfl
    have HG : Hid (Good 4 (byteAt s) ∧ v = val 4 (byteAt s)) := by rw [hs] at hG hv; exact ⟨hG, hv⟩
    have vb := val_bd HG.out.1
    rw [← HG.out.2] at vb
    obtain ⟨v0, v1⟩ := vb
    clear h1 h2 hG hv
    by_cases hq : ((s[0]'h0).toNat : Int) = 81
    · have HL : Hid (letter (byteAt s 0) = 81) := letter_Q h0 hq
      go_wp2
      · clear hq
        go_loopw [5, 10] (fun fv i wr => ∃ k : Nat, k ≤ 1001 ∧ fv = .int .i64 (fnd v k) ∧ i = .int .i64 k ∧ Below w.heap.size w wr) (fun _ i _ => 1001 - (intOf i).toNat)
        case atStart => exact ⟨0, by omega, by simp [fnd]; omega, rfl, Below.refl _ _⟩
        case round =>
          obtain ⟨k, hk, rfl, rfl, hbel⟩ := hrel
          by_cases hlt : k ≤ 1000
          · have i1 : (k : Int) ≤ 1000 := by omega
            go_wp2_with fail
            refine (rend4 s (byteAt s) k 81 _ HS.out (byteAt_eq s) (by omega) i1).mono ?_
            rintro e w1 ⟨bb, rfl, hbb, hb1⟩
            have hb2 := below_up hbel hb1
            have hiff : bb = true ↔ (k : Int) = v := by
              rw [hbb, ← HL.out, rend_iff (by omega) (by omega) (by omega) (by omega)]
              exact ⟨fun h => h.2.trans HG.out.2.symm, fun h => ⟨HG.out.1, h.trans HG.out.2⟩⟩
            clear hbb hb1 hbel
            by_cases hkv : (k : Int) = v
            · have hf : bb = true := hiff.2 hkv
              subst hf
              have F : Hid ((k : Int) = fnd v ((k + 1 : Nat) : Int)) := by show (k : Int) = fnd v ((k + 1 : Nat) : Int); rw [fnd, if_pos (by omega)]; exact hkv
              clear hkv hiff
              go_wp2
              go_roundw
              case rel => exact ⟨k + 1, by omega, congrArg (Value.int .i64) F.out, by go_num, hb2⟩
              case measure => simp [intOf]; omega
            · have hf : bb = false := by
                cases bb
                · rfl
                · exact absurd (hiff.1 rfl) hkv
              subst hf
              have F : Hid (fnd v (k : Int) = fnd v ((k + 1 : Nat) : Int)) := by
                show fnd v (k : Int) = fnd v ((k + 1 : Nat) : Int)
                unfold fnd
                by_cases h : v < (k : Int)
                · rw [if_pos h, if_pos (by omega)]
                · rw [if_neg h, if_neg (by omega)]
              clear hkv hiff
              go_wp2
              go_roundw
              case rel => exact ⟨k + 1, by omega, congrArg (Value.int .i64) F.out, by go_num, hb2⟩
              case measure => simp [intOf]; omega
          · have i1 : ¬ (k : Int) ≤ 1000 := by omega
            have e1 : fnd v (k : Int) = v := by rw [fnd, if_pos (by omega)]
            go_wp2
            go_ret
            exact ⟨rfl, hbel⟩
    · have HL : Hid (letter (byteAt s 0) = 113) := letter_q h0 hq
      have hq' : (((s[0]'h0).toNat : Int) == 81) = false := by simpa using hq
      clear hq
      go_wp2
      · skip
        go_loopw [5, 10] (fun fv i wr => ∃ k : Nat, k ≤ 1001 ∧ fv = .int .i64 (fnd v k) ∧ i = .int .i64 k ∧ Below w.heap.size w wr) (fun _ i _ => 1001 - (intOf i).toNat)
        case atStart => exact ⟨0, by omega, by simp [fnd]; omega, rfl, Below.refl _ _⟩
        case round =>
          obtain ⟨k, hk, rfl, rfl, hbel⟩ := hrel
          by_cases hlt : k ≤ 1000
          · have i1 : (k : Int) ≤ 1000 := by omega
            go_wp2_with fail
            refine (rend4 s (byteAt s) k 113 _ HS.out (byteAt_eq s) (by omega) i1).mono ?_
            rintro e w1 ⟨bb, rfl, hbb, hb1⟩
            have hb2 := below_up hbel hb1
            have hiff : bb = true ↔ (k : Int) = v := by
              rw [hbb, ← HL.out, rend_iff (by omega) (by omega) (by omega) (by omega)]
              exact ⟨fun h => h.2.trans HG.out.2.symm, fun h => ⟨HG.out.1, h.trans HG.out.2⟩⟩
            clear hbb hb1 hbel
            by_cases hkv : (k : Int) = v
            · have hf : bb = true := hiff.2 hkv
              subst hf
              have F : Hid ((k : Int) = fnd v ((k + 1 : Nat) : Int)) := by show (k : Int) = fnd v ((k + 1 : Nat) : Int); rw [fnd, if_pos (by omega)]; exact hkv
              clear hkv hiff
              go_wp2
              go_roundw
              case rel => exact ⟨k + 1, by omega, congrArg (Value.int .i64) F.out, by go_num, hb2⟩
              case measure => simp [intOf]; omega
            · have hf : bb = false := by
                cases bb
                · rfl
                · exact absurd (hiff.1 rfl) hkv
              subst hf
              have F : Hid (fnd v (k : Int) = fnd v ((k + 1 : Nat) : Int)) := by
                show fnd v (k : Int) = fnd v ((k + 1 : Nat) : Int)
                unfold fnd
                by_cases h : v < (k : Int)
                · rw [if_pos h, if_pos (by omega)]
                · rw [if_neg h, if_neg (by omega)]
              clear hkv hiff
              go_wp2
              go_roundw
              case rel => exact ⟨k + 1, by omega, congrArg (Value.int .i64) F.out, by go_num, hb2⟩
              case measure => simp [intOf]; omega
          · have i1 : ¬ (k : Int) ≤ 1000 := by omega
            have e1 : fnd v (k : Int) = v := by rw [fnd, if_pos (by omega)]
            go_wp2
            go_ret
            exact ⟨rfl, hbel⟩

set_option maxHeartbeats 4000000 in
theorem law5 (s : ByteArray) (w : World) (hs : s.size = 5) : Calls Try.prog 6 #[.string s] w fun e w' => e = .returned (.bool true) ∧ Below w.heap.size w w' := by
  have HS := hid hs
  have h0 : 0 < s.size := by omega
  have H := hid (zzQvalue s w)
  go_enter Try.func6, Try.ntmps6
  go_wp2_with (go_at_call 13; go_in)
  refine H.out.mono ?_
  rintro e w' ⟨v, ok, rfl, rfl, h1, h2⟩
  clear H
  cases ok
  · obtain ⟨rfl, hN⟩ := h2 rfl
    have HN : Hid (¬ Good 5 (byteAt s)) := by rw [hs] at hN; exact hN
    clear h1 h2 hN
    by_cases hq : ((s[0]'h0).toNat : Int) = 81
    · have HL : Hid (letter (byteAt s 0) = 81) := letter_Q h0 hq
      go_wp2
      · clear hq
        go_loopw [5, 10] (fun fv i wr => ∃ k : Nat, k ≤ 1001 ∧ fv = .int .i64 (-1) ∧ i = .int .i64 k ∧ Below w.heap.size w wr) (fun _ i _ => 1001 - (intOf i).toNat)
        case atStart => exact ⟨0, by omega, rfl, rfl, Below.refl _ _⟩
        case round =>
          obtain ⟨k, hk, rfl, rfl, hbel⟩ := hrel
          by_cases hlt : k ≤ 1000
          · have i1 : (k : Int) ≤ 1000 := by omega
            go_wp2_with fail
            refine (rend5 s (byteAt s) k 81 _ HS.out (byteAt_eq s) (by omega) i1).mono ?_
            rintro e w1 ⟨bb, rfl, hbb, hb1⟩
            have hf : bb = false := by
              cases bb
              · rfl
              · exact absurd ((rend_iff (by omega) (by omega) (by omega) (by omega)).1 (HL.out ▸ hbb.1 rfl)).1 HN.out
            subst hf
            have hb2 := below_up hbel hb1
            clear hbb hb1 hbel
            go_wp2
            go_roundw
            case rel => exact ⟨k + 1, by omega, rfl, by go_num, hb2⟩
            case measure => simp [intOf]; omega
          · have i1 : ¬ (k : Int) ≤ 1000 := by omega
            go_wp2
            go_ret
            exact ⟨rfl, hbel⟩
    · have HL : Hid (letter (byteAt s 0) = 113) := letter_q h0 hq
      have hq' : (((s[0]'h0).toNat : Int) == 81) = false := by simpa using hq
      clear hq
      go_wp2
      · skip
        go_loopw [5, 10] (fun fv i wr => ∃ k : Nat, k ≤ 1001 ∧ fv = .int .i64 (-1) ∧ i = .int .i64 k ∧ Below w.heap.size w wr) (fun _ i _ => 1001 - (intOf i).toNat)
        case atStart => exact ⟨0, by omega, rfl, rfl, Below.refl _ _⟩
        case round =>
          obtain ⟨k, hk, rfl, rfl, hbel⟩ := hrel
          by_cases hlt : k ≤ 1000
          · have i1 : (k : Int) ≤ 1000 := by omega
            go_wp2_with fail
            refine (rend5 s (byteAt s) k 113 _ HS.out (byteAt_eq s) (by omega) i1).mono ?_
            rintro e w1 ⟨bb, rfl, hbb, hb1⟩
            have hf : bb = false := by
              cases bb
              · rfl
              · exact absurd ((rend_iff (by omega) (by omega) (by omega) (by omega)).1 (HL.out ▸ hbb.1 rfl)).1 HN.out
            subst hf
            have hb2 := below_up hbel hb1
            clear hbb hb1 hbel
            go_wp2
            go_roundw
            case rel => exact ⟨k + 1, by omega, rfl, by go_num, hb2⟩
            case measure => simp [intOf]; omega
          · have i1 : ¬ (k : Int) ≤ 1000 := by omega
            go_wp2
            go_ret
            exact ⟨rfl, hbel⟩
  · obtain ⟨hG, hv⟩ := h1 rfl
    have HG : Hid (Good 5 (byteAt s) ∧ v = val 5 (byteAt s)) := by rw [hs] at hG hv; exact ⟨hG, hv⟩
    have vb := val_bd HG.out.1
    rw [← HG.out.2] at vb
    obtain ⟨v0, v1⟩ := vb
    clear h1 h2 hG hv
    by_cases hq : ((s[0]'h0).toNat : Int) = 81
    · have HL : Hid (letter (byteAt s 0) = 81) := letter_Q h0 hq
      go_wp2
      · clear hq
        go_loopw [5, 10] (fun fv i wr => ∃ k : Nat, k ≤ 1001 ∧ fv = .int .i64 (fnd v k) ∧ i = .int .i64 k ∧ Below w.heap.size w wr) (fun _ i _ => 1001 - (intOf i).toNat)
        case atStart => exact ⟨0, by omega, by simp [fnd]; omega, rfl, Below.refl _ _⟩
        case round =>
          obtain ⟨k, hk, rfl, rfl, hbel⟩ := hrel
          by_cases hlt : k ≤ 1000
          · have i1 : (k : Int) ≤ 1000 := by omega
            go_wp2_with fail
            refine (rend5 s (byteAt s) k 81 _ HS.out (byteAt_eq s) (by omega) i1).mono ?_
            rintro e w1 ⟨bb, rfl, hbb, hb1⟩
            have hb2 := below_up hbel hb1
            have hiff : bb = true ↔ (k : Int) = v := by
              rw [hbb, ← HL.out, rend_iff (by omega) (by omega) (by omega) (by omega)]
              exact ⟨fun h => h.2.trans HG.out.2.symm, fun h => ⟨HG.out.1, h.trans HG.out.2⟩⟩
            clear hbb hb1 hbel
            by_cases hkv : (k : Int) = v
            · have hf : bb = true := hiff.2 hkv
              subst hf
              have F : Hid ((k : Int) = fnd v ((k + 1 : Nat) : Int)) := by show (k : Int) = fnd v ((k + 1 : Nat) : Int); rw [fnd, if_pos (by omega)]; exact hkv
              clear hkv hiff
              go_wp2
              go_roundw
              case rel => exact ⟨k + 1, by omega, congrArg (Value.int .i64) F.out, by go_num, hb2⟩
              case measure => simp [intOf]; omega
            · have hf : bb = false := by
                cases bb
                · rfl
                · exact absurd (hiff.1 rfl) hkv
              subst hf
              have F : Hid (fnd v (k : Int) = fnd v ((k + 1 : Nat) : Int)) := by
                show fnd v (k : Int) = fnd v ((k + 1 : Nat) : Int)
                unfold fnd
                by_cases h : v < (k : Int)
                · rw [if_pos h, if_pos (by omega)]
                · rw [if_neg h, if_neg (by omega)]
              clear hkv hiff
              go_wp2
              go_roundw
              case rel => exact ⟨k + 1, by omega, congrArg (Value.int .i64) F.out, by go_num, hb2⟩
              case measure => simp [intOf]; omega
          · have i1 : ¬ (k : Int) ≤ 1000 := by omega
            have e1 : fnd v (k : Int) = v := by rw [fnd, if_pos (by omega)]
            go_wp2
            go_ret
            exact ⟨rfl, hbel⟩
    · have HL : Hid (letter (byteAt s 0) = 113) := letter_q h0 hq
      have hq' : (((s[0]'h0).toNat : Int) == 81) = false := by simpa using hq
      clear hq
      go_wp2
      · skip
        go_loopw [5, 10] (fun fv i wr => ∃ k : Nat, k ≤ 1001 ∧ fv = .int .i64 (fnd v k) ∧ i = .int .i64 k ∧ Below w.heap.size w wr) (fun _ i _ => 1001 - (intOf i).toNat)
        case atStart => exact ⟨0, by omega, by simp [fnd]; omega, rfl, Below.refl _ _⟩
        case round =>
          obtain ⟨k, hk, rfl, rfl, hbel⟩ := hrel
          by_cases hlt : k ≤ 1000
          · have i1 : (k : Int) ≤ 1000 := by omega
            go_wp2_with fail
            refine (rend5 s (byteAt s) k 113 _ HS.out (byteAt_eq s) (by omega) i1).mono ?_
            rintro e w1 ⟨bb, rfl, hbb, hb1⟩
            have hb2 := below_up hbel hb1
            have hiff : bb = true ↔ (k : Int) = v := by
              rw [hbb, ← HL.out, rend_iff (by omega) (by omega) (by omega) (by omega)]
              exact ⟨fun h => h.2.trans HG.out.2.symm, fun h => ⟨HG.out.1, h.trans HG.out.2⟩⟩
            clear hbb hb1 hbel
            by_cases hkv : (k : Int) = v
            · have hf : bb = true := hiff.2 hkv
              subst hf
              have F : Hid ((k : Int) = fnd v ((k + 1 : Nat) : Int)) := by show (k : Int) = fnd v ((k + 1 : Nat) : Int); rw [fnd, if_pos (by omega)]; exact hkv
              clear hkv hiff
              go_wp2
              go_roundw
              case rel => exact ⟨k + 1, by omega, congrArg (Value.int .i64) F.out, by go_num, hb2⟩
              case measure => simp [intOf]; omega
            · have hf : bb = false := by
                cases bb
                · rfl
                · exact absurd (hiff.1 rfl) hkv
              subst hf
              have F : Hid (fnd v (k : Int) = fnd v ((k + 1 : Nat) : Int)) := by
                show fnd v (k : Int) = fnd v ((k + 1 : Nat) : Int)
                unfold fnd
                by_cases h : v < (k : Int)
                · rw [if_pos h, if_pos (by omega)]
                · rw [if_neg h, if_neg (by omega)]
              clear hkv hiff
              go_wp2
              go_roundw
              case rel => exact ⟨k + 1, by omega, congrArg (Value.int .i64) F.out, by go_num, hb2⟩
              case measure => simp [intOf]; omega
          · have i1 : ¬ (k : Int) ≤ 1000 := by omega
            have e1 : fnd v (k : Int) = v := by rw [fnd, if_pos (by omega)]
            go_wp2
            go_ret
            exact ⟨rfl, hbel⟩

set_option maxHeartbeats 4000000 in
theorem law6 (s : ByteArray) (w : World) (hs : s.size = 6) : Calls Try.prog 6 #[.string s] w fun e w' => e = .returned (.bool true) ∧ Below w.heap.size w w' := by
  have HS := hid hs
  have h0 : 0 < s.size := by omega
  have H := hid (zzQvalue s w)
  go_enter Try.func6, Try.ntmps6
  go_wp2_with (go_at_call 13; go_in)
  refine H.out.mono ?_
  rintro e w' ⟨v, ok, rfl, rfl, h1, h2⟩
  clear H
  cases ok
  · obtain ⟨rfl, hN⟩ := h2 rfl
    have HN : Hid (¬ Good 6 (byteAt s)) := by rw [hs] at hN; exact hN
    clear h1 h2 hN
    by_cases hq : ((s[0]'h0).toNat : Int) = 81
    · have HL : Hid (letter (byteAt s 0) = 81) := letter_Q h0 hq
      go_wp2
      · clear hq
        go_loopw [5, 10] (fun fv i wr => ∃ k : Nat, k ≤ 1001 ∧ fv = .int .i64 (-1) ∧ i = .int .i64 k ∧ Below w.heap.size w wr) (fun _ i _ => 1001 - (intOf i).toNat)
        case atStart => exact ⟨0, by omega, rfl, rfl, Below.refl _ _⟩
        case round =>
          obtain ⟨k, hk, rfl, rfl, hbel⟩ := hrel
          by_cases hlt : k ≤ 1000
          · have i1 : (k : Int) ≤ 1000 := by omega
            go_wp2_with fail
            refine (rend6 s (byteAt s) k 81 _ HS.out (byteAt_eq s) (by omega) i1).mono ?_
            rintro e w1 ⟨bb, rfl, hbb, hb1⟩
            have hf : bb = false := by
              cases bb
              · rfl
              · exact absurd ((rend_iff (by omega) (by omega) (by omega) (by omega)).1 (HL.out ▸ hbb.1 rfl)).1 HN.out
            subst hf
            have hb2 := below_up hbel hb1
            clear hbb hb1 hbel
            go_wp2
            go_roundw
            case rel => exact ⟨k + 1, by omega, rfl, by go_num, hb2⟩
            case measure => simp [intOf]; omega
          · have i1 : ¬ (k : Int) ≤ 1000 := by omega
            go_wp2
            go_ret
            exact ⟨rfl, hbel⟩
    · have HL : Hid (letter (byteAt s 0) = 113) := letter_q h0 hq
      have hq' : (((s[0]'h0).toNat : Int) == 81) = false := by simpa using hq
      clear hq
      go_wp2
      · skip
        go_loopw [5, 10] (fun fv i wr => ∃ k : Nat, k ≤ 1001 ∧ fv = .int .i64 (-1) ∧ i = .int .i64 k ∧ Below w.heap.size w wr) (fun _ i _ => 1001 - (intOf i).toNat)
        case atStart => exact ⟨0, by omega, rfl, rfl, Below.refl _ _⟩
        case round =>
          obtain ⟨k, hk, rfl, rfl, hbel⟩ := hrel
          by_cases hlt : k ≤ 1000
          · have i1 : (k : Int) ≤ 1000 := by omega
            go_wp2_with fail
            refine (rend6 s (byteAt s) k 113 _ HS.out (byteAt_eq s) (by omega) i1).mono ?_
            rintro e w1 ⟨bb, rfl, hbb, hb1⟩
            have hf : bb = false := by
              cases bb
              · rfl
              · exact absurd ((rend_iff (by omega) (by omega) (by omega) (by omega)).1 (HL.out ▸ hbb.1 rfl)).1 HN.out
            subst hf
            have hb2 := below_up hbel hb1
            clear hbb hb1 hbel
            go_wp2
            go_roundw
            case rel => exact ⟨k + 1, by omega, rfl, by go_num, hb2⟩
            case measure => simp [intOf]; omega
          · have i1 : ¬ (k : Int) ≤ 1000 := by omega
            go_wp2
            go_ret
            exact ⟨rfl, hbel⟩
  · obtain ⟨hG, hv⟩ := h1 rfl
    have HG : Hid (Good 6 (byteAt s) ∧ v = val 6 (byteAt s)) := by rw [hs] at hG hv; exact ⟨hG, hv⟩
    have vb := val_bd HG.out.1
    rw [← HG.out.2] at vb
    obtain ⟨v0, v1⟩ := vb
    clear h1 h2 hG hv
    by_cases hq : ((s[0]'h0).toNat : Int) = 81
    · have HL : Hid (letter (byteAt s 0) = 81) := letter_Q h0 hq
      go_wp2
      · clear hq
        go_loopw [5, 10] (fun fv i wr => ∃ k : Nat, k ≤ 1001 ∧ fv = .int .i64 (fnd v k) ∧ i = .int .i64 k ∧ Below w.heap.size w wr) (fun _ i _ => 1001 - (intOf i).toNat)
        case atStart => exact ⟨0, by omega, by simp [fnd]; omega, rfl, Below.refl _ _⟩
        case round =>
          obtain ⟨k, hk, rfl, rfl, hbel⟩ := hrel
          by_cases hlt : k ≤ 1000
          · have i1 : (k : Int) ≤ 1000 := by omega
            go_wp2_with fail
            refine (rend6 s (byteAt s) k 81 _ HS.out (byteAt_eq s) (by omega) i1).mono ?_
            rintro e w1 ⟨bb, rfl, hbb, hb1⟩
            have hb2 := below_up hbel hb1
            have hiff : bb = true ↔ (k : Int) = v := by
              rw [hbb, ← HL.out, rend_iff (by omega) (by omega) (by omega) (by omega)]
              exact ⟨fun h => h.2.trans HG.out.2.symm, fun h => ⟨HG.out.1, h.trans HG.out.2⟩⟩
            clear hbb hb1 hbel
            by_cases hkv : (k : Int) = v
            · have hf : bb = true := hiff.2 hkv
              subst hf
              have F : Hid ((k : Int) = fnd v ((k + 1 : Nat) : Int)) := by show (k : Int) = fnd v ((k + 1 : Nat) : Int); rw [fnd, if_pos (by omega)]; exact hkv
              clear hkv hiff
              go_wp2
              go_roundw
              case rel => exact ⟨k + 1, by omega, congrArg (Value.int .i64) F.out, by go_num, hb2⟩
              case measure => simp [intOf]; omega
            · have hf : bb = false := by
                cases bb
                · rfl
                · exact absurd (hiff.1 rfl) hkv
              subst hf
              have F : Hid (fnd v (k : Int) = fnd v ((k + 1 : Nat) : Int)) := by
                show fnd v (k : Int) = fnd v ((k + 1 : Nat) : Int)
                unfold fnd
                by_cases h : v < (k : Int)
                · rw [if_pos h, if_pos (by omega)]
                · rw [if_neg h, if_neg (by omega)]
              clear hkv hiff
              go_wp2
              go_roundw
              case rel => exact ⟨k + 1, by omega, congrArg (Value.int .i64) F.out, by go_num, hb2⟩
              case measure => simp [intOf]; omega
          · have i1 : ¬ (k : Int) ≤ 1000 := by omega
            have e1 : fnd v (k : Int) = v := by rw [fnd, if_pos (by omega)]
            go_wp2
            go_ret
            exact ⟨rfl, hbel⟩
    · have HL : Hid (letter (byteAt s 0) = 113) := letter_q h0 hq
      have hq' : (((s[0]'h0).toNat : Int) == 81) = false := by simpa using hq
      clear hq
      go_wp2
      · skip
        go_loopw [5, 10] (fun fv i wr => ∃ k : Nat, k ≤ 1001 ∧ fv = .int .i64 (fnd v k) ∧ i = .int .i64 k ∧ Below w.heap.size w wr) (fun _ i _ => 1001 - (intOf i).toNat)
        case atStart => exact ⟨0, by omega, by simp [fnd]; omega, rfl, Below.refl _ _⟩
        case round =>
          obtain ⟨k, hk, rfl, rfl, hbel⟩ := hrel
          by_cases hlt : k ≤ 1000
          · have i1 : (k : Int) ≤ 1000 := by omega
            go_wp2_with fail
            refine (rend6 s (byteAt s) k 113 _ HS.out (byteAt_eq s) (by omega) i1).mono ?_
            rintro e w1 ⟨bb, rfl, hbb, hb1⟩
            have hb2 := below_up hbel hb1
            have hiff : bb = true ↔ (k : Int) = v := by
              rw [hbb, ← HL.out, rend_iff (by omega) (by omega) (by omega) (by omega)]
              exact ⟨fun h => h.2.trans HG.out.2.symm, fun h => ⟨HG.out.1, h.trans HG.out.2⟩⟩
            clear hbb hb1 hbel
            by_cases hkv : (k : Int) = v
            · have hf : bb = true := hiff.2 hkv
              subst hf
              have F : Hid ((k : Int) = fnd v ((k + 1 : Nat) : Int)) := by show (k : Int) = fnd v ((k + 1 : Nat) : Int); rw [fnd, if_pos (by omega)]; exact hkv
              clear hkv hiff
              go_wp2
              go_roundw
              case rel => exact ⟨k + 1, by omega, congrArg (Value.int .i64) F.out, by go_num, hb2⟩
              case measure => simp [intOf]; omega
            · have hf : bb = false := by
                cases bb
                · rfl
                · exact absurd (hiff.1 rfl) hkv
              subst hf
              have F : Hid (fnd v (k : Int) = fnd v ((k + 1 : Nat) : Int)) := by
                show fnd v (k : Int) = fnd v ((k + 1 : Nat) : Int)
                unfold fnd
                by_cases h : v < (k : Int)
                · rw [if_pos h, if_pos (by omega)]
                · rw [if_neg h, if_neg (by omega)]
              clear hkv hiff
              go_wp2
              go_roundw
              case rel => exact ⟨k + 1, by omega, congrArg (Value.int .i64) F.out, by go_num, hb2⟩
              case measure => simp [intOf]; omega
          · have i1 : ¬ (k : Int) ≤ 1000 := by omega
            have e1 : fnd v (k : Int) = v := by rw [fnd, if_pos (by omega)]
            go_wp2
            go_ret
            exact ⟨rfl, hbel⟩

set_option maxHeartbeats 4000000 in
theorem law7 (s : ByteArray) (w : World) (hs : s.size = 7) : Calls Try.prog 6 #[.string s] w fun e w' => e = .returned (.bool true) ∧ Below w.heap.size w w' := by
  have HS := hid hs
  have h0 : 0 < s.size := by omega
  have H := hid (zzQvalue s w)
  go_enter Try.func6, Try.ntmps6
  go_wp2_with (go_at_call 13; go_in)
  refine H.out.mono ?_
  rintro e w' ⟨v, ok, rfl, rfl, h1, h2⟩
  clear H
  cases ok
  · obtain ⟨rfl, hN⟩ := h2 rfl
    have HN : Hid (¬ Good 7 (byteAt s)) := by rw [hs] at hN; exact hN
    clear h1 h2 hN
    by_cases hq : ((s[0]'h0).toNat : Int) = 81
    · have HL : Hid (letter (byteAt s 0) = 81) := letter_Q h0 hq
      go_wp2
      · clear hq
        go_loopw [5, 10] (fun fv i wr => ∃ k : Nat, k ≤ 1001 ∧ fv = .int .i64 (-1) ∧ i = .int .i64 k ∧ Below w.heap.size w wr) (fun _ i _ => 1001 - (intOf i).toNat)
        case atStart => exact ⟨0, by omega, rfl, rfl, Below.refl _ _⟩
        case round =>
          obtain ⟨k, hk, rfl, rfl, hbel⟩ := hrel
          by_cases hlt : k ≤ 1000
          · have i1 : (k : Int) ≤ 1000 := by omega
            go_wp2_with fail
            refine (rend7 s (byteAt s) k 81 _ HS.out (byteAt_eq s) (by omega) i1).mono ?_
            rintro e w1 ⟨bb, rfl, hbb, hb1⟩
            have hf : bb = false := by
              cases bb
              · rfl
              · exact absurd ((rend_iff (by omega) (by omega) (by omega) (by omega)).1 (HL.out ▸ hbb.1 rfl)).1 HN.out
            subst hf
            have hb2 := below_up hbel hb1
            clear hbb hb1 hbel
            go_wp2
            go_roundw
            case rel => exact ⟨k + 1, by omega, rfl, by go_num, hb2⟩
            case measure => simp [intOf]; omega
          · have i1 : ¬ (k : Int) ≤ 1000 := by omega
            go_wp2
            go_ret
            exact ⟨rfl, hbel⟩
    · have HL : Hid (letter (byteAt s 0) = 113) := letter_q h0 hq
      have hq' : (((s[0]'h0).toNat : Int) == 81) = false := by simpa using hq
      clear hq
      go_wp2
      · skip
        go_loopw [5, 10] (fun fv i wr => ∃ k : Nat, k ≤ 1001 ∧ fv = .int .i64 (-1) ∧ i = .int .i64 k ∧ Below w.heap.size w wr) (fun _ i _ => 1001 - (intOf i).toNat)
        case atStart => exact ⟨0, by omega, rfl, rfl, Below.refl _ _⟩
        case round =>
          obtain ⟨k, hk, rfl, rfl, hbel⟩ := hrel
          by_cases hlt : k ≤ 1000
          · have i1 : (k : Int) ≤ 1000 := by omega
            go_wp2_with fail
            refine (rend7 s (byteAt s) k 113 _ HS.out (byteAt_eq s) (by omega) i1).mono ?_
            rintro e w1 ⟨bb, rfl, hbb, hb1⟩
            have hf : bb = false := by
              cases bb
              · rfl
              · exact absurd ((rend_iff (by omega) (by omega) (by omega) (by omega)).1 (HL.out ▸ hbb.1 rfl)).1 HN.out
            subst hf
            have hb2 := below_up hbel hb1
            clear hbb hb1 hbel
            go_wp2
            go_roundw
            case rel => exact ⟨k + 1, by omega, rfl, by go_num, hb2⟩
            case measure => simp [intOf]; omega
          · have i1 : ¬ (k : Int) ≤ 1000 := by omega
            go_wp2
            go_ret
            exact ⟨rfl, hbel⟩
  · obtain ⟨hG, hv⟩ := h1 rfl
    have HG : Hid (Good 7 (byteAt s) ∧ v = val 7 (byteAt s)) := by rw [hs] at hG hv; exact ⟨hG, hv⟩
    have vb := val_bd HG.out.1
    rw [← HG.out.2] at vb
    obtain ⟨v0, v1⟩ := vb
    clear h1 h2 hG hv
    by_cases hq : ((s[0]'h0).toNat : Int) = 81
    · have HL : Hid (letter (byteAt s 0) = 81) := letter_Q h0 hq
      go_wp2
      · clear hq
        go_loopw [5, 10] (fun fv i wr => ∃ k : Nat, k ≤ 1001 ∧ fv = .int .i64 (fnd v k) ∧ i = .int .i64 k ∧ Below w.heap.size w wr) (fun _ i _ => 1001 - (intOf i).toNat)
        case atStart => exact ⟨0, by omega, by simp [fnd]; omega, rfl, Below.refl _ _⟩
        case round =>
          obtain ⟨k, hk, rfl, rfl, hbel⟩ := hrel
          by_cases hlt : k ≤ 1000
          · have i1 : (k : Int) ≤ 1000 := by omega
            go_wp2_with fail
            refine (rend7 s (byteAt s) k 81 _ HS.out (byteAt_eq s) (by omega) i1).mono ?_
            rintro e w1 ⟨bb, rfl, hbb, hb1⟩
            have hb2 := below_up hbel hb1
            have hiff : bb = true ↔ (k : Int) = v := by
              rw [hbb, ← HL.out, rend_iff (by omega) (by omega) (by omega) (by omega)]
              exact ⟨fun h => h.2.trans HG.out.2.symm, fun h => ⟨HG.out.1, h.trans HG.out.2⟩⟩
            clear hbb hb1 hbel
            by_cases hkv : (k : Int) = v
            · have hf : bb = true := hiff.2 hkv
              subst hf
              have F : Hid ((k : Int) = fnd v ((k + 1 : Nat) : Int)) := by show (k : Int) = fnd v ((k + 1 : Nat) : Int); rw [fnd, if_pos (by omega)]; exact hkv
              clear hkv hiff
              go_wp2
              go_roundw
              case rel => exact ⟨k + 1, by omega, congrArg (Value.int .i64) F.out, by go_num, hb2⟩
              case measure => simp [intOf]; omega
            · have hf : bb = false := by
                cases bb
                · rfl
                · exact absurd (hiff.1 rfl) hkv
              subst hf
              have F : Hid (fnd v (k : Int) = fnd v ((k + 1 : Nat) : Int)) := by
                show fnd v (k : Int) = fnd v ((k + 1 : Nat) : Int)
                unfold fnd
                by_cases h : v < (k : Int)
                · rw [if_pos h, if_pos (by omega)]
                · rw [if_neg h, if_neg (by omega)]
              clear hkv hiff
              go_wp2
              go_roundw
              case rel => exact ⟨k + 1, by omega, congrArg (Value.int .i64) F.out, by go_num, hb2⟩
              case measure => simp [intOf]; omega
          · have i1 : ¬ (k : Int) ≤ 1000 := by omega
            have e1 : fnd v (k : Int) = v := by rw [fnd, if_pos (by omega)]
            go_wp2
            go_ret
            exact ⟨rfl, hbel⟩
    · have HL : Hid (letter (byteAt s 0) = 113) := letter_q h0 hq
      have hq' : (((s[0]'h0).toNat : Int) == 81) = false := by simpa using hq
      clear hq
      go_wp2
      · skip
        go_loopw [5, 10] (fun fv i wr => ∃ k : Nat, k ≤ 1001 ∧ fv = .int .i64 (fnd v k) ∧ i = .int .i64 k ∧ Below w.heap.size w wr) (fun _ i _ => 1001 - (intOf i).toNat)
        case atStart => exact ⟨0, by omega, by simp [fnd]; omega, rfl, Below.refl _ _⟩
        case round =>
          obtain ⟨k, hk, rfl, rfl, hbel⟩ := hrel
          by_cases hlt : k ≤ 1000
          · have i1 : (k : Int) ≤ 1000 := by omega
            go_wp2_with fail
            refine (rend7 s (byteAt s) k 113 _ HS.out (byteAt_eq s) (by omega) i1).mono ?_
            rintro e w1 ⟨bb, rfl, hbb, hb1⟩
            have hb2 := below_up hbel hb1
            have hiff : bb = true ↔ (k : Int) = v := by
              rw [hbb, ← HL.out, rend_iff (by omega) (by omega) (by omega) (by omega)]
              exact ⟨fun h => h.2.trans HG.out.2.symm, fun h => ⟨HG.out.1, h.trans HG.out.2⟩⟩
            clear hbb hb1 hbel
            by_cases hkv : (k : Int) = v
            · have hf : bb = true := hiff.2 hkv
              subst hf
              have F : Hid ((k : Int) = fnd v ((k + 1 : Nat) : Int)) := by show (k : Int) = fnd v ((k + 1 : Nat) : Int); rw [fnd, if_pos (by omega)]; exact hkv
              clear hkv hiff
              go_wp2
              go_roundw
              case rel => exact ⟨k + 1, by omega, congrArg (Value.int .i64) F.out, by go_num, hb2⟩
              case measure => simp [intOf]; omega
            · have hf : bb = false := by
                cases bb
                · rfl
                · exact absurd (hiff.1 rfl) hkv
              subst hf
              have F : Hid (fnd v (k : Int) = fnd v ((k + 1 : Nat) : Int)) := by
                show fnd v (k : Int) = fnd v ((k + 1 : Nat) : Int)
                unfold fnd
                by_cases h : v < (k : Int)
                · rw [if_pos h, if_pos (by omega)]
                · rw [if_neg h, if_neg (by omega)]
              clear hkv hiff
              go_wp2
              go_roundw
              case rel => exact ⟨k + 1, by omega, congrArg (Value.int .i64) F.out, by go_num, hb2⟩
              case measure => simp [intOf]; omega
          · have i1 : ¬ (k : Int) ≤ 1000 := by omega
            have e1 : fnd v (k : Int) = v := by rw [fnd, if_pos (by omega)]
            go_wp2
            go_ret
            exact ⟨rfl, hbel⟩

/-- A weight beyond the size that the law looks at. -/
theorem law_big (s : ByteArray) (w : World) (hs : 1048576 < s.size) : Calls Try.prog 6 #[.string s] w fun e w' => e = .returned (.bool true) ∧ Below w.heap.size w w' := by
  have i1 : (1048576 : Int) < (s.size : Int) := by omega
  go_enter Try.func6, Try.ntmps6
  go_wp2
  go_ret
  exact ⟨rfl, Below.refl _ _⟩

/-- A weight that is too short or too long for a rendering. -/
theorem law_out (s : ByteArray) (w : World) (hs : s.size < 3 ∨ 7 < s.size) (hl : s.size ≤ 1048576) : Calls Try.prog 6 #[.string s] w fun e w' => e = .returned (.bool true) ∧ Below w.heap.size w w' := by
  have H := hid (zzQvalue s w)
  have i1 : ¬ (1048576 : Int) < (s.size : Int) := by omega
  have HH := hid hs
  rcases hs with hs | hs
  all_goals
    go_enter Try.func6, Try.ntmps6
    go_wp2_with (go_at_call 13; go_in)
    refine H.out.mono ?_
    rintro e w' ⟨v, ok, rfl, rfl, h1, h2⟩
    clear H
    have hf : ok = false := by
      cases ok
      · rfl
      · have := (h1 rfl).1
        have a := this.1
        have b := this.2.1
        omega
    subst hf
    obtain ⟨rfl, hN⟩ := h2 rfl
    clear h1 h2 hN HH
    go_wp2
    go_ret
    exact ⟨rfl, Below.refl _ _⟩

/-- THE LAW, whatever the weight. -/
theorem law (s : ByteArray) (w : World) : Calls Try.prog 6 #[.string s] w fun e w' => e = .returned (.bool true) ∧ Below w.heap.size w w' := by
  by_cases hl : 1048576 < s.size
  · exact law_big s w hl
  by_cases h : s.size < 3 ∨ 7 < s.size
  · exact law_out s w h (by omega)
  rcases (show s.size = 3 ∨ s.size = 4 ∨ s.size = 5 ∨ s.size = 6 ∨ s.size = 7 by omega) with h | h | h | h | h
  · exact law3 s w h
  · exact law4 s w h
  · exact law5 s w h
  · exact law6 s w h
  · exact law7 s w h

end Go.Proofs.Qxb6600343a.qv
