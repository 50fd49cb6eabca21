/-
  The walk of asn1Signature (15), ZZAsn1Signature (8).
-/
import Derived.Test.Qxb6600187aParts
import Derived.BigRegion
namespace Go.Proofs.Qxb6600187a.inj
open Go.RowKit Go.Deep
set_option linter.unusedVariables false

theorem hid {p : Prop} (h : p) : Hid p := h

set_option maxHeartbeats 1000000 in
theorem asn1 (b : Nat) (Z : List Int) (w : World) (hz : Z.length = 64) (hb' : b < w.heap.size) (hc : ∀ i, i < 64 → w.cell? ⟨b, i, none⟩ = some (.int .u8 (Z.getD i 0))) :
    Calls Try.prog 15 #[.slice (some ⟨b, 0, none⟩) 64 64] w fun e w' => ∃ ys : List Int, e = .returned (.slice (some ⟨w.heap.size, 0, none⟩) ys.length 72) ∧ ys.length ≤ 72 ∧ IsDer hb Z ys ∧ In8 w' (some ⟨w.heap.size, 0, none⟩) ys ∧ Below w.heap.size w w' ∧ w.heap.size < w'.heap.size := by
  obtain ⟨i0, hi, hz0, hz1, hz2⟩ := info_parts info5
  have hmk : ∀ w, (Instr.makeSlice 22 (.int .i64 2) (.int .i64 72)).run Try.prog w = .ok (.slice (some ⟨w.heap.size, 0, none⟩) 2 72) (w.alloc (.cells row72 5)) := fun _ => by kernel_rfl
  have h720 : row72[0]? = some (.int .u8 0) := by kernel_rfl
  go_enter Try.func15, Try.ntmps15
  go_wp2
  go_region
  go_wp2
  clear hmk h720
  have HZ : Hid (Z.length = 64) := hz
  have HC : Hid (∀ i, i < 64 → w.cell? ⟨b, i, none⟩ = some (.int .u8 (Z.getD i 0))) := hc
  clear hz hc
  go_loopw [3, 15] (fun dv i wr => ∃ (k : Nat) (xs : List Int), k ≤ 2 ∧ dv = .slice (some ⟨w.heap.size, 0, none⟩) xs.length 72 ∧ i = .int .i64 k ∧ Der w wr b Z k xs) (fun _ i _ => 2 - (intOf i).toNat)
  case atStart => exact ⟨0, [48, 0], by omega, rfl, rfl, der_start w b Z⟩
  case round =>
    obtain ⟨k, xs, hk, rfl, rfl, hD⟩ := hrel
    by_cases hlt : k < 2
    · have g1 := hD.pair k hlt
      go_wp2
      clear g1
      go_loop [5] (fun v => ∃ (j L c : Nat), L + j = 32 ∧ 1 ≤ L ∧ L ≤ c ∧ v = .slice (some ⟨b, 32 * k + j, none⟩) L c ∧ Hid (∀ i, i < j → Z.getD (32 * k + i) 0 = 0)) (fun v => lenOf v)
      case atStart => exact ⟨0, 32, 64 - 32 * k, by omega, by omega, by omega, rfl, fun i h => absurd h (Nat.not_lt_zero _)⟩
      case round =>
        obtain ⟨j, L, c, h1, h2, h3, rfl, hE⟩ := hrel
        have g2 : wr.cell? ⟨b, 32 * k + j, none⟩ = some (.int .u8 (Z.getD (32 * k + j) 0)) := (hD.below.cell (p := ⟨b, 32 * k + j, none⟩) hb').trans (HC.out _ (by omega))
        obtain ⟨z, hz⟩ : ∃ z, z = Z.getD (32 * k + j) 0 := ⟨_, rfl⟩
        rw [← hz] at g2
        have Hz : Hid (z = Z.getD (32 * k + j) 0) := hz
        clear hz
        by_cases hgo : 1 < L ∧ z = 0
        · obtain ⟨h4, h5⟩ := hgo
          have e : (z == 0) = true := by simp [h5]
          have H5 : Hid (z = 0) := h5
          have i4 : (1 : Int) < (L : Int) := by omega
          clear h5
          go_wp2
          go_round
          case rel =>
            refine ⟨j + 1, L - 1, c - 1, by omega, by omega, by omega, rfl, fun i hi => ?_⟩
            by_cases e : i = j
            · subst e
              rw [← Hz.out]
              exact H5.out
            · exact hE.out i (by omega)
          case measure => simp [lenOf]; omega
        · have HX : Hid (L = 1 ∨ z ≠ 0) := by
            by_cases h : L = 1
            · exact .inl h
            · exact .inr (fun h0 => hgo ⟨by omega, h0⟩)
          have h5 : (1 < L ∧ (z == 0) = false) ∨ ¬ 1 < L := by
            by_cases h : 1 < L
            · exact .inl ⟨h, by simp; omega⟩
            · exact .inr h
          clear hgo
          have hxl := hD.parts.len HZ.out hk
          rcases h5 with ⟨h4, e⟩ | h4
          all_goals
            by_cases hh : hb z = true
            · have HI : Hid _ := int_hi HZ.out hlt h1 h2 Hz.out hE.out HX.out hh
              have hh' : (bits .and .u8 z 128 != 0) = true := hh
              clear hh
              go_wp2_with (first
                | (at_builtin; refine wpList_append_fits _ rfl (.tmp 35) (.tmp 40) 22 rfl w.heap.size 5 i0 1 Try.underlying22 hi hz1 w.heap.size xs.length 72 _ rfl (hD.own.alloc _) ⟨wr.heap.size, 0, none⟩ 3 3 [.int .u8 2, .int .u8 ((L : Int) + 1), .int .u8 0] rfl rfl (new_cells _ _ _) (ints_oneCell .u8 [2, (L : Int) + 1, 0]) (by omega) ?_; intro w1 hown1 hgrow1)
                | (at_builtin; refine wpList_append_fits _ rfl (.tmp 48) (.tmp 49) 22 rfl w.heap.size 5 i0 1 Try.underlying22 hi hz1 w.heap.size (xs.length + 3) 72 _ rfl hown1 ⟨b, 32 * k + j, none⟩ L c (((half Z k).drop j).map (Value.int .u8)) rfl (by rw [List.length_map, tail_len HZ.out hlt h1, Nat.mul_one]) (tail_cells (w := w) HZ.out hlt h1 (sig_cell HC.out hb' hD.below hgrow1)) (ints_oneCell _ _) (by omega) ?_; intro w2 hown2 hgrow2))
              obtain ⟨hS, hl⟩ := der_step (pre := [2, (L : Int) + 1, 0]) HZ.out hlt h1 hD hgrow1 hgrow2 hown2 rfl rfl HI.out
              go_roundw
              case rel => exact ⟨k + 1, _, by omega, by rw [hl], by go_num, hS⟩
              case measure => simp [intOf]; omega
            · have HI : Hid _ := int_lo HZ.out hlt h1 h2 Hz.out hE.out HX.out hh
              have hh' : (bits .and .u8 z 128 != 0) = false := by simpa [hb] using hh
              clear hh
              go_wp2_with (first
                | (at_builtin; refine wpList_append_fits _ rfl (.tmp 42) (.tmp 46) 22 rfl w.heap.size 5 i0 1 Try.underlying22 hi hz1 w.heap.size xs.length 72 _ rfl (hD.own.alloc _) ⟨wr.heap.size, 0, none⟩ 2 2 [.int .u8 2, .int .u8 (L : Int)] rfl rfl (new_cells _ _ _) (ints_oneCell .u8 [2, (L : Int)]) (by omega) ?_; intro w1 hown1 hgrow1)
                | (at_builtin; refine wpList_append_fits _ rfl (.tmp 48) (.tmp 49) 22 rfl w.heap.size 5 i0 1 Try.underlying22 hi hz1 w.heap.size (xs.length + 2) 72 _ rfl hown1 ⟨b, 32 * k + j, none⟩ L c (((half Z k).drop j).map (Value.int .u8)) rfl (by rw [List.length_map, tail_len HZ.out hlt h1, Nat.mul_one]) (tail_cells (w := w) HZ.out hlt h1 (sig_cell HC.out hb' hD.below hgrow1)) (ints_oneCell _ _) (by omega) ?_; intro w2 hown2 hgrow2))
              obtain ⟨hS, hl⟩ := der_step (pre := [2, (L : Int)]) HZ.out hlt h1 hD hgrow1 hgrow2 hown2 rfl rfl HI.out
              go_roundw
              case rel => exact ⟨k + 1, _, by omega, by rw [hl], by go_num, hS⟩
              case measure => simp [intOf]; omega
    · have hl := hD.parts.len HZ.out hk
      have l2 := hD.parts.ge
      have c1 : ∃ y : Int, wr.cell? ⟨w.heap.size, 1, none⟩ = some (.int .u8 y) := by
        have := hD.own.cellAt 1 (by omega)
        rw [List.getElem?_map, List.getElem?_eq_getElem (by omega)] at this
        exact ⟨_, this⟩
      obtain ⟨y, c1⟩ := c1
      have f1 : wr.frozen? ⟨w.heap.size, 1, none⟩ = false := hD.own.frozenAt 1
      have HS := hid (hD.own.stored 1 (.int .u8 ((xs.length : Int) - 2)))
      have hk2 : k = 2 := by omega
      have HE : Hid (IsDer hb Z (xs.set 1 ((xs.length : Int) - 2))) := der_end HZ.out (hk2 ▸ hD.parts) rfl
      have hbel := hD.below
      have hsz := hD.size
      clear hk2 hD
      go_wp2
      go_ret
      refine ⟨xs.set 1 ((xs.length : Int) - 2), ret_len (by rw [List.length_set]), by rw [List.length_set]; omega, HE.out, in8_own (base := w.heap.size) (n := xs.length) (cap := 72) (by rw [List.map_set]; exact HS.out.1) (by rw [List.length_set]), hbel.setCell (Nat.le_refl _) _, by simp; omega⟩

/-- Function 8: the same. -/
theorem zzAsn1 (b : Nat) (Z : List Int) (w : World) (hz : Z.length = 64) (hb' : b < w.heap.size) (hc : ∀ i, i < 64 → w.cell? ⟨b, i, none⟩ = some (.int .u8 (Z.getD i 0))) :
    Calls Try.prog 8 #[.slice (some ⟨b, 0, none⟩) 64 64] w fun e w' => ∃ ys : List Int, e = .returned (.slice (some ⟨w.heap.size, 0, none⟩) ys.length 72) ∧ ys.length ≤ 72 ∧ IsDer hb Z ys ∧ In8 w' (some ⟨w.heap.size, 0, none⟩) ys ∧ Below w.heap.size w w' ∧ w.heap.size < w'.heap.size := by
  have H := hid (asn1 b Z w hz hb' hc)
  clear hz hb' hc
  go_enter Try.func8, Try.ntmps8
  go_wp2_with fail
  refine H.out.mono ?_
  rintro e w1 ⟨ys, rfl, h1, h2, h3, h4, h5⟩
  clear H
  go_wp2
  go_ret
  exact ⟨ys, rfl, h1, h2, h3, h4, h5⟩

end Go.Proofs.Qxb6600187a.inj
