/-
  The walk of the law (6).
-/
import Derived.Test.Qxb6600008aLaw
namespace Go.Proofs.Qxb6600008a.settle
open Go.RowKit Go.Deep
set_option linter.unusedVariables false

theorem below_drawn {B : Nat} {a w : World} (h : Below B a w) (n : Nat) : Below B a (w.drewN n) := h.trans ⟨rfl, rfl, rfl, Nat.le_refl _, fun _ _ => rfl⟩
theorem not_true {b : Bool} (h : ¬ b = true) : b = false := by cases b; rfl; exact absurd rfl h

set_option maxRecDepth 100000 in
set_option maxHeartbeats 4000000 in
theorem law (a ap ad aq ak : Option Addr) (n cap lp cp ld cd lq cq lk ck : Nat) (A : Nat → Option Addr) (L C : Nat → Nat) (Z : Nat → Nat → Int) (PI D P : Nat → Int) (K : Nat → Bool) (top v d fr : Int) (rev : Bool) (w : World)
    (ht : Top w a n A L C) (hr : InRows w A n L Z) (hp : In64 w ap lp PI) (hd : In64 w ad ld D) (hq : In64 w aq lq P) (hk : InB w ak lk K) :
    Calls Try.prog 6 #[.slice a n cap, .int .i64 top, .slice ap lp cp, .slice ad ld cd, .slice aq lq cq, .slice ak lk ck, .int .i64 v, .int .i64 d, .int .i64 fr, .bool rev] w fun e w' =>
      e = .returned (.bool true) ∧ Below w.heap.size w w' := by
  go_enter Try.func6, Try.ntmps6
  go_wp2_with fail
  refine (bytesLid a ap ad aq ak n cap lp cp ld cd lq cq lk ck A L C top v d fr rev w ht).mono ?_
  rintro e w' ⟨b1, rfl, rfl, hb1⟩
  cases b1
  · clear ht hr hp hd hq hk hb1
    go_wp2
    go_ret
    exact ⟨rfl, Below.refl _ _⟩
  obtain ⟨ln, llp, lld, llq, llk⟩ := hb1 rfl
  clear hb1
  go_wp2_with fail
  refine (tooBig a ap ad aq ak n cap lp cp ld cd lq cq lk ck A L C w ht ln llp lld llq llk).mono ?_
  rintro e w' ⟨b2, rfl, rfl, -⟩
  cases b2
  rotate_left
  · clear ht hr hp hd hq hk
    go_wp2
    go_ret
    exact ⟨rfl, Below.refl _ _⟩
  go_wp2_with fail
  refine (shape a ap ad aq ak n cap lp cp ld cd lq cq lk ck A L C w ht ln llp lld llq llk).mono ?_
  rintro e w' ⟨b3, rfl, rfl, hb3⟩
  cases b3
  · clear ht hr hp hd hq hk hb3
    go_wp2
    go_ret
    exact ⟨rfl, Below.refl _ _⟩
  obtain ⟨le, e1, e2, e3, hL⟩ := hb3 rfl
  clear hb3
  obtain ⟨m, hm⟩ : ∃ m, ld = n + m := ⟨ld - n, by omega⟩
  subst hm
  subst e1 e2 e3
  have ht' := top_of ht hL
  have hr' := rows_of hr hL
  clear ht hr hL le llp llq llk
  go_wp2_with fail
  refine (nodeOk n (n + m) v rev w ln lld).mono ?_
  rintro e w' ⟨b4, rfl, rfl, hb4⟩
  cases b4
  · clear ht' hr' hp hd hq hk hb4
    go_wp2
    go_ret
    exact ⟨rfl, Below.refl _ _⟩
  obtain ⟨x, rfl, hx, hN⟩ := node_of (hb4 rfl)
  clear hb4
  have lm : m ≤ 1048576 := by omega
  have h0 : 0 < n + m := by omega
  go_wp2_with fail
  refine (cloneTable a n cap m A C Z w ln lm ht' hr').mono ?_
  rintro e w1 ⟨a1, A1, rfl, hb1, ht1, hr1⟩
  clear ht' hr'
  go_wp2_with fail
  refine (clone64 ap (n + m) cp PI w1 lld (hp.below hb1)).mono ?_
  rintro e w2 ⟨a2, rfl, hb2, hc2⟩
  obtain ⟨ea, hR2⟩ := hc2 h0
  subst ea
  clear hc2 hp
  go_wp2_with fail
  refine (clone64 ad (n + m) cd D w2 lld ((hd.below hb1).below hb2)).mono ?_
  rintro e w3 ⟨a3, rfl, hb3, hc3⟩
  obtain ⟨ea, hR3⟩ := hc3 h0
  subst ea
  clear hc3 hd
  go_wp2_with fail
  refine (cloneInts aq (n + m) cq P w3 lld (((hq.below hb1).below hb2).below hb3)).mono ?_
  rintro e w4 ⟨a4, rfl, hb4, hc4⟩
  obtain ⟨ea, hR4⟩ := hc4 h0
  subst ea
  clear hc4 hq
  go_wp2_with fail
  refine (cloneBools ak (n + m) ck K w4 lld ((((hk.below hb1).below hb2).below hb3).below hb4)).mono ?_
  rintro e w5 ⟨a5, rfl, hb5, hc5⟩
  obtain ⟨ea, hR5⟩ := hc5 h0
  subst ea
  clear hc5 hk
  have hR3' := rowIs_up (rowIs_up hR3 hb4) hb5
  have hR4' := rowIs_up hR4 hb5
  go_wp2_with fail
  refine (clone64 (some ⟨w2.heap.size, 0, none⟩) (n + m) (n + m) D w5 lld (In64.of hR3')).mono ?_
  rintro e w6 ⟨a6, rfl, hb6, hc6⟩
  obtain ⟨ea, hR6⟩ := hc6 h0
  subst ea
  clear hc6
  go_wp2_with fail
  refine (cloneInts (some ⟨w3.heap.size, 0, none⟩) (n + m) (n + m) P w6 lld (In64.of (rowIs_up hR4' hb6))).mono ?_
  rintro e w7 ⟨a7, rfl, hb7, hc7⟩
  obtain ⟨ea, hR7⟩ := hc7 h0
  subst ea
  clear hc7
  go_wp2_with fail
  refine (cloneBools (some ⟨w4.heap.size, 0, none⟩) (n + m) (n + m) K w7 lld (InB.of (rowIs_up (rowIs_up hR5 hb6) hb7))).mono ?_
  rintro e w8 ⟨a8, rfl, hb8, hc8⟩
  obtain ⟨ea, hR8⟩ := hc8 h0
  subst ea
  clear hc8
  have hb58 := below_up (below_up hb6 hb7) hb8
  have ro : Ro ⟨n, m, top, a1, A1, w1.heap.size, Z, PI⟩ w5 :=
    ⟨ln, lm, (((ht1.below hb2).below hb3).below hb4).below hb5, (((hr1.below hb2).below hb3).below hb4).below hb5, rowIs_up (rowIs_up (rowIs_up hR2 hb3) hb4) hb5⟩
  have hst : St ⟨n, m, top, a1, A1, w1.heap.size, Z, PI⟩ ⟨w5.heap.size, w6.heap.size, w7.heap.size, w8.heap.size⟩ w5 w8 D P K :=
    ⟨hb58, rowIs_up (rowIs_up hR6 hb7) hb8, rowIs_up hR7 hb8, hR8⟩
  have s2 : w5.heap.size < w6.heap.size := hR6.lt
  have s3 : w6.heap.size < w7.heap.size := hR7.lt
  have hbw5 := below_up (below_up (below_up (below_up hb1 hb2) hb3) hb4) hb5
  have H := hid (zzSettle ro hst (Nat.le_refl _) s2 s3 x d fr rev hN)
  have HS := fun w9 h9 => seen_of ro (w := w9) (bt := w8.heap.size) (gd := w5.heap.size) (gq := w6.heap.size) (gk := w7.heap.size) x d fr rev hN h9 hR3' hR4' hR5
  clear hb1 hb2 hb3 hb4 hb5 hb6 hb7 hb8 hb58 ht1 hr1 hR2 hR3 hR4 hR5 hR6 hR7 hR8 hR3' hR4' hst s2 s3 ro
  have HS := hid HS
  go_wp2_with fail
  refine H.out.mono ?_
  rintro e w9 ⟨rfl, h9⟩
  have hs := HS.out w9 h9
  have hbw9 : Below w.heap.size w w9 := below_up hbw5 h9.below
  clear H HS h9 hbw5
  generalize Env.arc _ rev x d = ARC at hs
  have q1 : w9.cell? ⟨w5.heap.size, x, none⟩ = some (.int .i64 d) := by simpa using hs.nd.cell hs.hv
  have q2 : w9.cell? ⟨w6.heap.size, x, none⟩ = some (.int .i64 fr) := by simpa using hs.np.cell hs.hv
  have q3 : w9.cell? ⟨w7.heap.size, x, none⟩ = some (.bool true) := by simpa using hs.nk.cell hs.hv
  have i1 : (x : Int) < ((n + m : Nat) : Int) := by omega
  clear hN
  go_wp2
  clear q1 q2 q3 i1
  go_loopw [26] (fun i wr => ∃ (k nq : Nat), k ≤ n + m ∧ i = .int .i64 k ∧ wr = w9.drewN nq) (fun i _ => n + m - (intOf i).toNat)
  case atStart => exact ⟨0, 0, Nat.zero_le _, rfl, rfl⟩
  case round =>
    obtain ⟨k, nq, hk, rfl, rfl⟩ := hrel
    by_cases hlt : k < n + m
    · by_cases hkx : k = x
      · have e : ((k : Int) == (x : Int)) = true := by simp [hkx]
        clear hkx
        go_wp2
        go_roundw
        case rel => exact ⟨k + 1, nq, by omega, by go_num, rfl⟩
        case measure => simp [intOf]; omega
      · have e : ((k : Int) == (x : Int)) = false := by simp; omega
        have i2 : (k : Int) < ((n + m : Nat) : Int) := by omega
        have r1 : w9.cell? ⟨w7.heap.size, k, none⟩ = some (.bool (K k)) := by simpa [hkx] using hs.nk.cell hlt
        have r2 : w9.cell? ⟨w4.heap.size, k, none⟩ = some (.bool (K k)) := hs.done.cell hlt
        have r3 : w9.cell? ⟨w2.heap.size, k, none⟩ = some (.int .i64 (D k)) := hs.dist.cell hlt
        have r4 : w9.cell? ⟨w3.heap.size, k, none⟩ = some (.int .i64 (P k)) := hs.prev.cell hlt
        have z1 := hs.nd.cell hlt
        have z2 := hs.np.cell hlt
        simp only [if_neg hkx] at z1 z2
        clear hkx
        by_cases ho : (if rev then decide (k < n) else decide (n ≤ k)) = true
        · by_cases hc : ARC k < D k
          · rw [if_pos ⟨ho, hc⟩] at z1 z2
            have HO : Hid _ := ho
            clear ho
            go_wp2
            go_quiet (fail)
            go_wp2_with fail
            refine (otherSide n k rev _).mono ?_
            rintro e w' ⟨rfl, rfl⟩
            rw [HO.out]
            go_wp2_with fail
            refine (hs.arc _ k (below_drawn (Below.refl _ _) _) hlt HO.out).mono ?_
            rintro e w' ⟨rfl, nq', rfl⟩
            go_wp2
            go_roundw
            case rel => exact ⟨k + 1, _, by omega, by go_num, rfl⟩
            case measure => simp [intOf]; omega
          · rw [if_neg (fun h => hc h.2)] at z1 z2
            have HO : Hid _ := ho
            clear ho
            go_wp2
            go_quiet (fail)
            go_wp2_with fail
            refine (otherSide n k rev _).mono ?_
            rintro e w' ⟨rfl, rfl⟩
            rw [HO.out]
            go_wp2_with fail
            refine (hs.arc _ k (below_drawn (Below.refl _ _) _) hlt HO.out).mono ?_
            rintro e w' ⟨rfl, nq', rfl⟩
            go_wp2
            go_roundw
            case rel => exact ⟨k + 1, _, by omega, by go_num, rfl⟩
            case measure => simp [intOf]; omega
        · rw [if_neg (fun h => ho h.1)] at z1 z2
          have HO : Hid ((if rev then decide (k < n) else decide (n ≤ k)) = false) := not_true ho
          clear ho
          go_wp2
          go_quiet (fail)
          go_wp2_with fail
          refine (otherSide n k rev _).mono ?_
          rintro e w' ⟨rfl, rfl⟩
          rw [HO.out]
          go_wp2
          go_roundw
          case rel => exact ⟨k + 1, _, by omega, by go_num, rfl⟩
          case measure => simp [intOf]; omega
    · go_wp2
      go_ret
      exact ⟨rfl, below_drawn hbw9 _⟩

end Go.Proofs.Qxb6600008a.settle
