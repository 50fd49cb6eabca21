/-
  The walk of zzRendersAs (15): a theorem a length of the weight, laid out of one text.
-/
import Derived.Test.Qxb6600343aRows
import Derived.Test.Qxb6600343aPlain
import Derived.WalkKit
import Derived.ProofKit
import Derived.WalkSpells
import Derived.WalkLawsBesides
import Derived.Below
import Derived.Deep.OwnRows
import Derived.Deep.QuietTactic
import Derived.BigQuiet
namespace Go.Proofs.Qxb6600343a.qv
open Go.RowKit Go.Deep
set_option linter.unusedVariables false

theorem hid {p : Prop} (h : p) : Hid p := h
/-- It answers whether P holds; nothing old has turned. (Under a name, so that the walk leaves it as it is.) -/
def Tells (P : Prop) (w : World) (e : Ending) (w' : World) : Prop := ∃ b : Bool, e = .returned (.bool b) ∧ (b = true ↔ P) ∧ Below w.heap.size w w'
theorem tells_no {P : Prop} {w w' : World} (h : ¬ P) (hb : Below w.heap.size w w') : Tells P w (.returned (.bool false)) w' := ⟨false, rfl, ⟨fun k => (by cases k), fun p => absurd p h⟩, hb⟩
theorem tells_yes {P : Prop} {w w' : World} (h : P) (hb : Below w.heap.size w w') : Tells P w (.returned (.bool true)) w' := ⟨true, rfl, ⟨fun _ => h, fun _ => rfl⟩, hb⟩

theorem below_drawn {B : Nat} {a w : World} (h : Below B a w) (n : Nat) : Below B a (w.drewN n) := h.trans ⟨rfl, rfl, rfl, Nat.le_refl _, fun _ _ => rfl⟩
theorem below_two (w : World) (o o' : Obj) : Below w.heap.size w ((w.alloc o).alloc o') := ((Below.refl _ _).alloc (Nat.le_refl _) _).alloc (by simp) _
/-- A cell of the block that lies below the last. -/
theorem cell_two (w : World) (cs cs' : Array Value) (t t' : TypeId) (k : Nat) : ((w.alloc (.cells cs t)).alloc (.cells cs' t')).cell? ⟨w.heap.size, k, none⟩ = cs[k]? := by
  rw [World.cell?_alloc_past _ _ _ (by simp), World.cell?_alloc_at _ _ _ _ rfl]

set_option maxHeartbeats 1000000 in
theorem rend3 (s : ByteArray) (B : Nat → Int) (c q : Int) (w : World) (hs : s.size = 3) (hB : ∀ i (h : i < s.size), ((s[i]'h).toNat : Int) = B i) (h0 : 0 ≤ c) (h1 : c ≤ 1000) :
    Calls Try.prog 15 #[.string s, .int .i64 c, .int .u8 q, .bool false, .int .i64 0] w fun e w' => Tells (Rend 3 B q c) w e w' := by
  have HS : Hid (s.size = 3) := hs
  have hlen : ((3 : Int) != (s.size : Int)) = false := by simp [hs]
  have HB := hid hB
  clear hs hB
  by_cases hd : c % 1000 % 1000 = 0
  · have HD : Hid (c % 1000 % drop 3 = 0) := hd
    have hd' : (c % 1000 % 1000 != 0) = false := by simpa using hd
    clear hd
    go_enter Try.func15, Try.ntmps15
    go_wp2
    refine wp_loop_rounds 1 ?_
    rw [rounds_succ]
    go_wp2
    have f1 : ∀ k, k < 3 → ((w.alloc (.cells #[.int .u8 q, .int .u8 61, .int .u8 (48 + c / 1000), .int .u8 0, .int .u8 0, .int .u8 0, .int .u8 0] 35)).alloc (.cells #[.int .u8 (48 + c % 1000 / 100), .int .u8 (48 + c % 1000 / 10 % 10), .int .u8 (48 + c % 10)] 36)).cell? ⟨w.heap.size, k, none⟩ = some (.int .u8 (buf q c k)) := fun k hk => by
      rw [cell_two]
      rcases (show k = 0 ∨ k = 1 ∨ k = 2 by omega) with rfl | rfl | rfl <;> rfl
    have f2 : Below w.heap.size w ((w.alloc (.cells #[.int .u8 q, .int .u8 61, .int .u8 (48 + c / 1000), .int .u8 0, .int .u8 0, .int .u8 0, .int .u8 0] 35)).alloc (.cells #[.int .u8 (48 + c % 1000 / 100), .int .u8 (48 + c % 1000 / 10 % 10), .int .u8 (48 + c % 10)] 36)) := below_two _ _ _
    generalize ((w.alloc (.cells #[.int .u8 q, .int .u8 61, .int .u8 (48 + c / 1000), .int .u8 0, .int .u8 0, .int .u8 0, .int .u8 0] 35)).alloc (.cells #[.int .u8 (48 + c % 1000 / 100), .int .u8 (48 + c % 1000 / 10 % 10), .int .u8 (48 + c % 10)] 36)) = W at f1 f2 ⊢
    have F1 := hid f1
    clear f1
    go_loopw [17] (fun i wr => ∃ (k nq : Nat), k ≤ 3 ∧ i = .int .i64 k ∧ wr = W.drewN nq ∧ Hid (∀ i, i < k → buf q c i = B i)) (fun i _ => 3 - (intOf i).toNat)
    case atStart => exact ⟨0, 0, by omega, rfl, rfl, fun i h => absurd h (Nat.not_lt_zero _)⟩
    case round =>
      obtain ⟨k, nq, hk, rfl, rfl, hE⟩ := hrel
      by_cases hlt : k < 3
      · have g1 : W.cell? ⟨w.heap.size, k, none⟩ = some (.int .u8 (buf q c k)) := F1.out k hlt
        have hks : k < s.size := by rw [HS.out]; exact hlt
        have i1 : (k : Int) < 7 := by omega
        have i2 : (k : Int) < (s.size : Int) := by omega
        have HX : Hid (((s[k]'hks).toNat : Int) = B k) := HB.out k hks
        obtain ⟨x, hx⟩ : ∃ x, x = buf q c k := ⟨_, rfl⟩
        rw [← hx] at g1
        have Hx : Hid (x = buf q c k) := hx
        clear hx
        by_cases he : x = ((s[k]'hks).toNat : Int)
        · have H := hid he
          have e : (x != ((s[k]'hks).toNat : Int)) = false := by simpa using he
          clear he
          go_wp2
          go_quiet (fail)
          go_wp2
          go_roundw
          case rel =>
            refine ⟨k + 1, _, by omega, by go_num, rfl, fun i hi => ?_⟩
            by_cases e : i = k
            · subst e
              rw [← Hx.out, ← HX.out]
              exact H.out
            · exact hE.out i (by omega)
          case measure => simp [intOf]; omega
        · have H : Hid (¬ Rend 3 B q c) := fun h => he (by rw [Hx.out, h.2 k hlt]; exact HX.out.symm)
          have e : (x != ((s[k]'hks).toNat : Int)) = true := by simpa using he
          clear he
          go_wp2
          go_quiet (fail)
          go_wp2
          go_ret
          exact tells_no H.out (below_drawn (below_drawn f2 _) _)
      · go_wp2
        go_ret
        exact tells_yes ⟨HD.out, fun i hi => hE.out i (by omega)⟩ (below_drawn f2 _)
  · have HD : Hid (¬ Rend 3 B q c) := fun h => hd h.1
    have hd' : (c % 1000 % 1000 != 0) = true := by simpa using hd
    clear hd
    go_enter Try.func15, Try.ntmps15
    go_wp2
    go_ret
    exact tells_no HD.out (Below.refl _ _)

set_option maxHeartbeats 1000000 in
theorem rend4 (s : ByteArray) (B : Nat → Int) (c q : Int) (w : World) (hs : s.size = 4) (hB : ∀ i (h : i < s.size), ((s[i]'h).toNat : Int) = B i) (h0 : 0 ≤ c) (h1 : c ≤ 1000) :
    Calls Try.prog 15 #[.string s, .int .i64 c, .int .u8 q, .bool true, .int .i64 0] w fun e w' => Tells (Rend 4 B q c) w e w' := by
  have HS : Hid (s.size = 4) := hs
  have hlen : ((4 : Int) != (s.size : Int)) = false := by simp [hs]
  have HB := hid hB
  clear hs hB
  by_cases hd : c % 1000 % 1000 = 0
  · have HD : Hid (c % 1000 % drop 4 = 0) := hd
    have hd' : (c % 1000 % 1000 != 0) = false := by simpa using hd
    clear hd
    go_enter Try.func15, Try.ntmps15
    go_wp2
    refine wp_loop_rounds 1 ?_
    rw [rounds_succ]
    go_wp2
    have f1 : ∀ k, k < 4 → ((w.alloc (.cells #[.int .u8 q, .int .u8 61, .int .u8 (48 + c / 1000), .int .u8 46, .int .u8 0, .int .u8 0, .int .u8 0] 35)).alloc (.cells #[.int .u8 (48 + c % 1000 / 100), .int .u8 (48 + c % 1000 / 10 % 10), .int .u8 (48 + c % 10)] 36)).cell? ⟨w.heap.size, k, none⟩ = some (.int .u8 (buf q c k)) := fun k hk => by
      rw [cell_two]
      rcases (show k = 0 ∨ k = 1 ∨ k = 2 ∨ k = 3 by omega) with rfl | rfl | rfl | rfl <;> rfl
    have f2 : Below w.heap.size w ((w.alloc (.cells #[.int .u8 q, .int .u8 61, .int .u8 (48 + c / 1000), .int .u8 46, .int .u8 0, .int .u8 0, .int .u8 0] 35)).alloc (.cells #[.int .u8 (48 + c % 1000 / 100), .int .u8 (48 + c % 1000 / 10 % 10), .int .u8 (48 + c % 10)] 36)) := below_two _ _ _
    generalize ((w.alloc (.cells #[.int .u8 q, .int .u8 61, .int .u8 (48 + c / 1000), .int .u8 46, .int .u8 0, .int .u8 0, .int .u8 0] 35)).alloc (.cells #[.int .u8 (48 + c % 1000 / 100), .int .u8 (48 + c % 1000 / 10 % 10), .int .u8 (48 + c % 10)] 36)) = W at f1 f2 ⊢
    have F1 := hid f1
    clear f1
    go_loopw [17] (fun i wr => ∃ (k nq : Nat), k ≤ 4 ∧ i = .int .i64 k ∧ wr = W.drewN nq ∧ Hid (∀ i, i < k → buf q c i = B i)) (fun i _ => 4 - (intOf i).toNat)
    case atStart => exact ⟨0, 0, by omega, rfl, rfl, fun i h => absurd h (Nat.not_lt_zero _)⟩
    case round =>
      obtain ⟨k, nq, hk, rfl, rfl, hE⟩ := hrel
      by_cases hlt : k < 4
      · have g1 : W.cell? ⟨w.heap.size, k, none⟩ = some (.int .u8 (buf q c k)) := F1.out k hlt
        have hks : k < s.size := by rw [HS.out]; exact hlt
        have i1 : (k : Int) < 7 := by omega
        have i2 : (k : Int) < (s.size : Int) := by omega
        have HX : Hid (((s[k]'hks).toNat : Int) = B k) := HB.out k hks
        obtain ⟨x, hx⟩ : ∃ x, x = buf q c k := ⟨_, rfl⟩
        rw [← hx] at g1
        have Hx : Hid (x = buf q c k) := hx
        clear hx
        by_cases he : x = ((s[k]'hks).toNat : Int)
        · have H := hid he
          have e : (x != ((s[k]'hks).toNat : Int)) = false := by simpa using he
          clear he
          go_wp2
          go_quiet (fail)
          go_wp2
          go_roundw
          case rel =>
            refine ⟨k + 1, _, by omega, by go_num, rfl, fun i hi => ?_⟩
            by_cases e : i = k
            · subst e
              rw [← Hx.out, ← HX.out]
              exact H.out
            · exact hE.out i (by omega)
          case measure => simp [intOf]; omega
        · have H : Hid (¬ Rend 4 B q c) := fun h => he (by rw [Hx.out, h.2 k hlt]; exact HX.out.symm)
          have e : (x != ((s[k]'hks).toNat : Int)) = true := by simpa using he
          clear he
          go_wp2
          go_quiet (fail)
          go_wp2
          go_ret
          exact tells_no H.out (below_drawn (below_drawn f2 _) _)
      · go_wp2
        go_ret
        exact tells_yes ⟨HD.out, fun i hi => hE.out i (by omega)⟩ (below_drawn f2 _)
  · have HD : Hid (¬ Rend 4 B q c) := fun h => hd h.1
    have hd' : (c % 1000 % 1000 != 0) = true := by simpa using hd
    clear hd
    go_enter Try.func15, Try.ntmps15
    go_wp2
    go_ret
    exact tells_no HD.out (Below.refl _ _)

set_option maxHeartbeats 1000000 in
theorem rend5 (s : ByteArray) (B : Nat → Int) (c q : Int) (w : World) (hs : s.size = 5) (hB : ∀ i (h : i < s.size), ((s[i]'h).toNat : Int) = B i) (h0 : 0 ≤ c) (h1 : c ≤ 1000) :
    Calls Try.prog 15 #[.string s, .int .i64 c, .int .u8 q, .bool true, .int .i64 1] w fun e w' => Tells (Rend 5 B q c) w e w' := by
  have HS : Hid (s.size = 5) := hs
  have hlen : ((5 : Int) != (s.size : Int)) = false := by simp [hs]
  have HB := hid hB
  clear hs hB
  by_cases hd : c % 1000 % 100 = 0
  · have HD : Hid (c % 1000 % drop 5 = 0) := hd
    have hd' : (c % 1000 % 100 != 0) = false := by simpa using hd
    clear hd
    go_enter Try.func15, Try.ntmps15
    go_wp2
    refine wp_loop_rounds 2 ?_
    rw [rounds_succ]
    go_wp2
    rw [rounds_succ]
    go_wp2
    have f1 : ∀ k, k < 5 → ((w.alloc (.cells #[.int .u8 q, .int .u8 61, .int .u8 (48 + c / 1000), .int .u8 46, .int .u8 (48 + c % 1000 / 100), .int .u8 0, .int .u8 0] 35)).alloc (.cells #[.int .u8 (48 + c % 1000 / 100), .int .u8 (48 + c % 1000 / 10 % 10), .int .u8 (48 + c % 10)] 36)).cell? ⟨w.heap.size, k, none⟩ = some (.int .u8 (buf q c k)) := fun k hk => by
      rw [cell_two]
      rcases (show k = 0 ∨ k = 1 ∨ k = 2 ∨ k = 3 ∨ k = 4 by omega) with rfl | rfl | rfl | rfl | rfl <;> rfl
    have f2 : Below w.heap.size w ((w.alloc (.cells #[.int .u8 q, .int .u8 61, .int .u8 (48 + c / 1000), .int .u8 46, .int .u8 (48 + c % 1000 / 100), .int .u8 0, .int .u8 0] 35)).alloc (.cells #[.int .u8 (48 + c % 1000 / 100), .int .u8 (48 + c % 1000 / 10 % 10), .int .u8 (48 + c % 10)] 36)) := below_two _ _ _
    generalize ((w.alloc (.cells #[.int .u8 q, .int .u8 61, .int .u8 (48 + c / 1000), .int .u8 46, .int .u8 (48 + c % 1000 / 100), .int .u8 0, .int .u8 0] 35)).alloc (.cells #[.int .u8 (48 + c % 1000 / 100), .int .u8 (48 + c % 1000 / 10 % 10), .int .u8 (48 + c % 10)] 36)) = W at f1 f2 ⊢
    have F1 := hid f1
    clear f1
    go_loopw [17] (fun i wr => ∃ (k nq : Nat), k ≤ 5 ∧ i = .int .i64 k ∧ wr = W.drewN nq ∧ Hid (∀ i, i < k → buf q c i = B i)) (fun i _ => 5 - (intOf i).toNat)
    case atStart => exact ⟨0, 0, by omega, rfl, rfl, fun i h => absurd h (Nat.not_lt_zero _)⟩
    case round =>
      obtain ⟨k, nq, hk, rfl, rfl, hE⟩ := hrel
      by_cases hlt : k < 5
      · have g1 : W.cell? ⟨w.heap.size, k, none⟩ = some (.int .u8 (buf q c k)) := F1.out k hlt
        have hks : k < s.size := by rw [HS.out]; exact hlt
        have i1 : (k : Int) < 7 := by omega
        have i2 : (k : Int) < (s.size : Int) := by omega
        have HX : Hid (((s[k]'hks).toNat : Int) = B k) := HB.out k hks
        obtain ⟨x, hx⟩ : ∃ x, x = buf q c k := ⟨_, rfl⟩
        rw [← hx] at g1
        have Hx : Hid (x = buf q c k) := hx
        clear hx
        by_cases he : x = ((s[k]'hks).toNat : Int)
        · have H := hid he
          have e : (x != ((s[k]'hks).toNat : Int)) = false := by simpa using he
          clear he
          go_wp2
          go_quiet (fail)
          go_wp2
          go_roundw
          case rel =>
            refine ⟨k + 1, _, by omega, by go_num, rfl, fun i hi => ?_⟩
            by_cases e : i = k
            · subst e
              rw [← Hx.out, ← HX.out]
              exact H.out
            · exact hE.out i (by omega)
          case measure => simp [intOf]; omega
        · have H : Hid (¬ Rend 5 B q c) := fun h => he (by rw [Hx.out, h.2 k hlt]; exact HX.out.symm)
          have e : (x != ((s[k]'hks).toNat : Int)) = true := by simpa using he
          clear he
          go_wp2
          go_quiet (fail)
          go_wp2
          go_ret
          exact tells_no H.out (below_drawn (below_drawn f2 _) _)
      · go_wp2
        go_ret
        exact tells_yes ⟨HD.out, fun i hi => hE.out i (by omega)⟩ (below_drawn f2 _)
  · have HD : Hid (¬ Rend 5 B q c) := fun h => hd h.1
    have hd' : (c % 1000 % 100 != 0) = true := by simpa using hd
    clear hd
    go_enter Try.func15, Try.ntmps15
    go_wp2
    go_ret
    exact tells_no HD.out (Below.refl _ _)

set_option maxHeartbeats 1000000 in
theorem rend6 (s : ByteArray) (B : Nat → Int) (c q : Int) (w : World) (hs : s.size = 6) (hB : ∀ i (h : i < s.size), ((s[i]'h).toNat : Int) = B i) (h0 : 0 ≤ c) (h1 : c ≤ 1000) :
    Calls Try.prog 15 #[.string s, .int .i64 c, .int .u8 q, .bool true, .int .i64 2] w fun e w' => Tells (Rend 6 B q c) w e w' := by
  have HS : Hid (s.size = 6) := hs
  have hlen : ((6 : Int) != (s.size : Int)) = false := by simp [hs]
  have HB := hid hB
  clear hs hB
  by_cases hd : c % 1000 % 10 = 0
  · have HD : Hid (c % 1000 % drop 6 = 0) := hd
    have hd' : (c % 1000 % 10 != 0) = false := by simpa using hd
    clear hd
    go_enter Try.func15, Try.ntmps15
    go_wp2
    refine wp_loop_rounds 3 ?_
    rw [rounds_succ]
    go_wp2
    rw [rounds_succ]
    go_wp2
    rw [rounds_succ]
    go_wp2
    have f1 : ∀ k, k < 6 → ((w.alloc (.cells #[.int .u8 q, .int .u8 61, .int .u8 (48 + c / 1000), .int .u8 46, .int .u8 (48 + c % 1000 / 100), .int .u8 (48 + c % 1000 / 10 % 10), .int .u8 0] 35)).alloc (.cells #[.int .u8 (48 + c % 1000 / 100), .int .u8 (48 + c % 1000 / 10 % 10), .int .u8 (48 + c % 10)] 36)).cell? ⟨w.heap.size, k, none⟩ = some (.int .u8 (buf q c k)) := fun k hk => by
      rw [cell_two]
      rcases (show k = 0 ∨ k = 1 ∨ k = 2 ∨ k = 3 ∨ k = 4 ∨ k = 5 by omega) with rfl | rfl | rfl | rfl | rfl | rfl <;> rfl
    have f2 : Below w.heap.size w ((w.alloc (.cells #[.int .u8 q, .int .u8 61, .int .u8 (48 + c / 1000), .int .u8 46, .int .u8 (48 + c % 1000 / 100), .int .u8 (48 + c % 1000 / 10 % 10), .int .u8 0] 35)).alloc (.cells #[.int .u8 (48 + c % 1000 / 100), .int .u8 (48 + c % 1000 / 10 % 10), .int .u8 (48 + c % 10)] 36)) := below_two _ _ _
    generalize ((w.alloc (.cells #[.int .u8 q, .int .u8 61, .int .u8 (48 + c / 1000), .int .u8 46, .int .u8 (48 + c % 1000 / 100), .int .u8 (48 + c % 1000 / 10 % 10), .int .u8 0] 35)).alloc (.cells #[.int .u8 (48 + c % 1000 / 100), .int .u8 (48 + c % 1000 / 10 % 10), .int .u8 (48 + c % 10)] 36)) = W at f1 f2 ⊢
    have F1 := hid f1
    clear f1
    go_loopw [17] (fun i wr => ∃ (k nq : Nat), k ≤ 6 ∧ i = .int .i64 k ∧ wr = W.drewN nq ∧ Hid (∀ i, i < k → buf q c i = B i)) (fun i _ => 6 - (intOf i).toNat)
    case atStart => exact ⟨0, 0, by omega, rfl, rfl, fun i h => absurd h (Nat.not_lt_zero _)⟩
    case round =>
      obtain ⟨k, nq, hk, rfl, rfl, hE⟩ := hrel
      by_cases hlt : k < 6
      · have g1 : W.cell? ⟨w.heap.size, k, none⟩ = some (.int .u8 (buf q c k)) := F1.out k hlt
        have hks : k < s.size := by rw [HS.out]; exact hlt
        have i1 : (k : Int) < 7 := by omega
        have i2 : (k : Int) < (s.size : Int) := by omega
        have HX : Hid (((s[k]'hks).toNat : Int) = B k) := HB.out k hks
        obtain ⟨x, hx⟩ : ∃ x, x = buf q c k := ⟨_, rfl⟩
        rw [← hx] at g1
        have Hx : Hid (x = buf q c k) := hx
        clear hx
        by_cases he : x = ((s[k]'hks).toNat : Int)
        · have H := hid he
          have e : (x != ((s[k]'hks).toNat : Int)) = false := by simpa using he
          clear he
          go_wp2
          go_quiet (fail)
          go_wp2
          go_roundw
          case rel =>
            refine ⟨k + 1, _, by omega, by go_num, rfl, fun i hi => ?_⟩
            by_cases e : i = k
            · subst e
              rw [← Hx.out, ← HX.out]
              exact H.out
            · exact hE.out i (by omega)
          case measure => simp [intOf]; omega
        · have H : Hid (¬ Rend 6 B q c) := fun h => he (by rw [Hx.out, h.2 k hlt]; exact HX.out.symm)
          have e : (x != ((s[k]'hks).toNat : Int)) = true := by simpa using he
          clear he
          go_wp2
          go_quiet (fail)
          go_wp2
          go_ret
          exact tells_no H.out (below_drawn (below_drawn f2 _) _)
      · go_wp2
        go_ret
        exact tells_yes ⟨HD.out, fun i hi => hE.out i (by omega)⟩ (below_drawn f2 _)
  · have HD : Hid (¬ Rend 6 B q c) := fun h => hd h.1
    have hd' : (c % 1000 % 10 != 0) = true := by simpa using hd
    clear hd
    go_enter Try.func15, Try.ntmps15
    go_wp2
    go_ret
    exact tells_no HD.out (Below.refl _ _)

set_option maxHeartbeats 1000000 in
theorem rend7 (s : ByteArray) (B : Nat → Int) (c q : Int) (w : World) (hs : s.size = 7) (hB : ∀ i (h : i < s.size), ((s[i]'h).toNat : Int) = B i) (h0 : 0 ≤ c) (h1 : c ≤ 1000) :
    Calls Try.prog 15 #[.string s, .int .i64 c, .int .u8 q, .bool true, .int .i64 3] w fun e w' => Tells (Rend 7 B q c) w e w' := by
  have HS : Hid (s.size = 7) := hs
  have hlen : ((7 : Int) != (s.size : Int)) = false := by simp [hs]
  have HB := hid hB
  clear hs hB
  · skip
    go_enter Try.func15, Try.ntmps15
    go_wp2
    refine wp_loop_rounds 4 ?_
    rw [rounds_succ]
    go_wp2
    rw [rounds_succ]
    go_wp2
    rw [rounds_succ]
    go_wp2
    rw [rounds_succ]
    go_wp2
    have f1 : ∀ k, k < 7 → ((w.alloc (.cells #[.int .u8 q, .int .u8 61, .int .u8 (48 + c / 1000), .int .u8 46, .int .u8 (48 + c % 1000 / 100), .int .u8 (48 + c % 1000 / 10 % 10), .int .u8 (48 + c % 10)] 35)).alloc (.cells #[.int .u8 (48 + c % 1000 / 100), .int .u8 (48 + c % 1000 / 10 % 10), .int .u8 (48 + c % 10)] 36)).cell? ⟨w.heap.size, k, none⟩ = some (.int .u8 (buf q c k)) := fun k hk => by
      rw [cell_two]
      rcases (show k = 0 ∨ k = 1 ∨ k = 2 ∨ k = 3 ∨ k = 4 ∨ k = 5 ∨ k = 6 by omega) with rfl | rfl | rfl | rfl | rfl | rfl | rfl <;> rfl
    have f2 : Below w.heap.size w ((w.alloc (.cells #[.int .u8 q, .int .u8 61, .int .u8 (48 + c / 1000), .int .u8 46, .int .u8 (48 + c % 1000 / 100), .int .u8 (48 + c % 1000 / 10 % 10), .int .u8 (48 + c % 10)] 35)).alloc (.cells #[.int .u8 (48 + c % 1000 / 100), .int .u8 (48 + c % 1000 / 10 % 10), .int .u8 (48 + c % 10)] 36)) := below_two _ _ _
    generalize ((w.alloc (.cells #[.int .u8 q, .int .u8 61, .int .u8 (48 + c / 1000), .int .u8 46, .int .u8 (48 + c % 1000 / 100), .int .u8 (48 + c % 1000 / 10 % 10), .int .u8 (48 + c % 10)] 35)).alloc (.cells #[.int .u8 (48 + c % 1000 / 100), .int .u8 (48 + c % 1000 / 10 % 10), .int .u8 (48 + c % 10)] 36)) = W at f1 f2 ⊢
    have F1 := hid f1
    clear f1
    go_loopw [17] (fun i wr => ∃ (k nq : Nat), k ≤ 7 ∧ i = .int .i64 k ∧ wr = W.drewN nq ∧ Hid (∀ i, i < k → buf q c i = B i)) (fun i _ => 7 - (intOf i).toNat)
    case atStart => exact ⟨0, 0, by omega, rfl, rfl, fun i h => absurd h (Nat.not_lt_zero _)⟩
    case round =>
      obtain ⟨k, nq, hk, rfl, rfl, hE⟩ := hrel
      by_cases hlt : k < 7
      · have g1 : W.cell? ⟨w.heap.size, k, none⟩ = some (.int .u8 (buf q c k)) := F1.out k hlt
        have hks : k < s.size := by rw [HS.out]; exact hlt
        have i1 : (k : Int) < 7 := by omega
        have i2 : (k : Int) < (s.size : Int) := by omega
        have HX : Hid (((s[k]'hks).toNat : Int) = B k) := HB.out k hks
        obtain ⟨x, hx⟩ : ∃ x, x = buf q c k := ⟨_, rfl⟩
        rw [← hx] at g1
        have Hx : Hid (x = buf q c k) := hx
        clear hx
        by_cases he : x = ((s[k]'hks).toNat : Int)
        · have H := hid he
          have e : (x != ((s[k]'hks).toNat : Int)) = false := by simpa using he
          clear he
          go_wp2
          go_quiet (fail)
          go_wp2
          go_roundw
          case rel =>
            refine ⟨k + 1, _, by omega, by go_num, rfl, fun i hi => ?_⟩
            by_cases e : i = k
            · subst e
              rw [← Hx.out, ← HX.out]
              exact H.out
            · exact hE.out i (by omega)
          case measure => simp [intOf]; omega
        · have H : Hid (¬ Rend 7 B q c) := fun h => he (by rw [Hx.out, h.2 k hlt]; exact HX.out.symm)
          have e : (x != ((s[k]'hks).toNat : Int)) = true := by simpa using he
          clear he
          go_wp2
          go_quiet (fail)
          go_wp2
          go_ret
          exact tells_no H.out (below_drawn (below_drawn f2 _) _)
      · go_wp2
        go_ret
        exact tells_yes ⟨by simp [drop], fun i hi => hE.out i (by omega)⟩ (below_drawn f2 _)

end Go.Proofs.Qxb6600343a.qv
