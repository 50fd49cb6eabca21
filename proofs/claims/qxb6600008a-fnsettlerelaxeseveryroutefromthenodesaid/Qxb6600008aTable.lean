/-
  The walk of zzCloneTable (12).
-/
import Derived.Test.Qxb6600008aChecks
namespace Go.Proofs.Qxb6600008a.settle
open Go.RowKit Go.Deep
set_option linter.unusedVariables false

/-- The numbers of the table's rows, each of m cells. -/
def RowsAt (w : World) (A : Nat → Option Addr) (n m : Nat) (Z : Nat → Nat → Int) : Prop :=
  ∀ r, r < n → ∀ i, i < m → ∃ b off, A r = some ⟨b, off, none⟩ ∧ w.cell? ⟨b, off + i, none⟩ = some (.int .i64 (Z r i))

/-- k rows of the new table are laid. -/
structure MidT (w wr : World) (A : Nat → Option Addr) (n m k : Nat) (Z : Nat → Nat → Int) : Prop where
  below : Below w.heap.size w wr
  row : wr.rowIs w.heap.size 23 n (fun r => if r < k then .slice (A r) m m else .slice none 0 0)
  rows : ∀ r, r < k → 0 < m → ∃ g, A r = some ⟨g, 0, none⟩ ∧ w.heap.size < g ∧ wr.rowIs g 2 m (fun i => .int .i64 (Z r i))

theorem MidT.start (w : World) (A : Nat → Option Addr) (n m : Nat) (Z : Nat → Nat → Int) : MidT w (w.alloc (.cells (madeCells #[.slice none 0 0] n) 23)) A n m 0 Z :=
  ⟨(Below.refl _ _).alloc (Nat.le_refl _) _, (World.rowIs_made w _ n 23).congr (fun i _ => by simp), fun r h => absurd h (Nat.not_lt_zero _)⟩

theorem rowIs_below {B : Nat} {w w' : World} {g : Nat} {t : TypeId} {n : Nat} {f : Nat → Value} (h : w.rowIs g t n f) (hb : Below B w w') (hg : g < B) : w'.rowIs g t n f := h.of_block (hb.block g hg)

theorem MidT.step {w wr w1 : World} {A : Nat → Option Addr} {n m k : Nat} {Z : Nat → Nat → Int} {a' : Option Addr} (h : MidT w wr A n m k Z) (hb : Below wr.heap.size wr w1)
    (ha : 0 < m → a' = some ⟨wr.heap.size, 0, none⟩ ∧ w1.rowIs wr.heap.size 2 m (fun i => .int .i64 (Z k i))) :
    MidT w (w1.setCell ⟨w.heap.size, k, none⟩ (.slice a' m m)) (fun r => if r = k then a' else A r) n m (k + 1) Z := by
  have hs := h.row.lt
  refine ⟨(h.below.trans (hb.mono (by omega))).setCell (Nat.le_refl _) _, ((rowIs_below h.row hb hs).set k _).congr (fun i _ => ?_), fun r hr hm => ?_⟩
  · by_cases e : i = k
    · subst e; simp
    · rw [if_neg e]
      by_cases hlt : i < k
      · rw [if_pos hlt, if_pos (by omega), if_neg e]
      · rw [if_neg hlt, if_neg (by omega)]
  · by_cases e : r = k
    · subst e
      obtain ⟨h1, h2⟩ := ha hm
      exact ⟨wr.heap.size, by simp [h1], hs, h2.setOther (by show wr.heap.size ≠ w.heap.size; omega) _⟩
    · obtain ⟨g, h1, h2, h3⟩ := h.rows r (by omega) hm
      exact ⟨g, by simp [e, h1], h2, (rowIs_below h3 hb h3.lt).setOther (by show g ≠ w.heap.size; omega) _⟩

set_option maxHeartbeats 400000 in
theorem cloneTable_some (x : Addr) (n cap m : Nat) (A : Nat → Option Addr) (C : Nat → Nat) (Z : Nat → Nat → Int) (w : World) (hn : n ≤ 1048576) (hm : m ≤ 1048576)
    (ht : Top w (some x) n A (fun _ => m) C) (hr : RowsAt w A n m Z) :
    Calls Try.prog 12 #[.slice (some x) n cap] w fun e w' => e = .returned (.slice (some ⟨w.heap.size, 0, none⟩) n n) ∧ ∃ A', MidT w w' A' n m n Z := by
  have q22 : ∀ (w : World) (a : Option Addr) (n c n' c' : Nat), (binOp .eql 22 (.slice a n c) (.slice none n' c')).run Try.prog w = .ok (.bool a.isNone) w := fun w a n c n' c' => Lib.run_eql_slice_nil w _ _ a n c n' c' Try.underlying22
  have hmk := run_make_row' (P := Try.prog) 22 23 (.slice none 0 0) 24 Try.underlying22 info23 rfl .i64 .i64 n (by omega) (by omega)
  go_enter Try.func12, Try.ntmps12
  go_wp2
  clear hmk q22
  go_loopw [4] (fun i wr => ∃ (k : Nat) (A' : Nat → Option Addr), k ≤ n ∧ i = .int .i64 k ∧ MidT w wr A' n m k Z) (fun i _ => n - (intOf i).toNat)
  case atStart => exact ⟨0, A, Nat.zero_le _, rfl, MidT.start _ _ _ _ _⟩
  case round =>
    obtain ⟨k, A', hk, rfl, hM⟩ := hrel
    by_cases hlt : k < n
    · obtain ⟨b, off, hx, hcc⟩ := ht k hlt
      simp only [Option.some.injEq] at hx
      subst hx
      have hb : b < w.heap.size := World.block_lt_of_cell? _ _ hcc
      have g1 : wr.cell? ⟨b, off + k, none⟩ = some (.slice (A k) m (C k)) := (hM.below.cell (p := ⟨b, off + k, none⟩) hb).trans hcc
      have H : Hid (∀ i, i < m → ∃ b off, A k = some ⟨b, off, none⟩ ∧ wr.cell? ⟨b, off + i, none⟩ = some (.int .i64 (Z k i))) := fun i hi => by
        obtain ⟨b', off', h1, h2⟩ := hr k hlt i hi
        exact ⟨b', off', h1, (hM.below.cell (p := ⟨b', off' + i, none⟩) (World.block_lt_of_cell? _ _ h2)).trans h2⟩
      clear ht hr hcc
      go_wp2_with fail
      refine (clone64 (A k) m (C k) (Z k) wr hm H.out).mono ?_
      rintro e w1 ⟨a', rfl, hb1, ha⟩
      have g2 : w1.cell? ⟨w.heap.size, k, none⟩ = some (.slice none 0 0) := (hb1.cell (p := ⟨w.heap.size, k, none⟩) hM.row.lt).trans (by simpa using hM.row.cell hlt)
      have g3 : w1.frozen? ⟨w.heap.size, k, none⟩ = false := (hb1.frozen (p := ⟨w.heap.size, k, none⟩) hM.row.lt).trans (hM.row.frozen k)
      have hS := hM.step hb1 ha
      clear hM hb1 ha H g1
      go_wp2
      go_roundw
      case rel => exact ⟨k + 1, _, by omega, by go_num, hS⟩
      case measure => simp [intOf]; omega
    · have e : k = n := by omega
      subst e
      clear ht hr
      go_wp2
      go_ret
      exact ⟨rfl, A', hM⟩

theorem cloneTable_nil (cap : Nat) (w : World) :
    Calls Try.prog 12 #[.slice none 0 cap] w fun e w' => e = .returned (.slice none 0 0) ∧ w = w' := by
  have q22 : ∀ (w : World) (a : Option Addr) (n c n' c' : Nat), (binOp .eql 22 (.slice a n c) (.slice none n' c')).run Try.prog w = .ok (.bool a.isNone) w := fun w a n c n' c' => Lib.run_eql_slice_nil w _ _ a n c n' c' Try.underlying22
  go_enter Try.func12, Try.ntmps12
  go_wp2
  go_ret
  exact ⟨rfl, rfl⟩

/-- Function 12, whatever table of n rows of m cells it is handed: a table of the same numbers, its blocks new. -/
theorem cloneTable (a : Option Addr) (n cap m : Nat) (A : Nat → Option Addr) (C : Nat → Nat) (Z : Nat → Nat → Int) (w : World) (hn : n ≤ 1048576) (hm : m ≤ 1048576)
    (ht : Top w a n A (fun _ => m) C) (hr : RowsAt w A n m Z) :
    Calls Try.prog 12 #[.slice a n cap] w fun e w' => ∃ a' A', e = .returned (.slice a' n n) ∧ Below w.heap.size w w' ∧ Top w' a' n A' (fun _ => m) (fun _ => m) ∧ RowsAt w' A' n m Z := by
  cases a with
  | none =>
    have e : n = 0 := by
      by_cases h : n = 0
      · exact h
      · obtain ⟨b, off, h1, _⟩ := ht 0 (by omega)
        cases h1
    subst e
    refine (cloneTable_nil cap w).mono ?_
    rintro e w' ⟨rfl, rfl⟩
    exact ⟨none, A, rfl, Below.refl _ _, fun r h => absurd h (Nat.not_lt_zero _), fun r h => absurd h (Nat.not_lt_zero _)⟩
  | some x =>
    refine (cloneTable_some x n cap m A C Z w hn hm ht hr).mono ?_
    rintro e w' ⟨rfl, A', hM⟩
    refine ⟨_, A', rfl, hM.below, fun r h => ⟨w.heap.size, 0, rfl, ?_⟩, fun r h i hi => ?_⟩
    · have := hM.row.cell h
      rw [if_pos h] at this
      simpa using this
    · obtain ⟨g, h1, h2, h3⟩ := hM.rows r h (by omega)
      exact ⟨g, 0, h1, by simpa using h3.cell hi⟩

end Go.Proofs.Qxb6600008a.settle
