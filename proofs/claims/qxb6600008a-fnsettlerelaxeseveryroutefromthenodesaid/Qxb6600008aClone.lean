/-
  The walks of zzCloneInt64s (13), zzCloneInts (25), zzCloneBools (26) over this program.
-/
import Derived.Test.Qxb6600008aRows
import Derived.WalkKit
import Derived.ProofKit
import Derived.WalkSpells
import Derived.Below
import Derived.Lib.SliceRun
import Derived.Deep.OwnRows
namespace Go.Proofs.Qxb6600008a.settle
open Go.RowKit Go.Deep
set_option linter.unusedVariables false

theorem info2 : (Try.prog.info? 2).map (fun i => (i.zero, i.size, i.bytes)) = some (some (.int .i64 0), 1, 8) := by kernel_rfl
theorem info3 : (Try.prog.info? 3).map (fun i => (i.zero, i.size, i.bytes)) = some (some (.int .i64 0), 1, 8) := by kernel_rfl
theorem info4 : (Try.prog.info? 4).map (fun i => (i.zero, i.size, i.bytes)) = some (some (.bool false), 1, 1) := by kernel_rfl
theorem info23 : (Try.prog.info? 23).map (fun i => (i.zero, i.size, i.bytes)) = some (some (.slice none 0 0), 1, 24) := by kernel_rfl

/-- What a round of the copying loop leaves: k of the n cells of the new row are laid. -/
structure Mid (w wr : World) (T : TypeId) (z : Value) (V : Nat → Value) (n k : Nat) : Prop where
  below : Below w.heap.size w wr
  size : wr.heap.size = w.heap.size + 1
  row : wr.rowIs w.heap.size T n (fun i => if i < k then V i else z)

theorem Mid.start (w : World) (T : TypeId) (z : Value) (V : Nat → Value) (n : Nat) : Mid w (w.alloc (.cells (madeCells #[z] n) T)) T z V n 0 :=
  ⟨(Below.refl _ _).alloc (Nat.le_refl _) _, by simp, (World.rowIs_made w z n T).congr (fun i _ => by simp)⟩

theorem Mid.step {w wr : World} {T : TypeId} {z : Value} {V : Nat → Value} {n k : Nat} (h : Mid w wr T z V n k) : Mid w (wr.setCell ⟨w.heap.size, k, none⟩ (V k)) T z V n (k + 1) := by
  refine ⟨h.below.setCell (Nat.le_refl _) _, by simp [h.size], (h.row.set k _).congr (fun i _ => ?_)⟩
  by_cases e : i = k
  · subst e; simp
  · rw [if_neg e]
    by_cases hlt : i < k
    · rw [if_pos hlt, if_pos (by omega)]
    · rw [if_neg hlt, if_neg (by omega)]

set_option maxHeartbeats 400000 in
theorem clone64_some (x : Addr) (n cap : Nat) (Z : Nat → Int) (w : World) (hn : n ≤ 1048576)
    (hc : ∀ i, i < n → ∃ b off, x = ⟨b, off, none⟩ ∧ w.cell? ⟨b, off + i, none⟩ = some (.int .i64 (Z i))) :
    Calls Try.prog 13 #[.slice (some x) n cap] w fun e w' => e = .returned (.slice (some ⟨w.heap.size, 0, none⟩) n n) ∧ Mid w w' 2 (.int .i64 0) (fun i => .int .i64 (Z i)) n n := by
  have q23 : ∀ (w : World) (a : Option Addr) (n c n' c' : Nat), (binOp .eql 23 (.slice a n c) (.slice none n' c')).run Try.prog w = .ok (.bool a.isNone) w := fun w a n c n' c' => Lib.run_eql_slice_nil w _ _ a n c n' c' Try.underlying23
  have hmk := run_make_row' (P := Try.prog) 23 2 (.int .i64 0) 8 Try.underlying23 info2 rfl .i64 .i64 n (by omega) (by omega)
  go_enter Try.func13, Try.ntmps13
  go_wp2
  clear hmk q23
  go_loopw [4] (fun i wr => ∃ k : Nat, k ≤ n ∧ i = .int .i64 k ∧ Mid w wr 2 (.int .i64 0) (fun i => .int .i64 (Z i)) n k) (fun i _ => n - (intOf i).toNat)
  case atStart => exact ⟨0, Nat.zero_le _, rfl, Mid.start _ _ _ _ _⟩
  case round =>
    obtain ⟨k, hk, rfl, hM⟩ := hrel
    by_cases hlt : k < n
    · obtain ⟨b, off, hx, hcc⟩ := hc k hlt
      subst hx
      have hb : b < w.heap.size := World.block_lt_of_cell? _ _ hcc
      have g1 : wr.cell? ⟨b, off + k, none⟩ = some (.int .i64 (Z k)) := (hM.below.cell (p := ⟨b, off + k, none⟩) hb).trans hcc
      have g2 : wr.cell? ⟨w.heap.size, k, none⟩ = some (.int .i64 0) := by simpa using hM.row.cell hlt
      have g3 : wr.frozen? ⟨w.heap.size, k, none⟩ = false := hM.row.frozen k
      have hS := hM.step
      clear hc hM hcc
      go_wp2
      go_roundw
      case rel => exact ⟨k + 1, by omega, by go_num, hS⟩
      case measure => simp [intOf]; omega
    · have e : k = n := by omega
      subst e
      clear hc
      go_wp2
      go_ret
      exact ⟨rfl, hM⟩

theorem clone64_nil (cap : Nat) (w : World) :
    Calls Try.prog 13 #[.slice none 0 cap] w fun e w' => e = .returned (.slice none 0 0) ∧ w = w' := by
  have q23 : ∀ (w : World) (a : Option Addr) (n c n' c' : Nat), (binOp .eql 23 (.slice a n c) (.slice none n' c')).run Try.prog w = .ok (.bool a.isNone) w := fun w a n c n' c' => Lib.run_eql_slice_nil w _ _ a n c n' c' Try.underlying23
  go_enter Try.func13, Try.ntmps13
  go_wp2
  go_ret
  exact ⟨rfl, rfl⟩

/-- Function 13, whatever it is handed: a slice of the same length; where there is an element: the new block's, holding the same. -/
theorem clone64 (a : Option Addr) (n cap : Nat) (Z : Nat → Int) (w : World) (hn : n ≤ 1048576)
    (hc : ∀ i, i < n → ∃ b off, a = some ⟨b, off, none⟩ ∧ w.cell? ⟨b, off + i, none⟩ = some (.int .i64 (Z i))) :
    Calls Try.prog 13 #[.slice a n cap] w fun e w' => ∃ a', e = .returned (.slice a' n n) ∧ Below w.heap.size w w' ∧ (0 < n → a' = some ⟨w.heap.size, 0, none⟩ ∧ w'.rowIs w.heap.size 2 n (fun i => .int .i64 (Z i))) := by
  cases a with
  | none =>
    have e : n = 0 := by
      by_cases h : n = 0
      · exact h
      · obtain ⟨b, off, h1, _⟩ := hc 0 (by omega)
        cases h1
    subst e
    refine (clone64_nil cap w).mono ?_
    rintro e w' ⟨rfl, rfl⟩
    exact ⟨none, rfl, Below.refl _ _, fun h => absurd h (Nat.lt_irrefl _)⟩
  | some x =>
    refine (clone64_some x n cap Z w hn (fun i hi => ?_)).mono ?_
    · obtain ⟨b, off, h1, h2⟩ := hc i hi
      exact ⟨b, off, by cases h1; rfl, h2⟩
    · rintro e w' ⟨rfl, hM⟩
      exact ⟨_, rfl, hM.below, fun _ => ⟨rfl, hM.row.congr (fun i hi => by rw [if_pos hi])⟩⟩

set_option maxHeartbeats 400000 in
theorem cloneInts_some (x : Addr) (n cap : Nat) (Z : Nat → Int) (w : World) (hn : n ≤ 1048576)
    (hc : ∀ i, i < n → ∃ b off, x = ⟨b, off, none⟩ ∧ w.cell? ⟨b, off + i, none⟩ = some (.int .i64 (Z i))) :
    Calls Try.prog 25 #[.slice (some x) n cap] w fun e w' => e = .returned (.slice (some ⟨w.heap.size, 0, none⟩) n n) ∧ Mid w w' 3 (.int .i64 0) (fun i => .int .i64 (Z i)) n n := by
  have q35 : ∀ (w : World) (a : Option Addr) (n c n' c' : Nat), (binOp .eql 35 (.slice a n c) (.slice none n' c')).run Try.prog w = .ok (.bool a.isNone) w := fun w a n c n' c' => Lib.run_eql_slice_nil w _ _ a n c n' c' Try.underlying35
  have hmk := run_make_row' (P := Try.prog) 35 3 (.int .i64 0) 8 Try.underlying35 info3 rfl .i64 .i64 n (by omega) (by omega)
  go_enter Try.func25, Try.ntmps25
  go_wp2
  clear hmk q35
  go_loopw [4] (fun i wr => ∃ k : Nat, k ≤ n ∧ i = .int .i64 k ∧ Mid w wr 3 (.int .i64 0) (fun i => .int .i64 (Z i)) n k) (fun i _ => n - (intOf i).toNat)
  case atStart => exact ⟨0, Nat.zero_le _, rfl, Mid.start _ _ _ _ _⟩
  case round =>
    obtain ⟨k, hk, rfl, hM⟩ := hrel
    by_cases hlt : k < n
    · obtain ⟨b, off, hx, hcc⟩ := hc k hlt
      subst hx
      have hb : b < w.heap.size := World.block_lt_of_cell? _ _ hcc
      have g1 : wr.cell? ⟨b, off + k, none⟩ = some (.int .i64 (Z k)) := (hM.below.cell (p := ⟨b, off + k, none⟩) hb).trans hcc
      have g2 : wr.cell? ⟨w.heap.size, k, none⟩ = some (.int .i64 0) := by simpa using hM.row.cell hlt
      have g3 : wr.frozen? ⟨w.heap.size, k, none⟩ = false := hM.row.frozen k
      have hS := hM.step
      clear hc hM hcc
      go_wp2
      go_roundw
      case rel => exact ⟨k + 1, by omega, by go_num, hS⟩
      case measure => simp [intOf]; omega
    · have e : k = n := by omega
      subst e
      clear hc
      go_wp2
      go_ret
      exact ⟨rfl, hM⟩

theorem cloneInts_nil (cap : Nat) (w : World) :
    Calls Try.prog 25 #[.slice none 0 cap] w fun e w' => e = .returned (.slice none 0 0) ∧ w = w' := by
  have q35 : ∀ (w : World) (a : Option Addr) (n c n' c' : Nat), (binOp .eql 35 (.slice a n c) (.slice none n' c')).run Try.prog w = .ok (.bool a.isNone) w := fun w a n c n' c' => Lib.run_eql_slice_nil w _ _ a n c n' c' Try.underlying35
  go_enter Try.func25, Try.ntmps25
  go_wp2
  go_ret
  exact ⟨rfl, rfl⟩

/-- Function 25, whatever it is handed: a slice of the same length; where there is an element: the new block's, holding the same. -/
theorem cloneInts (a : Option Addr) (n cap : Nat) (Z : Nat → Int) (w : World) (hn : n ≤ 1048576)
    (hc : ∀ i, i < n → ∃ b off, a = some ⟨b, off, none⟩ ∧ w.cell? ⟨b, off + i, none⟩ = some (.int .i64 (Z i))) :
    Calls Try.prog 25 #[.slice a n cap] w fun e w' => ∃ a', e = .returned (.slice a' n n) ∧ Below w.heap.size w w' ∧ (0 < n → a' = some ⟨w.heap.size, 0, none⟩ ∧ w'.rowIs w.heap.size 3 n (fun i => .int .i64 (Z i))) := by
  cases a with
  | none =>
    have e : n = 0 := by
      by_cases h : n = 0
      · exact h
      · obtain ⟨b, off, h1, _⟩ := hc 0 (by omega)
        cases h1
    subst e
    refine (cloneInts_nil cap w).mono ?_
    rintro e w' ⟨rfl, rfl⟩
    exact ⟨none, rfl, Below.refl _ _, fun h => absurd h (Nat.lt_irrefl _)⟩
  | some x =>
    refine (cloneInts_some x n cap Z w hn (fun i hi => ?_)).mono ?_
    · obtain ⟨b, off, h1, h2⟩ := hc i hi
      exact ⟨b, off, by cases h1; rfl, h2⟩
    · rintro e w' ⟨rfl, hM⟩
      exact ⟨_, rfl, hM.below, fun _ => ⟨rfl, hM.row.congr (fun i hi => by rw [if_pos hi])⟩⟩

set_option maxHeartbeats 400000 in
theorem cloneBools_some (x : Addr) (n cap : Nat) (Z : Nat → Bool) (w : World) (hn : n ≤ 1048576)
    (hc : ∀ i, i < n → ∃ b off, x = ⟨b, off, none⟩ ∧ w.cell? ⟨b, off + i, none⟩ = some (.bool (Z i))) :
    Calls Try.prog 26 #[.slice (some x) n cap] w fun e w' => e = .returned (.slice (some ⟨w.heap.size, 0, none⟩) n n) ∧ Mid w w' 4 (.bool false) (fun i => .bool (Z i)) n n := by
  have q36 : ∀ (w : World) (a : Option Addr) (n c n' c' : Nat), (binOp .eql 36 (.slice a n c) (.slice none n' c')).run Try.prog w = .ok (.bool a.isNone) w := fun w a n c n' c' => Lib.run_eql_slice_nil w _ _ a n c n' c' Try.underlying36
  have hmk := run_make_row' (P := Try.prog) 36 4 (.bool false) 1 Try.underlying36 info4 rfl .i64 .i64 n (by omega) (by omega)
  go_enter Try.func26, Try.ntmps26
  go_wp2
  clear hmk q36
  go_loopw [4] (fun i wr => ∃ k : Nat, k ≤ n ∧ i = .int .i64 k ∧ Mid w wr 4 (.bool false) (fun i => .bool (Z i)) n k) (fun i _ => n - (intOf i).toNat)
  case atStart => exact ⟨0, Nat.zero_le _, rfl, Mid.start _ _ _ _ _⟩
  case round =>
    obtain ⟨k, hk, rfl, hM⟩ := hrel
    by_cases hlt : k < n
    · obtain ⟨b, off, hx, hcc⟩ := hc k hlt
      subst hx
      have hb : b < w.heap.size := World.block_lt_of_cell? _ _ hcc
      have g1 : wr.cell? ⟨b, off + k, none⟩ = some (.bool (Z k)) := (hM.below.cell (p := ⟨b, off + k, none⟩) hb).trans hcc
      have g2 : wr.cell? ⟨w.heap.size, k, none⟩ = some (.bool false) := by simpa using hM.row.cell hlt
      have g3 : wr.frozen? ⟨w.heap.size, k, none⟩ = false := hM.row.frozen k
      have hS := hM.step
      clear hc hM hcc
      go_wp2
      go_roundw
      case rel => exact ⟨k + 1, by omega, by go_num, hS⟩
      case measure => simp [intOf]; omega
    · have e : k = n := by omega
      subst e
      clear hc
      go_wp2
      go_ret
      exact ⟨rfl, hM⟩

theorem cloneBools_nil (cap : Nat) (w : World) :
    Calls Try.prog 26 #[.slice none 0 cap] w fun e w' => e = .returned (.slice none 0 0) ∧ w = w' := by
  have q36 : ∀ (w : World) (a : Option Addr) (n c n' c' : Nat), (binOp .eql 36 (.slice a n c) (.slice none n' c')).run Try.prog w = .ok (.bool a.isNone) w := fun w a n c n' c' => Lib.run_eql_slice_nil w _ _ a n c n' c' Try.underlying36
  go_enter Try.func26, Try.ntmps26
  go_wp2
  go_ret
  exact ⟨rfl, rfl⟩

/-- Function 26, whatever it is handed: a slice of the same length; where there is an element: the new block's, holding the same. -/
theorem cloneBools (a : Option Addr) (n cap : Nat) (Z : Nat → Bool) (w : World) (hn : n ≤ 1048576)
    (hc : ∀ i, i < n → ∃ b off, a = some ⟨b, off, none⟩ ∧ w.cell? ⟨b, off + i, none⟩ = some (.bool (Z i))) :
    Calls Try.prog 26 #[.slice a n cap] w fun e w' => ∃ a', e = .returned (.slice a' n n) ∧ Below w.heap.size w w' ∧ (0 < n → a' = some ⟨w.heap.size, 0, none⟩ ∧ w'.rowIs w.heap.size 4 n (fun i => .bool (Z i))) := by
  cases a with
  | none =>
    have e : n = 0 := by
      by_cases h : n = 0
      · exact h
      · obtain ⟨b, off, h1, _⟩ := hc 0 (by omega)
        cases h1
    subst e
    refine (cloneBools_nil cap w).mono ?_
    rintro e w' ⟨rfl, rfl⟩
    exact ⟨none, rfl, Below.refl _ _, fun h => absurd h (Nat.lt_irrefl _)⟩
  | some x =>
    refine (cloneBools_some x n cap Z w hn (fun i hi => ?_)).mono ?_
    · obtain ⟨b, off, h1, h2⟩ := hc i hi
      exact ⟨b, off, by cases h1; rfl, h2⟩
    · rintro e w' ⟨rfl, hM⟩
      exact ⟨_, rfl, hM.below, fun _ => ⟨rfl, hM.row.congr (fun i hi => by rw [if_pos hi])⟩⟩

end Go.Proofs.Qxb6600008a.settle
