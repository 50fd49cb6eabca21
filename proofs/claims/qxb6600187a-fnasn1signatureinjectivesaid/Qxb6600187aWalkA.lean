/-
  The walks of zzCopyBytes_jwt_b1 (7), zzBytesEqual_jwt_b1 (12), zzBytes_FnAsn1SignatureInjective (11).
-/
import Derived.Test.Qxb6600187aRows
import Derived.Test.Qxb6600187aPlain
import Derived.WalkKit
import Derived.ProofKit
import Derived.WalkSpells
import Derived.Below
import Derived.Lib.SliceRun
import Derived.Deep.OwnRows
import Derived.Deep.QuietTactic
import Derived.BigQuiet
namespace Go.Proofs.Qxb6600187a.inj
open Go.RowKit Go.Deep
set_option linter.unusedVariables false

theorem info5 : (Try.prog.info? 5).map (fun i => (i.zero, i.size, i.bytes)) = some (some (.int .u8 0), 1, 1) := by kernel_rfl

/-- What a round of the copying loop leaves: k of the n cells of the new row are laid. -/
structure Mid (w wr : World) (T : TypeId) (z : Value) (V : Nat → Value) (n k : Nat) : Prop where
  below : Below w.heap.size w wr
  size : wr.heap.size = w.heap.size + 1
  row : wr.rowIs w.heap.size T n (fun i => if i < k then V i else z)

theorem Mid.start (w : World) (T : TypeId) (z : Value) (V : Nat → Value) (n : Nat) : Mid w (w.alloc (.cells (madeCells #[z] n) T)) T z V n 0 :=
  ⟨(Below.refl _ _).alloc (Nat.le_refl _) _, by simp, (World.rowIs_made w z n T).congr (fun i _ => by simp)⟩

theorem Mid.step {w wr : World} {T : TypeId} {z : Value} {V : Nat → Value} {n k : Nat} (h : Mid w wr T z V n k) : Mid w (wr.setCell ⟨w.heap.size, k, none⟩ (V k)) T z V n (k + 1) := by
  refine ⟨h.below.setCell (Nat.le_refl _) _, by simp [h.size], (h.row.set k _).congr (fun i _ => ?_)⟩
  by_cases e : i = k
  · subst e; simp
  · rw [if_neg e]
    by_cases hlt : i < k
    · rw [if_pos hlt, if_pos (by omega)]
    · rw [if_neg hlt, if_neg (by omega)]

set_option maxHeartbeats 400000 in
theorem copyBytes_some (x : Addr) (n cap : Nat) (Z : Nat → Int) (w : World) (hn : n ≤ 1048576)
    (hc : ∀ i, i < n → ∃ b off, x = ⟨b, off, none⟩ ∧ w.cell? ⟨b, off + i, none⟩ = some (.int .u8 (Z i))) :
    Calls Try.prog 7 #[.slice (some x) n cap] w fun e w' => e = .returned (.slice (some ⟨w.heap.size, 0, none⟩) n n) ∧ Mid w w' 5 (.int .u8 0) (fun i => .int .u8 (Z i)) n n := by
  have q22 : ∀ (w : World) (a : Option Addr) (n c n' c' : Nat), (binOp .eql 22 (.slice a n c) (.slice none n' c')).run Try.prog w = .ok (.bool a.isNone) w := fun w a n c n' c' => Lib.run_eql_slice_nil w _ _ a n c n' c' Try.underlying22
  have hmk := run_make_row' (P := Try.prog) 22 5 (.int .u8 0) 1 Try.underlying22 info5 rfl .i64 .i64 n (by omega) (by omega)
  go_enter Try.func7, Try.ntmps7
  go_wp2
  clear hmk q22
  go_loopw [4] (fun i wr => ∃ k : Nat, k ≤ n ∧ i = .int .i64 k ∧ Mid w wr 5 (.int .u8 0) (fun i => .int .u8 (Z i)) n k) (fun i _ => n - (intOf i).toNat)
  case atStart => exact ⟨0, Nat.zero_le _, rfl, Mid.start _ _ _ _ _⟩
  case round =>
    obtain ⟨k, hk, rfl, hM⟩ := hrel
    by_cases hlt : k < n
    · obtain ⟨b, off, hx, hcc⟩ := hc k hlt
      subst hx
      have hb : b < w.heap.size := World.block_lt_of_cell? _ _ hcc
      have g1 : wr.cell? ⟨b, off + k, none⟩ = some (.int .u8 (Z k)) := (hM.below.cell (p := ⟨b, off + k, none⟩) hb).trans hcc
      have g2 : wr.cell? ⟨w.heap.size, k, none⟩ = some (.int .u8 0) := by simpa using hM.row.cell hlt
      have g3 : wr.frozen? ⟨w.heap.size, k, none⟩ = false := hM.row.frozen k
      have hS := hM.step
      clear hc hM hcc
      go_wp2
      go_roundw
      case rel => exact ⟨k + 1, by omega, by go_num, hS⟩
      case measure => simp [intOf]; omega
    · have e : k = n := by omega
      subst e
      clear hc
      go_wp2
      go_ret
      exact ⟨rfl, hM⟩

theorem copyBytes_nil (cap : Nat) (w : World) :
    Calls Try.prog 7 #[.slice none 0 cap] w fun e w' => e = .returned (.slice none 0 0) ∧ w = w' := by
  have q22 : ∀ (w : World) (a : Option Addr) (n c n' c' : Nat), (binOp .eql 22 (.slice a n c) (.slice none n' c')).run Try.prog w = .ok (.bool a.isNone) w := fun w a n c n' c' => Lib.run_eql_slice_nil w _ _ a n c n' c' Try.underlying22
  go_enter Try.func7, Try.ntmps7
  go_wp2
  go_ret
  exact ⟨rfl, rfl⟩

/-- Function 7, whatever it is handed: a slice of the same length; where there is an element: the new block's, holding the same. -/
theorem copyBytes (a : Option Addr) (n cap : Nat) (Z : Nat → Int) (w : World) (hn : n ≤ 1048576)
    (hc : ∀ i, i < n → ∃ b off, a = some ⟨b, off, none⟩ ∧ w.cell? ⟨b, off + i, none⟩ = some (.int .u8 (Z i))) :
    Calls Try.prog 7 #[.slice a n cap] w fun e w' => ∃ a', e = .returned (.slice a' n n) ∧ Below w.heap.size w w' ∧ (0 < n → a' = some ⟨w.heap.size, 0, none⟩ ∧ w'.rowIs w.heap.size 5 n (fun i => .int .u8 (Z i))) := by
  cases a with
  | none =>
    have e : n = 0 := by
      by_cases h : n = 0
      · exact h
      · obtain ⟨b, off, h1, _⟩ := hc 0 (by omega)
        cases h1
    subst e
    refine (copyBytes_nil cap w).mono ?_
    rintro e w' ⟨rfl, rfl⟩
    exact ⟨none, rfl, Below.refl _ _, fun h => absurd h (Nat.lt_irrefl _)⟩
  | some x =>
    refine (copyBytes_some x n cap Z w hn (fun i hi => ?_)).mono ?_
    · obtain ⟨b, off, h1, h2⟩ := hc i hi
      exact ⟨b, off, by cases h1; rfl, h2⟩
    · rintro e w' ⟨rfl, hM⟩
      exact ⟨_, rfl, hM.below, fun _ => ⟨rfl, hM.row.congr (fun i hi => by rw [if_pos hi])⟩⟩

/-- The slice at a holds the bytes X. -/
def In8 (w : World) (a : Option Addr) (X : List Int) : Prop := ∀ i, i < X.length → ∃ b off, a = some ⟨b, off, none⟩ ∧ w.cell? ⟨b, off + i, none⟩ = some (.int .u8 (X.getD i 0))

def eqB (X Y : List Int) : Bool := decide (X = Y)
theorem eqB_no {X Y : List Int} (h : X ≠ Y) : false = eqB X Y := by simp [eqB, h]
theorem eqB_yes {X Y : List Int} (h : X = Y) : true = eqB X Y := by simp [eqB, h]
theorem ret_bool {a b : Bool} (h : a = b) : Ending.returned (.bool a) = .returned (.bool b) := by rw [h]

theorem ne_at {X Y : List Int} {k : Nat} (h : X.getD k 0 ≠ Y.getD k 0) : X ≠ Y := fun e => h (by rw [e])
theorem eq_all {X Y : List Int} (hl : X.length = Y.length) (h : ∀ i, i < X.length → X.getD i 0 = Y.getD i 0) : X = Y := by
  apply List.ext_getElem hl
  intro i h1 h2
  have := h i h1
  simpa [List.getD_eq_getElem?_getD, h1, h2] using this

set_option maxHeartbeats 400000 in
theorem bytesEq (X Y : List Int) (a a' : Option Addr) (n n' c c' : Nat) (w : World) (hn : X.length = n) (hn' : Y.length = n') (hl : n ≤ 1048576) (hl' : n' ≤ 1048576) (hX : In8 w a X) (hY : In8 w a' Y) :
    Calls Try.prog 12 #[.slice a n c, .slice a' n' c'] w fun e w' => e = .returned (.bool (eqB X Y)) ∧ ∃ nq, w' = w.drewN nq := by
  by_cases hne : ¬ n = n'
  · have e : ((n : Int) != (n' : Int)) = true := by simp; omega
    have H : Hid (X ≠ Y) := fun e => hne (by rw [← hn, ← hn', e])
    clear hX hY hne hn hn'
    go_enter Try.func12, Try.ntmps12
    go_wp2
    go_ret
    exact ⟨ret_bool (eqB_no H.out), 0, rfl⟩
  have hne' := Decidable.not_not.1 hne
  clear hne
  subst hne'
  have HN : Hid (X.length = n ∧ Y.length = n) := ⟨hn, hn'⟩
  clear hn hn'
  go_enter Try.func12, Try.ntmps12
  go_wp2
  go_loopw [5] (fun i wr => ∃ (k nq : Nat), k ≤ n ∧ i = .int .i64 k ∧ wr = w.drewN nq ∧ Hid (∀ i, i < k → X.getD i 0 = Y.getD i 0)) (fun i _ => n - (intOf i).toNat)
  case atStart => exact ⟨0, 0, Nat.zero_le _, rfl, rfl, fun i h => absurd h (Nat.not_lt_zero _)⟩
  case round =>
    obtain ⟨k, nq, hk, rfl, rfl, hE⟩ := hrel
    by_cases hlt : k < n
    · obtain ⟨b, off, e1, g1⟩ := hX k (by rw [HN.out.1]; exact hlt)
      obtain ⟨b', off', e2, g2⟩ := hY k (by rw [HN.out.2]; exact hlt)
      subst e1 e2
      clear hX hY
      have i1 : (k : Int) < (n : Int) := by omega
      obtain ⟨x, hx⟩ : ∃ x, x = X.getD k 0 := ⟨_, rfl⟩
      obtain ⟨y, hy⟩ : ∃ y, y = Y.getD k 0 := ⟨_, rfl⟩
      rw [← hx] at g1
      rw [← hy] at g2
      have HX : Hid (x = X.getD k 0) := hx
      have HY : Hid (y = Y.getD k 0) := hy
      clear hx hy
      by_cases hxy : x = y
      · have H : Hid (x = y) := hxy
        have e : (x != y) = false := by simp [hxy]
        clear hxy
        go_wp2
        go_quiet (fail)
        go_wp2
        go_roundw
        case rel =>
          refine ⟨k + 1, _, by omega, by go_num, rfl, fun i hi => ?_⟩
          by_cases e : i = k
          · subst e
            rw [← HX.out, ← HY.out]
            exact H.out
          · exact hE.out i (by omega)
        case measure => simp [intOf]; omega
      · have H : Hid (X ≠ Y) := ne_at (k := k) (by rw [← HX.out, ← HY.out]; exact hxy)
        have e : (x != y) = true := by simpa using hxy
        clear hxy
        go_wp2
        go_quiet (fail)
        go_wp2
        go_ret
        exact ⟨ret_bool (eqB_no H.out), _, World.drewN_drewN _ _ _⟩
    · clear hX hY
      go_wp2
      go_ret
      exact ⟨ret_bool (eqB_yes (eq_all (by rw [HN.out.1, HN.out.2]) (fun i hi => hE.out i (by rw [HN.out.1] at hi; omega)))), _, rfl⟩

/-- The end of the size test: some bool; the world stands. -/
def Tells (w : World) (e : Ending) (w' : World) : Prop := ∃ b : Bool, e = .returned (.bool b) ∧ w = w'

theorem lid (a a' : Option Addr) (n n' c c' : Nat) (w : World) : Calls Try.prog 11 #[.slice a n c, .slice a' n' c'] w fun e w' => Tells w e w' := by
  go_enter Try.func11, Try.ntmps11
  go_wp2
  all_goals go_ret
  all_goals exact ⟨_, rfl, rfl⟩

end Go.Proofs.Qxb6600187a.inj
