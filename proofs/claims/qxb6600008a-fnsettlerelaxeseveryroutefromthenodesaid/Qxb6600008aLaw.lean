/-
  The walk of the law (6).
-/
import Derived.Test.Qxb6600008aSettle4
namespace Go.Proofs.Qxb6600008a.settle
open Go.RowKit Go.Deep
set_option linter.unusedVariables false

/-- A slice of integers that came in: its first n cells. -/
def In64 (w : World) (a : Option Addr) (n : Nat) (Z : Nat → Int) : Prop := ∀ i, i < n → ∃ b off, a = some ⟨b, off, none⟩ ∧ w.cell? ⟨b, off + i, none⟩ = some (.int .i64 (Z i))
def InB (w : World) (a : Option Addr) (n : Nat) (Z : Nat → Bool) : Prop := ∀ i, i < n → ∃ b off, a = some ⟨b, off, none⟩ ∧ w.cell? ⟨b, off + i, none⟩ = some (.bool (Z i))
/-- The rows of the table that came in: row r has L r cells. -/
def InRows (w : World) (A : Nat → Option Addr) (n : Nat) (L : Nat → Nat) (Z : Nat → Nat → Int) : Prop :=
  ∀ r, r < n → ∀ i, i < L r → ∃ b off, A r = some ⟨b, off, none⟩ ∧ w.cell? ⟨b, off + i, none⟩ = some (.int .i64 (Z r i))

theorem In64.below {w w' : World} {a : Option Addr} {n : Nat} {Z : Nat → Int} (h : In64 w a n Z) (hb : Below w.heap.size w w') : In64 w' a n Z := fun i hi => by
  obtain ⟨b, off, h1, h2⟩ := h i hi
  exact ⟨b, off, h1, (hb.cell (p := ⟨b, off + i, none⟩) (World.block_lt_of_cell? _ _ h2)).trans h2⟩
theorem InB.below {w w' : World} {a : Option Addr} {n : Nat} {Z : Nat → Bool} (h : InB w a n Z) (hb : Below w.heap.size w w') : InB w' a n Z := fun i hi => by
  obtain ⟨b, off, h1, h2⟩ := h i hi
  exact ⟨b, off, h1, (hb.cell (p := ⟨b, off + i, none⟩) (World.block_lt_of_cell? _ _ h2)).trans h2⟩
theorem In64.of {w : World} {g : Nat} {t : TypeId} {n : Nat} {Z : Nat → Int} (h : w.rowIs g t n (fun i => .int .i64 (Z i))) : In64 w (some ⟨g, 0, none⟩) n Z := fun i hi => ⟨g, 0, rfl, by simpa using h.cell hi⟩
theorem InB.of {w : World} {g : Nat} {t : TypeId} {n : Nat} {Z : Nat → Bool} (h : w.rowIs g t n (fun i => .bool (Z i))) : InB w (some ⟨g, 0, none⟩) n Z := fun i hi => ⟨g, 0, rfl, by simpa using h.cell hi⟩
theorem Top.below {w w' : World} {a : Option Addr} {n : Nat} {A : Nat → Option Addr} {L C : Nat → Nat} (h : Top w a n A L C) (hb : Below w.heap.size w w') : Top w' a n A L C := fun r hr => by
  obtain ⟨b, off, h1, h2⟩ := h r hr
  exact ⟨b, off, h1, (hb.cell (p := ⟨b, off + r, none⟩) (World.block_lt_of_cell? _ _ h2)).trans h2⟩
theorem RowsAt.below {w w' : World} {A : Nat → Option Addr} {n m : Nat} {Z : Nat → Nat → Int} (h : RowsAt w A n m Z) (hb : Below w.heap.size w w') : RowsAt w' A n m Z := fun r hr i hi => by
  obtain ⟨b, off, h1, h2⟩ := h r hr i hi
  exact ⟨b, off, h1, (hb.cell (p := ⟨b, off + i, none⟩) (World.block_lt_of_cell? _ _ h2)).trans h2⟩
theorem below_up {w w' w'' : World} (h : Below w.heap.size w w') (k : Below w'.heap.size w' w'') : Below w.heap.size w w'' := h.trans (k.mono h.size)
theorem rowIs_up {w w' : World} {g : Nat} {t : TypeId} {n : Nat} {f : Nat → Value} (h : w.rowIs g t n f) (hb : Below w.heap.size w w') : w'.rowIs g t n f := rowIs_below h hb h.lt

theorem node_of {n m : Nat} {v : Int} {rev : Bool} (h : NodeP n (n + m) v rev) : ∃ x : Nat, v = (x : Int) ∧ x < n + m ∧ (if rev then n ≤ x ∧ x < n + m else x < n) := by
  rcases h with ⟨rfl, h1, h2⟩ | ⟨rfl, h1, h2⟩
  · exact ⟨v.toNat, by omega, by omega, by simp; omega⟩
  · exact ⟨v.toNat, by omega, by omega, by simp; omega⟩

theorem rows_of {w : World} {A : Nat → Option Addr} {n m : Nat} {L : Nat → Nat} {Z : Nat → Nat → Int} (h : InRows w A n L Z) (hL : ∀ r, r < n → L r = n + m - n) : RowsAt w A n m Z := fun r hr i hi => h r hr i (by rw [hL r hr]; omega)
theorem top_of {w : World} {a : Option Addr} {n m : Nat} {A : Nat → Option Addr} {L C : Nat → Nat} (h : Top w a n A L C) (hL : ∀ r, r < n → L r = n + m - n) : Top w a n A (fun _ => m) C := fun r hr => by
  obtain ⟨b, off, h1, h2⟩ := h r hr
  rw [hL r hr, Nat.add_sub_cancel_left] at h2
  exact ⟨b, off, h1, h2⟩

/-- What the law finds behind the settling: the world's part that the comparing loop reads. -/
structure Seen (w : World) (n m v : Nat) (d fr top : Int) (rev : Bool) (aw : Option Addr) (gp gD gP gK gd gq gk : Nat) (D P ARC : Nat → Int) (K : Nat → Bool) : Prop where
  hn : n ≤ 1048576
  hm : m ≤ 1048576
  hv : v < n + m
  dist : w.rowIs gD 2 (n + m) (fun i => .int .i64 (D i))
  prev : w.rowIs gP 3 (n + m) (fun i => .int .i64 (P i))
  done : w.rowIs gK 4 (n + m) (fun i => .bool (K i))
  nd : w.rowIs gd 2 (n + m) (fun i => .int .i64 (if i = v then d else if (if rev then decide (i < n) else decide (n ≤ i)) = true ∧ ARC i < D i then ARC i else D i))
  np : w.rowIs gq 3 (n + m) (fun i => .int .i64 (if i = v then fr else if (if rev then decide (i < n) else decide (n ≤ i)) = true ∧ ARC i < D i then (v : Int) else P i))
  nk : w.rowIs gk 4 (n + m) (fun i => .bool (if i = v then true else K i))
  arc : ∀ (w' : World) (x : Nat), Below w.heap.size w w' → x < n + m → (if rev then decide (x < n) else decide (n ≤ x)) = true →
    Calls Try.prog 29 #[.slice aw n n, .int .i64 top, .slice (some ⟨gp, 0, none⟩) (n + m) (n + m), .int .i64 n, .int .i64 v, .int .i64 x, .int .i64 d, .bool rev] w' fun e w'' => e = .returned (.int .i64 (ARC x)) ∧ ∃ nq, w'' = w'.drewN nq

theorem seen_of {E : Env} {gD gP gK gd gq gk bt : Nat} {w0 w : World} {D P : Nat → Int} {K : Nat → Bool} (ro : Ro E w0) (v : Nat) (d fr : Int) (rev : Bool) (hv : Node E rev v)
    (h : St E ⟨gd, gq, gk, bt⟩ w0 w (nd E rev v d D (E.n + E.m)) (np E rev v d fr D P (E.n + E.m)) (nk v K))
    (h1 : w0.rowIs gD 2 (E.n + E.m) (fun i => .int .i64 (D i))) (h2 : w0.rowIs gP 3 (E.n + E.m) (fun i => .int .i64 (P i))) (h3 : w0.rowIs gK 4 (E.n + E.m) (fun i => .bool (K i))) :
    Seen w E.n E.m v d fr E.top rev E.aw E.gp gD gP gK gd gq gk D P (E.arc rev v d) K := by
  have hb := h.below
  refine ⟨ro.hn, ro.hm, ?_, rowIs_up h1 hb, rowIs_up h2 hb, rowIs_up h3 hb, h.dist.congr (fun i hi => ?_), h.prev.congr (fun i hi => ?_), h.done.congr (fun i hi => rfl), fun w' x hb' hx ho => ?_⟩
  · unfold Node at hv
    cases rev <;> simp at hv <;> omega
  · simp only [nd, hi, and_true]
    rfl
  · simp only [np, hi, and_true]
    rfl
  · exact arcEnd ro (below_up hb hb') v x d rev hv hx ho

end Go.Proofs.Qxb6600008a.settle
