/-
  What holds between two rounds of asn1Signature: lemmas outside the walk.
-/
import Derived.Test.Qxb6600187aWalkA
namespace Go.Proofs.Qxb6600187a.inj
open Go.RowKit Go.Deep
set_option linter.unusedVariables false

/-- What make lays. -/
def row72 : Array Value := madeCells #[.int .u8 0] 72
/-- The length in a slot, for a loop's measure. -/
def lenOf : Value → Nat | .slice _ n _ => n | _ => 0
/-- The high bit is set. -/
def hb (z : Int) : Bool := (bits .and .u8 z 128 != 0)
def half (Z : List Int) (k : Nat) : List Int := (Z.drop (32 * k)).take 32

/-- xs: the text when k halves are written. -/
def Parts (Z : List Int) : Nat → List Int → Prop
  | 0, xs => xs = [48, 0]
  | k + 1, xs => ∃ ys x, Parts Z k ys ∧ IsInt hb (half Z k) x ∧ xs = ys ++ x

theorem half_len {Z : List Int} (hz : Z.length = 64) {k : Nat} (hk : k < 2) : (half Z k).length = 32 := by simp [half, hz]; omega
theorem half_at {Z : List Int} (hz : Z.length = 64) {k j : Nat} (hk : k < 2) (hj : j < 32) : (half Z k).getD j 0 = Z.getD (32 * k + j) 0 := by
  simp [half, List.getD_eq_getElem?_getD, hj]

theorem Parts.len {Z : List Int} (hz : Z.length = 64) : ∀ {k : Nat} {xs : List Int}, k ≤ 2 → Parts Z k xs → xs.length ≤ 2 + 35 * k
  | 0, xs, _, h => by rw [show xs = [48, 0] from h]; simp
  | k + 1, xs, hk, h => by
    obtain ⟨ys, x, h1, h2, rfl⟩ := h
    have a := Parts.len hz (k := k) (by omega) h1
    have b := h2.length (half_len hz (by omega))
    simp only [List.length_append]
    omega

/-- WHAT HOLDS AT THE OUTER LOOP's HEAD. -/
structure Der (w wr : World) (b : Nat) (Z : List Int) (k : Nat) (xs : List Int) : Prop where
  own : wr.ownsRow w.heap.size 5 1 (.slice (some ⟨w.heap.size, 0, none⟩) xs.length 72) xs.length (xs.map (Value.int .u8))
  below : Below w.heap.size w wr
  size : w.heap.size + 1 < wr.heap.size
  pair : ∀ k, k < 2 → wr.cell? ⟨w.heap.size + 1, k, none⟩ = some (.slice (some ⟨b, 32 * k, none⟩) 32 (64 - 32 * k))
  parts : Parts Z k xs

theorem der_start (w : World) (b : Nat) (Z : List Int) :
    Der w (((w.alloc (.cells (row72.setIfInBounds 0 (.int .u8 48)) 5)).alloc (.cells #[.slice (some ⟨b, 0, none⟩) 32 64, .slice (some ⟨b, 32, none⟩) 32 32] 22)).drew) b Z 0 [48, 0] := by
  refine ⟨?_, ((((Below.refl _ _).alloc (Nat.le_refl _) _).alloc (by simp) _).drew), by simp [World.drew], fun k hk => ?_, rfl⟩
  · refine World.ownsRow.drew (World.ownsRow.alloc ?_ _)
    refine ⟨rfl, .inr ⟨w.heap.size, 72, row72.setIfInBounds 0 (.int .u8 48), rfl, Nat.le_refl _, heap_alloc_new _ _, by decide, by decide, by kernel_rfl, by kernel_rfl⟩⟩
  · rcases (show k = 0 ∨ k = 1 by omega) with rfl | rfl
    · exact cell_of_row _ _ _ _ 22 (0, 0) (heap_alloc2_new _ _ _)
    · exact cell_of_row _ _ _ _ 22 (0, 0) (heap_alloc2_new _ _ _)

theorem new_cells (w : World) (xs : List Value) (t : TypeId) : ∀ j u, xs[j]? = some u → (w.alloc (.cells xs.toArray t)).cell? ((⟨w.heap.size, 0, none⟩ : Addr).add j) = some u := by
  intro j u h
  rw [Addr.add_lit, Nat.zero_add, World.cell?_alloc_at _ _ _ _ rfl]
  simpa using h

/-- The cells of what is left of the half. -/
theorem tail_cells {w w1 : World} {b : Nat} {Z : List Int} {k j L : Nat} (hz : Z.length = 64) (hk : k < 2) (hL : L + j = 32) (hc : ∀ i, i < 64 → w1.cell? ⟨b, i, none⟩ = some (.int .u8 (Z.getD i 0))) :
    ∀ t u, (((half Z k).drop j).map (Value.int .u8))[t]? = some u → w1.cell? ((⟨b, 32 * k + j, none⟩ : Addr).add t) = some u := by
  intro t u h
  have hl := half_len hz hk
  have ht : t < L := by
    have := (List.getElem?_eq_some_iff.1 h).1
    simp [hl] at this
    omega
  rw [Addr.add_lit, hc _ (by omega)]
  have e : (((half Z k).drop j).map (Value.int .u8))[t]? = some (.int .u8 ((half Z k).getD (j + t) 0)) := by
    simp [List.getD_eq_getElem?_getD, show j + t < (half Z k).length by omega]
  rw [e, half_at hz hk (by omega), show 32 * k + (j + t) = 32 * k + j + t by omega] at h
  exact h

theorem tail_len {Z : List Int} {k j L : Nat} (hz : Z.length = 64) (hk : k < 2) (hL : L + j = 32) : ((half Z k).drop j).length = L := by
  have hl := half_len hz hk
  simp [hl]
  omega

/-- A byte of the signature, in any later world. -/
theorem sig_cell {w wr w1 : World} {b : Nat} {Z : List Int} {o : Obj} (hc : ∀ i, i < 64 → w.cell? ⟨b, i, none⟩ = some (.int .u8 (Z.getD i 0))) (hb : b < w.heap.size) (h : Below w.heap.size w wr) (hg : (wr.alloc o).grownBy w1 (some w.heap.size)) :
    ∀ i, i < 64 → w1.cell? ⟨b, i, none⟩ = some (.int .u8 (Z.getD i 0)) := fun i hi => by
  have hb1 : Below w.heap.size w w1 := by
    have h2 : Below w.heap.size w (wr.alloc o) := h.alloc h.size _
    exact ⟨hg.os.trans h2.os, hg.tape.trans h2.tape, hg.output.trans h2.output, Nat.le_trans h2.size hg.size, fun k hk => (hg.block k (by have := h2.size; omega) (fun e => by have := Option.some.inj e; omega)).trans (h2.block k hk)⟩
  exact (hb1.cell (p := ⟨b, i, none⟩) hb).trans (hc i hi)

theorem der_step {w wr w1 w2 : World} {b : Nat} {Z : List Int} {k j L p : Nat} {xs pre : List Int} {P : List Value} {o : Obj} (hz : Z.length = 64) (hk : k < 2) (hL : L + j = 32) (hD : Der w wr b Z k xs)
    (hg1 : (wr.alloc o).grownBy w1 (some w.heap.size)) (hg2 : w1.grownBy w2 (some w.heap.size))
    (hown : w2.ownsRow w.heap.size 5 1 (.slice (some ⟨w.heap.size, 0, none⟩) (xs.length + p + L) 72) (xs.length + p + L) (xs.map (Value.int .u8) ++ P ++ ((half Z k).drop j).map (Value.int .u8)))
    (hP : P = pre.map (Value.int .u8)) (hp : pre.length = p) (hint : IsInt hb (half Z k) (pre ++ (half Z k).drop j)) :
    Der w w2 b Z (k + 1) (xs ++ (pre ++ (half Z k).drop j)) ∧ (xs ++ (pre ++ (half Z k).drop j)).length = xs.length + p + L := by
  have hlen : (xs ++ (pre ++ (half Z k).drop j)).length = xs.length + p + L := by
    simp only [List.length_append, tail_len hz hk hL, hp]
    omega
  have h2 : Below w.heap.size w (wr.alloc o) := hD.below.alloc hD.below.size _
  have h3 : Below w.heap.size w w1 := h2.grown hg1 h2.size (fun k hk => by cases hk; exact Nat.le_refl _)
  have h4 : Below w.heap.size w w2 := h3.grown hg2 h3.size (fun k hk => by cases hk; exact Nat.le_refl _)
  have s1 : wr.heap.size < (wr.alloc o).heap.size := by simp
  have s2 := hg1.size
  have s3 := hg2.size
  have s0 := hD.size
  refine ⟨⟨?_, h4, by omega, fun i hi => ?_, ⟨xs, _, hD.parts, hint, rfl⟩⟩, hlen⟩
  · rw [hlen]
    subst hP
    simpa [List.map_append] using hown
  · have e1 := hg1.cell (a := ⟨w.heap.size + 1, i, none⟩) ((World.cell?_alloc_past o _ _ s0).trans (hD.pair i hi)) (fun e => by have := Option.some.inj e; simp at this)
    exact hg2.cell e1 (fun e => by have := Option.some.inj e; simp at this)

theorem int_hi {Z : List Int} {k j L : Nat} {z : Int} (hz : Z.length = 64) (hk : k < 2) (hL : L + j = 32) (h1 : 1 ≤ L) (he : z = Z.getD (32 * k + j) 0) (h0 : ∀ i, i < j → Z.getD (32 * k + i) 0 = 0) (hx : L = 1 ∨ z ≠ 0) (hh : hb z = true) :
    IsInt hb (half Z k) ([2, (L : Int) + 1, 0] ++ (half Z k).drop j) := by
  have e : (half Z k).getD j 0 = z := by rw [half_at hz hk (by omega), he]
  refine ⟨j, L, hL, h1, fun i hi => by rw [half_at hz hk (by omega)]; exact h0 i hi, by rw [e]; exact hx, ?_⟩
  rw [e, if_pos hh]
  rfl

theorem int_lo {Z : List Int} {k j L : Nat} {z : Int} (hz : Z.length = 64) (hk : k < 2) (hL : L + j = 32) (h1 : 1 ≤ L) (he : z = Z.getD (32 * k + j) 0) (h0 : ∀ i, i < j → Z.getD (32 * k + i) 0 = 0) (hx : L = 1 ∨ z ≠ 0) (hh : ¬ hb z = true) :
    IsInt hb (half Z k) ([2, (L : Int)] ++ (half Z k).drop j) := by
  have e : (half Z k).getD j 0 = z := by rw [half_at hz hk (by omega), he]
  refine ⟨j, L, hL, h1, fun i hi => by rw [half_at hz hk (by omega)]; exact h0 i hi, by rw [e]; exact hx, ?_⟩
  rw [e, if_neg hh]
  rfl

theorem Parts.ge {Z : List Int} : ∀ {k : Nat} {xs : List Int}, Parts Z k xs → 2 ≤ xs.length
  | 0, xs, h => by rw [show xs = [48, 0] from h]; simp
  | k + 1, xs, h => by
    obtain ⟨ys, x, h1, h2, rfl⟩ := h
    have a := Parts.ge (k := k) h1
    simp only [List.length_append]
    omega

/-- From what is owned to the bytes. -/
theorem in8_own {w : World} {base g n cap : Nat} {ys : List Int} (h : w.ownsRow base 5 1 (.slice (some ⟨g, 0, none⟩) n cap) n (ys.map (Value.int .u8))) (hl : ys.length = n) : In8 w (some ⟨g, 0, none⟩) ys := fun i hi => by
  refine ⟨g, 0, rfl, ?_⟩
  rw [Nat.zero_add, h.cellAt i (by omega), List.getElem?_map]
  simp [List.getD_eq_getElem?_getD, hi]

theorem ret_len {a : Option Addr} {n m c : Nat} (h : n = m) : Ending.returned (.slice a n c) = .returned (.slice a m c) := by rw [h]

/-- The last store: the whole length. -/
theorem der_end {Z : List Int} {xs : List Int} {n : Int} (hz : Z.length = 64) (hp : Parts Z 2 xs) (hn : n = (xs.length : Int) - 2) : IsDer hb Z (xs.set 1 n) := by
  obtain ⟨ys, x2, ⟨zs, x1, h0, h1, rfl⟩, h2, rfl⟩ := hp
  have e0 : zs = [48, 0] := h0
  subst e0
  refine ⟨x1, x2, n, by simpa [half] using h1, ?_, ?_, by simp⟩
  · have : half Z 1 = Z.drop 32 := by
      unfold half
      exact List.take_of_length_le (by simp [hz])
    rw [this] at h2
    exact h2
  · rw [hn]
    simp only [List.length_append, List.length_cons, List.length_nil]
    omega

end Go.Proofs.Qxb6600187a.inj
