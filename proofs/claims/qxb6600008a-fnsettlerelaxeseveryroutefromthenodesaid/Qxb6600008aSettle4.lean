/-
  The walk of ZZSettle (27).
-/
import Derived.Test.Qxb6600008aSettle3
namespace Go.Proofs.Qxb6600008a.settle
open Go.RowKit Go.Deep
set_option linter.unusedVariables false

/-- v is a node of the side that settle is asked for. -/
def Node (E : Env) (rev : Bool) (v : Nat) : Prop := if rev then E.n ≤ v ∧ v < E.n + E.m else v < E.n

theorem settle {E : Env} {X : Loc} {w0 w : World} {D P : Nat → Int} {K : Nat → Bool} (ro : Ro E w0) (s : Sep X w0.heap.size) (h : Ok E X w0 w D P K) (v : Nat) (d fr : Int) (rev : Bool) (hv : Node E rev v) :
    Calls Try.prog 35 #[.pointer (some ⟨X.bt, 0, none⟩), .int .i64 v, .int .i64 d, .int .i64 fr, .bool rev] w fun e w' => e = .returned (.tuple #[]) ∧
      Ok E X w0 w' (nd E rev v d D (E.n + E.m)) (np E rev v d fr D P (E.n + E.m)) (nk v K) := by
  cases rev with
  | true => exact settle_rev ro s h v d fr (by simpa [Node] using hv)
  | false => exact settle_fwd ro s h v d fr (by simpa [Node] using hv)

/-- The box's cells, as ZZSettle lays them. -/
def boxed (E : Env) (X : Loc) : Array Value := #[fields E X 0, fields E X 1, fields E X 2, fields E X 3, fields E X 4, fields E X 5, fields E X 6, fields E X 7, fields E X 8, fields E X 9]

theorem box_ok {E : Env} {gd gq gk : Nat} {w0 w : World} {D P : Nat → Int} {K : Nat → Bool} (h : St E ⟨gd, gq, gk, w.heap.size⟩ w0 w D P K) : Ok E ⟨gd, gq, gk, w.heap.size⟩ w0 (w.alloc (.cells (boxed E ⟨gd, gq, gk, w.heap.size⟩) 51)) D P K := by
  refine ⟨⟨h.below.alloc h.below.size _, h.dist.alloc _, h.prev.alloc _, h.done.alloc _⟩, ?_⟩
  refine World.rowIs_alloc w (boxed E ⟨gd, gq, gk, w.heap.size⟩) 51 (fields E ⟨gd, gq, gk, w.heap.size⟩) (fun i hi => ?_)
  have hi' : i < 10 := hi
  rcases (show i = 0 ∨ i = 1 ∨ i = 2 ∨ i = 3 ∨ i = 4 ∨ i = 5 ∨ i = 6 ∨ i = 7 ∨ i = 8 ∨ i = 9 by omega) with rfl | rfl | rfl | rfl | rfl | rfl | rfl | rfl | rfl | rfl <;> rfl

set_option maxHeartbeats 400000 in
theorem zzSettle {E : Env} {gd gq gk : Nat} {w0 w : World} {D P : Nat → Int} {K : Nat → Bool} (ro : Ro E w0) (h : St E ⟨gd, gq, gk, w.heap.size⟩ w0 w D P K) (s1 : w0.heap.size ≤ gd) (s2 : gd < gq) (s3 : gq < gk)
    (v : Nat) (d fr : Int) (rev : Bool) (hv : Node E rev v) :
    Calls Try.prog 27 #[.slice E.aw E.n E.n, .int .i64 E.top, .slice (some ⟨E.gp, 0, none⟩) (E.n + E.m) (E.n + E.m), .slice (some ⟨gd, 0, none⟩) (E.n + E.m) (E.n + E.m), .slice (some ⟨gq, 0, none⟩) (E.n + E.m) (E.n + E.m),
      .slice (some ⟨gk, 0, none⟩) (E.n + E.m) (E.n + E.m), .int .i64 v, .int .i64 d, .int .i64 fr, .bool rev] w fun e w' => e = .returned (.tuple #[]) ∧
      St E ⟨gd, gq, gk, w.heap.size⟩ w0 w' (nd E rev v d D (E.n + E.m)) (np E rev v d fr D P (E.n + E.m)) (nk v K) := by
  have hk := h.done.lt
  have hk' : gk < w.heap.size := hk
  have s : Sep ⟨gd, gq, gk, w.heap.size⟩ w0.heap.size := ⟨s1, by show w0.heap.size ≤ gq; omega, by show w0.heap.size ≤ gk; omega, by show gd ≠ gq; omega, by show gd ≠ gk; omega, by show gq ≠ gk; omega, by show w.heap.size ≠ gd; omega, by show w.heap.size ≠ gq; omega, by show w.heap.size ≠ gk; omega⟩
  have hb := box_ok h
  unfold boxed at hb
  simp only [fields] at hb
  have H := hid (settle ro s hb v d fr rev hv)
  clear h hb hk hk' ro s s1 s2 s3 hv
  go_enter Try.func27, Try.ntmps27
  go_wp2_with fail
  refine H.out.mono ?_
  rintro e w' ⟨rfl, hO⟩
  clear H
  go_wp2
  go_end0
  exact ⟨rfl, hO.toSt⟩

end Go.Proofs.Qxb6600008a.settle
