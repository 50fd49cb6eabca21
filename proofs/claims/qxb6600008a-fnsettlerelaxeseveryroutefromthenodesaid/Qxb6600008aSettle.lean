/-
  The walks of (*transport).relax (37), (*transport).settle (35), ZZSettle (27).
-/
import Derived.Test.Qxb6600008aRead
import Derived.BigRegion
namespace Go.Proofs.Qxb6600008a.settle
open Go.RowKit Go.Deep
set_option linter.unusedVariables false

/-- Where the search state and the box lie. -/
structure Loc where
  gd : Nat
  gq : Nat
  gk : Nat
  bt : Nat

structure Sep (X : Loc) (B : Nat) : Prop where
  d : B ≤ X.gd
  q : B ≤ X.gq
  k : B ≤ X.gk
  dq : X.gd ≠ X.gq
  dk : X.gd ≠ X.gk
  qk : X.gq ≠ X.gk
  bd : X.bt ≠ X.gd
  bq : X.bt ≠ X.gq
  bk : X.bt ≠ X.gk

/-- The fields of the transport that ZZSettle builds. -/
def fields (E : Env) (X : Loc) : Nat → Value
  | 0 => .int .i64 E.n
  | 1 => .slice E.aw E.n E.n
  | 2 => .int .i64 E.top
  | 5 => .slice (some ⟨E.gp, 0, none⟩) (E.n + E.m) (E.n + E.m)
  | 6 => .slice (some ⟨X.gd, 0, none⟩) (E.n + E.m) (E.n + E.m)
  | 7 => .slice (some ⟨X.gq, 0, none⟩) (E.n + E.m) (E.n + E.m)
  | 8 => .slice (some ⟨X.gk, 0, none⟩) (E.n + E.m) (E.n + E.m)
  | _ => .slice none 0 0

/-- The three rows of the search state. -/
structure St (E : Env) (X : Loc) (w0 w : World) (D P : Nat → Int) (K : Nat → Bool) : Prop where
  below : Below w0.heap.size w0 w
  dist : w.rowIs X.gd 2 (E.n + E.m) (fun i => .int .i64 (D i))
  prev : w.rowIs X.gq 3 (E.n + E.m) (fun i => .int .i64 (P i))
  done : w.rowIs X.gk 4 (E.n + E.m) (fun i => .bool (K i))

/-- .. and the box. -/
structure Ok (E : Env) (X : Loc) (w0 w : World) (D P : Nat → Int) (K : Nat → Bool) : Prop extends St E X w0 w D P K where
  box : w.rowIs X.bt 51 10 (fields E X)

theorem Ok.drewN {E : Env} {X : Loc} {w0 w : World} {D P : Nat → Int} {K : Nat → Bool} (h : Ok E X w0 w D P K) (nq : Nat) : Ok E X w0 (w.drewN nq) D P K :=
  ⟨⟨h.below.trans ⟨rfl, rfl, rfl, Nat.le_refl _, fun _ _ => rfl⟩, h.dist, h.prev, h.done⟩, h.box⟩

theorem Ok.drew {E : Env} {X : Loc} {w0 w : World} {D P : Nat → Int} {K : Nat → Bool} (h : Ok E X w0 w D P K) : Ok E X w0 w.drew D P K :=
  ⟨⟨h.below.drew, h.dist, h.prev, h.done⟩, h.box⟩

theorem Ok.congr {E : Env} {X : Loc} {w0 w : World} {D P D' P' : Nat → Int} {K K' : Nat → Bool} (h : Ok E X w0 w D P K) (hD : ∀ i, i < E.n + E.m → D i = D' i) (hP : ∀ i, i < E.n + E.m → P i = P' i) (hK : ∀ i, i < E.n + E.m → K i = K' i) :
    Ok E X w0 w D' P' K' :=
  ⟨⟨h.below, h.dist.congr (fun i hi => by rw [hD i hi]), h.prev.congr (fun i hi => by rw [hP i hi]), h.done.congr (fun i hi => by rw [hK i hi])⟩, h.box⟩

theorem Ok.setD {E : Env} {X : Loc} {w0 w : World} {D P : Nat → Int} {K : Nat → Bool} (h : Ok E X w0 w D P K) (s : Sep X w0.heap.size) (x : Nat) (c : Int) : Ok E X w0 (w.setCell ⟨X.gd, x, none⟩ (.int .i64 c)) (fun j => if j = x then c else D j) P K :=
  ⟨⟨h.below.setCell s.d _, (h.dist.set x _).congr (fun i _ => by by_cases e : i = x <;> simp [e]), h.prev.setOther (fun e => s.dq e.symm) _, h.done.setOther (fun e => s.dk e.symm) _⟩, h.box.setOther s.bd _⟩

theorem Ok.setP {E : Env} {X : Loc} {w0 w : World} {D P : Nat → Int} {K : Nat → Bool} (h : Ok E X w0 w D P K) (s : Sep X w0.heap.size) (x : Nat) (c : Int) : Ok E X w0 (w.setCell ⟨X.gq, x, none⟩ (.int .i64 c)) D (fun j => if j = x then c else P j) K :=
  ⟨⟨h.below.setCell s.q _, h.dist.setOther s.dq _, (h.prev.set x _).congr (fun i _ => by by_cases e : i = x <;> simp [e]), h.done.setOther (fun e => s.qk e.symm) _⟩, h.box.setOther s.bq _⟩

theorem Ok.setK {E : Env} {X : Loc} {w0 w : World} {D P : Nat → Int} {K : Nat → Bool} (h : Ok E X w0 w D P K) (s : Sep X w0.heap.size) (x : Nat) (c : Bool) : Ok E X w0 (w.setCell ⟨X.gk, x, none⟩ (.bool c)) D P (fun j => if j = x then c else K j) :=
  ⟨⟨h.below.setCell s.k _, h.dist.setOther s.dk _, h.prev.setOther s.qk _, (h.done.set x _).congr (fun i _ => by by_cases e : i = x <;> simp [e])⟩, h.box.setOther s.bk _⟩

set_option maxHeartbeats 400000 in
theorem relax_hit (bt gd gq u x tot : Nat) (du dx px cost : Int) (w : World) (hu : u < tot) (hx : x < tot) (ht : tot ≤ 2097152) (hne : gd ≠ gq) (hb1 : bt ≠ gd) (hb2 : bt ≠ gq)
    (c6 : w.cell? ⟨bt, 6, none⟩ = some (.slice (some ⟨gd, 0, none⟩) tot tot)) (c7 : w.cell? ⟨bt, 7, none⟩ = some (.slice (some ⟨gq, 0, none⟩) tot tot))
    (h1 : w.cell? ⟨gd, u, none⟩ = some (.int .i64 du)) (h2 : w.cell? ⟨gd, x, none⟩ = some (.int .i64 dx)) (h3 : w.cell? ⟨gq, x, none⟩ = some (.int .i64 px))
    (f1 : w.frozen? ⟨gd, x, none⟩ = false) (f2 : w.frozen? ⟨gq, x, none⟩ = false) (hlt : wrap64 (du + cost) < dx) :
    Calls Try.prog 37 #[.pointer (some ⟨bt, 0, none⟩), .int .i64 u, .int .i64 x, .int .i64 cost] w fun e w' => e = .returned (.tuple #[]) ∧ w' = ((w.setCell ⟨gd, x, none⟩ (.int .i64 (wrap64 (du + cost)))).setCell ⟨gq, x, none⟩ (.int .i64 u)).drew := by
  have i1 : (u : Int) < (tot : Int) := by omega
  have i2 : (x : Int) < (tot : Int) := by omega
  go_enter Try.func37, Try.ntmps37
  go_wp2
  go_region
  all_goals (go_end0; exact ⟨rfl, rfl⟩)

set_option maxHeartbeats 400000 in
theorem relax_miss (bt gd gq u x tot : Nat) (du dx cost : Int) (w : World) (hu : u < tot) (hx : x < tot) (ht : tot ≤ 2097152)
    (c6 : w.cell? ⟨bt, 6, none⟩ = some (.slice (some ⟨gd, 0, none⟩) tot tot))
    (h1 : w.cell? ⟨gd, u, none⟩ = some (.int .i64 du)) (h2 : w.cell? ⟨gd, x, none⟩ = some (.int .i64 dx)) (hlt : ¬ wrap64 (du + cost) < dx) :
    Calls Try.prog 37 #[.pointer (some ⟨bt, 0, none⟩), .int .i64 u, .int .i64 x, .int .i64 cost] w fun e w' => e = .returned (.tuple #[]) ∧ w' = w := by
  have i1 : (u : Int) < (tot : Int) := by omega
  have i2 : (x : Int) < (tot : Int) := by omega
  go_enter Try.func37, Try.ntmps37
  go_wp2
  go_end0
  exact ⟨rfl, rfl⟩

/-- Function 37: node x's distance and predecessor are turned where the route is shorter. -/
theorem relax {E : Env} {X : Loc} {w0 w : World} {D P : Nat → Int} {K : Nat → Bool} (ro : Ro E w0) (s : Sep X w0.heap.size) (h : Ok E X w0 w D P K) (u x : Nat) (cost : Int) (hu : u < E.n + E.m) (hx : x < E.n + E.m) :
    Calls Try.prog 37 #[.pointer (some ⟨X.bt, 0, none⟩), .int .i64 u, .int .i64 x, .int .i64 cost] w fun e w' => e = .returned (.tuple #[]) ∧
      Ok E X w0 w' (fun j => if j = x ∧ wrap64 (D u + cost) < D x then wrap64 (D u + cost) else D j) (fun j => if j = x ∧ wrap64 (D u + cost) < D x then (u : Int) else P j) K := by
  have hn := ro.hn
  have hm := ro.hm
  have c6 := h.box.cell (i := 6) (by omega)
  have c7 := h.box.cell (i := 7) (by omega)
  by_cases hlt : wrap64 (D u + cost) < D x
  · refine (relax_hit X.bt X.gd X.gq u x (E.n + E.m) (D u) (D x) (P x) cost w hu hx (by omega) s.dq s.bd s.bq c6 c7 (h.dist.cell hu) (h.dist.cell hx) (h.prev.cell hx) (h.dist.frozen x) (h.prev.frozen x) hlt).mono ?_
    rintro e w' ⟨rfl, rfl⟩
    exact ⟨rfl, (((h.setD s x _).setP s x _).drew).congr (fun i _ => by simp [hlt]) (fun i _ => by simp [hlt]) (fun i _ => rfl)⟩
  · refine (relax_miss X.bt X.gd X.gq u x (E.n + E.m) (D u) (D x) cost w hu hx (by omega) c6 (h.dist.cell hu) (h.dist.cell hx) hlt).mono ?_
    rintro e w' ⟨rfl, rfl⟩
    exact ⟨rfl, h.congr (fun i _ => by simp [hlt]) (fun i _ => by simp [hlt]) (fun i _ => rfl)⟩

/-- Function 36: the documented cost. -/
theorem reduced {E : Env} {X : Loc} {w0 w : World} {D P : Nat → Int} {K : Nat → Bool} (ro : Ro E w0) (h : Ok E X w0 w D P K) (sd r : Nat) (S R : Int) (hS : S = (sd : Int)) (hR : R = (r : Int)) (hs : sd < E.n) (hr : r < E.m) :
    Calls Try.prog 36 #[.pointer (some ⟨X.bt, 0, none⟩), .int .i64 S, .int .i64 R] w fun e w' => e = .returned (.int .i64 (E.cost sd r)) ∧ ∃ nq, w' = w.drewN nq := by
  obtain ⟨bw, ow, e1, k1⟩ := ro.tops sd hs
  obtain ⟨gs, os, e2, k2⟩ := ro.rows sd hs r hr
  have k3 := ro.pi.cell (i := sd) (by omega)
  have k4 := ro.pi.cell (i := E.n + r) (by omega)
  have c0 := h.box.cell (i := 0) (by omega)
  have c1 := h.box.cell (i := 1) (by omega)
  have c2 := h.box.cell (i := 2) (by omega)
  have c5 := h.box.cell (i := 5) (by omega)
  have hb := h.below
  rw [e2] at k1
  simp only [fields] at c0 c1 c2 c5
  rw [e1] at c1
  exact reduced_core X.bt bw ow E.n E.m gs E.gp sd r os S R E.top (E.W sd r) (E.PI sd) (E.PI (E.n + r)) w hS hR hs hr ro.hn ro.hm c0 c1 c2 c5
    ((hb.cell (World.block_lt_of_cell? _ _ k1)).trans k1) ((hb.cell (World.block_lt_of_cell? _ _ k2)).trans k2) ((hb.cell (World.block_lt_of_cell? _ _ k3)).trans k3) ((hb.cell (World.block_lt_of_cell? _ _ k4)).trans k4)

end Go.Proofs.Qxb6600008a.settle
