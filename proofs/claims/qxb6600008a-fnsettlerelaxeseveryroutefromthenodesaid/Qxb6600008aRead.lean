/-
  The walks of the readings: (*transport).reduced (36), zzDocCost (15), zzArcEnd (29).
-/
import Derived.Test.Qxb6600008aTable
import Derived.Deep.QuietTactic
import Derived.BigQuiet
namespace Go.Proofs.Qxb6600008a.settle
open Go.RowKit Go.Deep
set_option linter.unusedVariables false

/-- The names of what settle is handed: n senders, m receivers, where each part lies, the numbers of the table and the potentials. -/
structure Env where
  n : Nat
  m : Nat
  top : Int
  aw : Option Addr
  A : Nat → Option Addr
  gp : Nat
  W : Nat → Nat → Int
  PI : Nat → Int

/-- What is only read lies in the world w0. -/
structure Ro (E : Env) (w0 : World) : Prop where
  hn : E.n ≤ 1048576
  hm : E.m ≤ 1048576
  tops : Top w0 E.aw E.n E.A (fun _ => E.m) (fun _ => E.m)
  rows : RowsAt w0 E.A E.n E.m E.W
  pi : w0.rowIs E.gp 2 (E.n + E.m) (fun i => .int .i64 (E.PI i))

/-- The documented reduced cost of the route from sender s to receiver r, in int64's wrapping arithmetic. -/
def Env.cost (E : Env) (s r : Nat) : Int := wrap64 (E.top + E.PI s - E.PI (E.n + r) - E.W s r)

theorem wrap_doc (a b c d : Int) : wrap64 (wrap64 (wrap64 (a + b) - c) - d) = wrap64 (a + b - c - d) := by unfold wrap64; omega
theorem wrap_red (a b c d : Int) : wrap64 (wrap64 (wrap64 (a - d) + b) - c) = wrap64 (a + b - c - d) := by unfold wrap64; omega
theorem hid {p : Prop} (h : p) : Hid p := h
theorem ret_int {k : IntKind} {a b : Int} (h : a = b) : Ending.returned (.int k a) = .returned (.int k b) := by rw [h]

set_option maxHeartbeats 400000 in
theorem docCost_core (bw ow n m gs gp s r os : Nat) (R top wsr ps pr : Int) (w : World) (hR : R = (r : Int)) (hs : s < n) (hr : r < m) (hn : n ≤ 1048576) (hm : m ≤ 1048576)
    (h1 : w.cell? ⟨bw, ow + s, none⟩ = some (.slice (some ⟨gs, os, none⟩) m m)) (h2 : w.cell? ⟨gs, os + r, none⟩ = some (.int .i64 wsr))
    (h3 : w.cell? ⟨gp, s, none⟩ = some (.int .i64 ps)) (h4 : w.cell? ⟨gp, n + r, none⟩ = some (.int .i64 pr)) :
    Calls Try.prog 15 #[.slice (some ⟨bw, ow, none⟩) n n, .int .i64 top, .slice (some ⟨gp, 0, none⟩) (n + m) (n + m), .int .i64 n, .int .i64 s, .int .i64 R] w fun e w' => e = .returned (.int .i64 (wrap64 (top + ps - pr - wsr))) ∧ ∃ nq, w' = w.drewN nq := by
  subst hR
  have i1 : (s : Int) < (n : Int) := by omega
  have i2 : (s : Int) < ((n + m : Nat) : Int) := by omega
  have i3 : (r : Int) < (m : Int) := by omega
  have i4 : (n : Int) + (r : Int) < ((n + m : Nat) : Int) := by omega
  go_enter Try.func15, Try.ntmps15
  go_wp2
  go_quiet (fail)
  go_wp2
  go_ret
  exact ⟨ret_int (wrap_doc _ _ _ _), _, rfl⟩

set_option maxHeartbeats 400000 in
theorem reduced_core (bt bw ow n m gs gp s r os : Nat) (S R top wsr ps pr : Int) (w : World) (hS : S = (s : Int)) (hR : R = (r : Int)) (hs : s < n) (hr : r < m) (hn : n ≤ 1048576) (hm : m ≤ 1048576)
    (c0 : w.cell? ⟨bt, 0, none⟩ = some (.int .i64 n)) (c1 : w.cell? ⟨bt, 1, none⟩ = some (.slice (some ⟨bw, ow, none⟩) n n)) (c2 : w.cell? ⟨bt, 2, none⟩ = some (.int .i64 top))
    (c5 : w.cell? ⟨bt, 5, none⟩ = some (.slice (some ⟨gp, 0, none⟩) (n + m) (n + m)))
    (h1 : w.cell? ⟨bw, ow + s, none⟩ = some (.slice (some ⟨gs, os, none⟩) m m)) (h2 : w.cell? ⟨gs, os + r, none⟩ = some (.int .i64 wsr))
    (h3 : w.cell? ⟨gp, s, none⟩ = some (.int .i64 ps)) (h4 : w.cell? ⟨gp, n + r, none⟩ = some (.int .i64 pr)) :
    Calls Try.prog 36 #[.pointer (some ⟨bt, 0, none⟩), .int .i64 S, .int .i64 R] w fun e w' => e = .returned (.int .i64 (wrap64 (top + ps - pr - wsr))) ∧ ∃ nq, w' = w.drewN nq := by
  subst hS hR
  have i1 : (s : Int) < (n : Int) := by omega
  have i2 : (s : Int) < ((n + m : Nat) : Int) := by omega
  have i3 : (r : Int) < (m : Int) := by omega
  have i4 : (n : Int) + (r : Int) < ((n + m : Nat) : Int) := by omega
  go_enter Try.func36, Try.ntmps36
  go_wp2
  go_quiet (fail)
  go_wp2
  go_ret
  exact ⟨ret_int (wrap_red _ _ _ _), _, rfl⟩

/-- Function 15 over what is only read: the documented cost. -/
theorem docCost {E : Env} {w0 w : World} (ro : Ro E w0) (hb : Below w0.heap.size w0 w) (s r : Nat) (R : Int) (hR : R = (r : Int)) (hs : s < E.n) (hr : r < E.m) :
    Calls Try.prog 15 #[.slice E.aw E.n E.n, .int .i64 E.top, .slice (some ⟨E.gp, 0, none⟩) (E.n + E.m) (E.n + E.m), .int .i64 E.n, .int .i64 s, .int .i64 R] w fun e w' => e = .returned (.int .i64 (E.cost s r)) ∧ ∃ nq, w' = w.drewN nq := by
  obtain ⟨bw, ow, e1, k1⟩ := ro.tops s hs
  obtain ⟨gs, os, e2, k2⟩ := ro.rows s hs r hr
  have k3 := ro.pi.cell (i := s) (by omega)
  have k4 := ro.pi.cell (i := E.n + r) (by omega)
  rw [e1]
  rw [e2] at k1
  exact docCost_core bw ow E.n E.m gs E.gp s r os R E.top (E.W s r) (E.PI s) (E.PI (E.n + r)) w hR hs hr ro.hn ro.hm
    ((hb.cell (World.block_lt_of_cell? _ _ k1)).trans k1) ((hb.cell (World.block_lt_of_cell? _ _ k2)).trans k2) ((hb.cell (World.block_lt_of_cell? _ _ k3)).trans k3) ((hb.cell (World.block_lt_of_cell? _ _ k4)).trans k4)

/-- Where a route from the settled node v, at distance d, leads node x. -/
def Env.arc (E : Env) (rev : Bool) (v : Nat) (d : Int) (x : Nat) : Int :=
  if rev then wrap64 (d + E.cost x (v - E.n)) else wrap64 (d + E.cost v (x - E.n))

/-- Is x on the side that settle relaxes? -/
def Env.other (E : Env) (rev : Bool) (x : Nat) : Bool := if rev then decide (x < E.n) else decide (E.n ≤ x)

set_option maxHeartbeats 400000 in
theorem arcEnd_rev {E : Env} {w0 w : World} (ro : Ro E w0) (hb : Below w0.heap.size w0 w) (v x : Nat) (d : Int) (hv : E.n ≤ v ∧ v < E.n + E.m) (hx : x < E.n) :
    Calls Try.prog 29 #[.slice E.aw E.n E.n, .int .i64 E.top, .slice (some ⟨E.gp, 0, none⟩) (E.n + E.m) (E.n + E.m), .int .i64 E.n, .int .i64 v, .int .i64 x, .int .i64 d, .bool true] w fun e w' =>
      e = .returned (.int .i64 (wrap64 (d + E.cost x (v - E.n)))) ∧ ∃ nq, w' = w.drewN nq := by
  have hn := ro.hn
  have hm := ro.hm
  have H := hid (docCost ro hb x (v - E.n) ((v : Int) - (E.n : Int)) (by omega) hx (by omega))
  clear ro hb
  go_enter Try.func29, Try.ntmps29
  go_wp2_with fail
  refine H.out.mono ?_
  rintro e w' ⟨rfl, nq, rfl⟩
  clear H
  go_wp2
  go_ret
  exact ⟨rfl, nq, rfl⟩

set_option maxHeartbeats 400000 in
theorem arcEnd_fwd {E : Env} {w0 w : World} (ro : Ro E w0) (hb : Below w0.heap.size w0 w) (v x : Nat) (d : Int) (hv : v < E.n) (hx : E.n ≤ x ∧ x < E.n + E.m) :
    Calls Try.prog 29 #[.slice E.aw E.n E.n, .int .i64 E.top, .slice (some ⟨E.gp, 0, none⟩) (E.n + E.m) (E.n + E.m), .int .i64 E.n, .int .i64 v, .int .i64 x, .int .i64 d, .bool false] w fun e w' =>
      e = .returned (.int .i64 (wrap64 (d + E.cost v (x - E.n)))) ∧ ∃ nq, w' = w.drewN nq := by
  have hn := ro.hn
  have hm := ro.hm
  have H := hid (docCost ro hb v (x - E.n) ((x : Int) - (E.n : Int)) (by omega) hv (by omega))
  clear ro hb
  go_enter Try.func29, Try.ntmps29
  go_wp2_with fail
  refine H.out.mono ?_
  rintro e w' ⟨rfl, nq, rfl⟩
  clear H
  go_wp2
  go_ret
  exact ⟨rfl, nq, rfl⟩

/-- Function 29 at whatever node x of the other side. -/
theorem arcEnd {E : Env} {w0 w : World} (ro : Ro E w0) (hb : Below w0.heap.size w0 w) (v x : Nat) (d : Int) (rev : Bool) (hv : if rev then E.n ≤ v ∧ v < E.n + E.m else v < E.n) (hx : x < E.n + E.m) (ho : E.other rev x = true) :
    Calls Try.prog 29 #[.slice E.aw E.n E.n, .int .i64 E.top, .slice (some ⟨E.gp, 0, none⟩) (E.n + E.m) (E.n + E.m), .int .i64 E.n, .int .i64 v, .int .i64 x, .int .i64 d, .bool rev] w fun e w' =>
      e = .returned (.int .i64 (E.arc rev v d x)) ∧ ∃ nq, w' = w.drewN nq := by
  cases rev with
  | true => exact arcEnd_rev ro hb v x d (by simpa using hv) (by simpa [Env.other] using ho)
  | false => exact arcEnd_fwd ro hb v x d (by simpa using hv) ⟨by simpa [Env.other] using ho, hx⟩

end Go.Proofs.Qxb6600008a.settle
