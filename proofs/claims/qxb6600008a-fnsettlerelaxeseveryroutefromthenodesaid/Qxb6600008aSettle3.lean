/-
  The walk of (*transport).settle (35), a sender settled not reversed.
-/
import Derived.Test.Qxb6600008aSettle2
namespace Go.Proofs.Qxb6600008a.settle
open Go.RowKit Go.Deep
set_option linter.unusedVariables false

theorem start_fwd {E : Env} {X : Loc} {w0 w : World} {D P : Nat → Int} {K : Nat → Bool} (s : Sep X w0.heap.size) (h : Ok E X w0 w D P K) (v : Nat) (d fr : Int) :
    Ok E X w0 (((w.setCell ⟨X.gd, v, none⟩ (.int .i64 d)).setCell ⟨X.gq, v, none⟩ (.int .i64 fr)).setCell ⟨X.gk, v, none⟩ (.bool true)).drew (nd E false v d D E.n) (np E false v d fr D P E.n) (nk v K) :=
  (((h.setD s v d).setP s v fr).setK s v true).drew.congr
    (fun j _ => by
      have : ¬ (E.n ≤ j ∧ j < E.n) := by omega
      simp only [nd, Env.other]; simp [this])
    (fun j _ => by
      have : ¬ (E.n ≤ j ∧ j < E.n) := by omega
      simp only [np, Env.other]; simp [this])
    (fun j _ => by simp [nk])

/-- What the round reckons, in the walk's own spelling. -/
def cur (E : Env) (v k : Nat) (d : Int) : Int := wrap64 (wrap64 (wrap64 (wrap64 (d + E.top) + E.PI v) - E.W v k) - E.PI (E.n + k))

theorem cur_arc (E : Env) (v k : Nat) (d : Int) : cur E v k d = E.arc false v d (E.n + k) := by
  simp only [cur, Env.arc, Env.cost, Nat.add_sub_cancel_left, if_neg (show ¬ (false = true) by decide)]
  unfold wrap64
  omega

theorem at_fwd {E : Env} {D : Nat → Int} (v k : Nat) (d : Int) (hv : v < E.n) : nd E false v d D (E.n + k) (E.n + k) = D (E.n + k) := by
  simp [nd, show E.n + k ≠ v by omega]

theorem hit_fwd {E : Env} {X : Loc} {w0 w : World} {D P : Nat → Int} {K : Nat → Bool} (s : Sep X w0.heap.size) (v k : Nat) (d fr : Int) (hv : v < E.n) (hlt : cur E v k d < D (E.n + k))
    (h : Ok E X w0 w (nd E false v d D (E.n + k)) (np E false v d fr D P (E.n + k)) K) :
    Ok E X w0 ((w.setCell ⟨X.gd, E.n + k, none⟩ (.int .i64 (cur E v k d))).setCell ⟨X.gq, E.n + k, none⟩ (.int .i64 v)) (nd E false v d D (E.n + (k + 1))) (np E false v d fr D P (E.n + (k + 1))) K := by
  rw [cur_arc] at hlt
  refine ((h.setD s _ _).setP s _ _).congr (fun j _ => ?_) (fun j _ => ?_) (fun _ _ => rfl)
  · by_cases e : j = E.n + k
    · subst e
      rw [cur_arc]
      simp [nd, Env.other, hlt, show E.n + k ≠ v by omega]
    · have : (j < E.n + (k + 1)) ↔ (j < E.n + k) := by omega
      simp only [e, if_false, nd, this]
  · by_cases e : j = E.n + k
    · subst e
      simp [np, Env.other, hlt, show E.n + k ≠ v by omega]
    · have : (j < E.n + (k + 1)) ↔ (j < E.n + k) := by omega
      simp only [e, if_false, np, this]

theorem miss_fwd {E : Env} {X : Loc} {w0 w : World} {D P : Nat → Int} {K : Nat → Bool} (v k : Nat) (d fr : Int) (hv : v < E.n) (hlt : ¬ cur E v k d < D (E.n + k))
    (h : Ok E X w0 w (nd E false v d D (E.n + k)) (np E false v d fr D P (E.n + k)) K) :
    Ok E X w0 w (nd E false v d D (E.n + (k + 1))) (np E false v d fr D P (E.n + (k + 1))) K := by
  rw [cur_arc] at hlt
  refine h.congr (fun j _ => ?_) (fun j _ => ?_) (fun _ _ => rfl)
  · by_cases e : j = E.n + k
    · subst e
      simp [nd, Env.other, hlt]
    · have : (j < E.n + (k + 1)) ↔ (j < E.n + k) := by omega
      simp only [nd, this]
  · by_cases e : j = E.n + k
    · subst e
      simp [np, Env.other, hlt]
    · have : (j < E.n + (k + 1)) ↔ (j < E.n + k) := by omega
      simp only [np, this]

set_option maxHeartbeats 1000000 in
theorem settle_fwd {E : Env} {X : Loc} {w0 w : World} {D P : Nat → Int} {K : Nat → Bool} (ro : Ro E w0) (s : Sep X w0.heap.size) (h : Ok E X w0 w D P K) (v : Nat) (d fr : Int) (hv : v < E.n) :
    Calls Try.prog 35 #[.pointer (some ⟨X.bt, 0, none⟩), .int .i64 v, .int .i64 d, .int .i64 fr, .bool false] w fun e w' => e = .returned (.tuple #[]) ∧
      Ok E X w0 w' (nd E false v d D (E.n + E.m)) (np E false v d fr D P (E.n + E.m)) (nk v K) := by
  have hn := ro.hn
  have hm := ro.hm
  have hv2 : v < E.n + E.m := by omega
  have c0 : w.cell? ⟨X.bt, 0, none⟩ = some (.int .i64 E.n) := h.box.cell (i := 0) (by omega)
  have c6 : w.cell? ⟨X.bt, 6, none⟩ = some (.slice (some ⟨X.gd, 0, none⟩) (E.n + E.m) (E.n + E.m)) := h.box.cell (i := 6) (by omega)
  have c7 : w.cell? ⟨X.bt, 7, none⟩ = some (.slice (some ⟨X.gq, 0, none⟩) (E.n + E.m) (E.n + E.m)) := h.box.cell (i := 7) (by omega)
  have c8 : w.cell? ⟨X.bt, 8, none⟩ = some (.slice (some ⟨X.gk, 0, none⟩) (E.n + E.m) (E.n + E.m)) := h.box.cell (i := 8) (by omega)
  have k1 : w.cell? ⟨X.gd, v, none⟩ = some (.int .i64 (D v)) := h.dist.cell hv2
  have k2 : w.cell? ⟨X.gq, v, none⟩ = some (.int .i64 (P v)) := h.prev.cell hv2
  have k3 : w.cell? ⟨X.gk, v, none⟩ = some (.bool (K v)) := h.done.cell hv2
  have f1 := h.dist.frozen v
  have f2 := h.prev.frozen v
  have f3 := h.done.frozen v
  have n1 := s.dq
  have n2 := s.dk
  have n3 := s.qk
  have n4 := s.bd
  have n5 := s.bq
  have n6 := s.bk
  have i1 : (v : Int) < ((E.n + E.m : Nat) : Int) := by omega
  have i2 : (v : Int) < (E.n : Int) := by omega
  have hO := start_fwd (D := D) (P := P) (K := K) s h v d fr
  go_enter Try.func35, Try.ntmps35
  go_wp2
  go_region
  generalize (((w.setCell ⟨X.gd, v, none⟩ (.int .i64 d)).setCell ⟨X.gq, v, none⟩ (.int .i64 fr)).setCell ⟨X.gk, v, none⟩ (.bool true)).drew = W1 at hO ⊢
  clear c0 c6 c7 c8 k1 k2 k3 f1 f2 f3 n1 n2 n3 n4 n5 n6 h
  obtain ⟨bw, ow, e1, t1⟩ := ro.tops v hv
  have c1 : W1.cell? ⟨X.bt, 1, none⟩ = some (.slice (some ⟨bw, ow, none⟩) E.n E.n) := by rw [← e1]; exact hO.box.cell (i := 1) (by omega)
  have c2 : W1.cell? ⟨X.bt, 2, none⟩ = some (.int .i64 E.top) := hO.box.cell (i := 2) (by omega)
  have c5 : W1.cell? ⟨X.bt, 5, none⟩ = some (.slice (some ⟨E.gp, 0, none⟩) (E.n + E.m) (E.n + E.m)) := hO.box.cell (i := 5) (by omega)
  have c6 : W1.cell? ⟨X.bt, 6, none⟩ = some (.slice (some ⟨X.gd, 0, none⟩) (E.n + E.m) (E.n + E.m)) := hO.box.cell (i := 6) (by omega)
  have c7 : W1.cell? ⟨X.bt, 7, none⟩ = some (.slice (some ⟨X.gq, 0, none⟩) (E.n + E.m) (E.n + E.m)) := hO.box.cell (i := 7) (by omega)
  have p1 : W1.cell? ⟨E.gp, v, none⟩ = some (.int .i64 (E.PI v)) := (hO.below.cell (p := ⟨E.gp, v, none⟩) ro.pi.lt).trans (ro.pi.cell hv2)
  have t2 : W1.cell? ⟨bw, ow + v, none⟩ = some (.slice (E.A v) E.m E.m) := (hO.below.cell (p := ⟨bw, ow + v, none⟩) (World.block_lt_of_cell? _ _ t1)).trans t1
  clear e1 t1
  by_cases hm0 : E.m = 0
  · have hO' : Hid (Ok E X w0 W1 (nd E false v d D (E.n + E.m)) (np E false v d fr D P (E.n + E.m)) (nk v K)) := by rw [hm0]; exact hO
    clear hO
    go_wp2
    go_quiet (fail)
    go_wp2
    go_quiet (fail)
    go_wp2
    go_loopw [99] (fun i wr => i = .int .i64 0 ∧ Hid (Ok E X w0 wr (nd E false v d D (E.n + E.m)) (np E false v d fr D P (E.n + E.m)) (nk v K))) (fun _ _ => 0)
    case atStart => exact ⟨rfl, hO'.out.drewN _⟩
    case round =>
      obtain ⟨rfl, hM⟩ := hrel
      go_wp2
      go_end0
      exact ⟨rfl, hM.out⟩
  · go_wp2
    go_quiet (fail)
    go_wp2
    go_quiet (fail)
    go_wp2
    clear c1 c2 c5 c6 c7 p1 t2 i1 i2
    obtain ⟨gs, os, e2, t3⟩ := ro.rows v hv 0 (by omega)
    rw [e2]
    go_loopw [99] (fun i wr => ∃ k : Nat, k ≤ E.m ∧ i = .int .i64 k ∧ Ok E X w0 wr (nd E false v d D (E.n + k)) (np E false v d fr D P (E.n + k)) (nk v K)) (fun i _ => E.m - (intOf i).toNat)
    case atStart => exact ⟨0, Nat.zero_le _, rfl, hO.drewN _⟩
    case round =>
      obtain ⟨k, hk, rfl, hM⟩ := hrel
      clear hO t3
      by_cases hlt : k < E.m
      · have i3 : (k : Int) < (E.m : Int) := by omega
        obtain ⟨gs', os', e3, t4⟩ := ro.rows v hv k hlt
        rw [e2] at e3
        simp only [Option.some.injEq, Addr.mk.injEq, and_true] at e3
        obtain ⟨rfl, rfl⟩ := e3
        have r1 : wr.cell? ⟨gs, os + k, none⟩ = some (.int .i64 (E.W v k)) := (hM.below.cell (p := ⟨gs, os + k, none⟩) (World.block_lt_of_cell? _ _ t4)).trans t4
        have r2 : wr.cell? ⟨E.gp, E.n + k, none⟩ = some (.int .i64 (E.PI (E.n + k))) := (hM.below.cell (p := ⟨E.gp, E.n + k, none⟩) ro.pi.lt).trans (ro.pi.cell (by omega))
        have r3 : wr.cell? ⟨X.gd, E.n + k, none⟩ = some (.int .i64 (D (E.n + k))) := by rw [← at_fwd (D := D) v k d hv]; exact hM.dist.cell (by omega)
        have r4 : ∃ p : Int, wr.cell? ⟨X.gq, E.n + k, none⟩ = some (.int .i64 p) := ⟨_, hM.prev.cell (by omega)⟩
        obtain ⟨p, r4⟩ := r4
        have f1 := hM.dist.frozen (E.n + k)
        have f2 := hM.prev.frozen (E.n + k)
        have n1 := s.dq
        clear t4 e2
        by_cases hc : wrap64 (wrap64 (wrap64 (wrap64 (d + E.top) + E.PI v) - E.W v k) - E.PI (E.n + k)) < D (E.n + k)
        · have hS := hit_fwd s v k d fr hv hc hM
          unfold cur at hS
          clear hM
          go_wp2
          go_roundw
          case rel => exact ⟨k + 1, by omega, by go_num, hS⟩
          case measure => simp [intOf]; omega
        · have hS := miss_fwd v k d fr hv hc hM
          clear hM
          go_wp2
          go_roundw
          case rel => exact ⟨k + 1, by omega, by go_num, hS⟩
          case measure => simp [intOf]; omega
      · have e : k = E.m := by omega
        subst e
        clear e2
        go_wp2
        go_end0
        exact ⟨rfl, hM⟩

end Go.Proofs.Qxb6600008a.settle
