/-
  The walk of (*transport).settle (35), a receiver settled reversed; a sender settled not reversed.
-/
import Derived.Test.Qxb6600008aSettle
namespace Go.Proofs.Qxb6600008a.settle
open Go.RowKit Go.Deep
set_option linter.unusedVariables false

/-- The distances behind settle, the nodes below 'lim' relaxed. -/
def nd (E : Env) (rev : Bool) (v : Nat) (d : Int) (D : Nat → Int) (lim : Nat) : Nat → Int := fun j =>
  if j = v then d else if (E.other rev j = true ∧ j < lim) ∧ E.arc rev v d j < D j then E.arc rev v d j else D j
/-- The predecessors. -/
def np (E : Env) (rev : Bool) (v : Nat) (d fr : Int) (D P : Nat → Int) (lim : Nat) : Nat → Int := fun j =>
  if j = v then fr else if (E.other rev j = true ∧ j < lim) ∧ E.arc rev v d j < D j then (v : Int) else P j
def nk (v : Nat) (K : Nat → Bool) : Nat → Bool := fun j => if j = v then true else K j

theorem start_rev {E : Env} {X : Loc} {w0 w : World} {D P : Nat → Int} {K : Nat → Bool} (s : Sep X w0.heap.size) (h : Ok E X w0 w D P K) (v : Nat) (d fr : Int) :
    Ok E X w0 (((w.setCell ⟨X.gd, v, none⟩ (.int .i64 d)).setCell ⟨X.gq, v, none⟩ (.int .i64 fr)).setCell ⟨X.gk, v, none⟩ (.bool true)).drew (nd E true v d D 0) (np E true v d fr D P 0) (nk v K) :=
  (((h.setD s v d).setP s v fr).setK s v true).drew.congr (fun j _ => by simp [nd]) (fun j _ => by simp [np]) (fun j _ => by simp [nk])

theorem step_rev {E : Env} {X : Loc} {w0 w : World} {D P : Nat → Int} {K : Nat → Bool} (v k : Nat) (d fr : Int) (hv : E.n ≤ v) (hk : k < E.n)
    (h : Ok E X w0 w (fun j => if j = k ∧ wrap64 (nd E true v d D k v + E.cost k (v - E.n)) < nd E true v d D k k then wrap64 (nd E true v d D k v + E.cost k (v - E.n)) else nd E true v d D k j)
      (fun j => if j = k ∧ wrap64 (nd E true v d D k v + E.cost k (v - E.n)) < nd E true v d D k k then (v : Int) else np E true v d fr D P k j) K) :
    Ok E X w0 w (nd E true v d D (k + 1)) (np E true v d fr D P (k + 1)) K := by
  have e1 : nd E true v d D k v = d := by simp [nd]
  have e2 : nd E true v d D k k = D k := by simp [nd, show k ≠ v by omega]
  have e3 : wrap64 (d + E.cost k (v - E.n)) = E.arc true v d k := by simp [Env.arc]
  rw [e1, e2, e3] at h
  refine h.congr (fun j _ => ?_) (fun j _ => ?_) (fun _ _ => rfl)
  · by_cases e : j = k
    · subst e
      simp [nd, Env.other, hk, show j ≠ v by omega]
    · simp only [e, false_and, if_false, nd]
      have : (j < k + 1) ↔ (j < k) := by omega
      simp only [this]
  · by_cases e : j = k
    · subst e
      simp [np, Env.other, hk, show j ≠ v by omega]
    · simp only [e, false_and, if_false, np]
      have : (j < k + 1) ↔ (j < k) := by omega
      simp only [this]

theorem end_rev {E : Env} {X : Loc} {w0 w : World} {D P : Nat → Int} {K : Nat → Bool} (v : Nat) (d fr : Int)
    (h : Ok E X w0 w (nd E true v d D E.n) (np E true v d fr D P E.n) K) : Ok E X w0 w (nd E true v d D (E.n + E.m)) (np E true v d fr D P (E.n + E.m)) K := by
  refine h.congr (fun j hj => ?_) (fun j hj => ?_) (fun _ _ => rfl)
  · simp [nd, Env.other, hj]
  · simp [np, Env.other, hj]

set_option maxHeartbeats 1000000 in
theorem settle_rev {E : Env} {X : Loc} {w0 w : World} {D P : Nat → Int} {K : Nat → Bool} (ro : Ro E w0) (s : Sep X w0.heap.size) (h : Ok E X w0 w D P K) (v : Nat) (d fr : Int) (hv : E.n ≤ v ∧ v < E.n + E.m) :
    Calls Try.prog 35 #[.pointer (some ⟨X.bt, 0, none⟩), .int .i64 v, .int .i64 d, .int .i64 fr, .bool true] w fun e w' => e = .returned (.tuple #[]) ∧
      Ok E X w0 w' (nd E true v d D (E.n + E.m)) (np E true v d fr D P (E.n + E.m)) (nk v K) := by
  obtain ⟨hv1, hv2⟩ := hv
  have hn := ro.hn
  have hm := ro.hm
  have c0 : w.cell? ⟨X.bt, 0, none⟩ = some (.int .i64 E.n) := h.box.cell (i := 0) (by omega)
  have c6 : w.cell? ⟨X.bt, 6, none⟩ = some (.slice (some ⟨X.gd, 0, none⟩) (E.n + E.m) (E.n + E.m)) := h.box.cell (i := 6) (by omega)
  have c7 : w.cell? ⟨X.bt, 7, none⟩ = some (.slice (some ⟨X.gq, 0, none⟩) (E.n + E.m) (E.n + E.m)) := h.box.cell (i := 7) (by omega)
  have c8 : w.cell? ⟨X.bt, 8, none⟩ = some (.slice (some ⟨X.gk, 0, none⟩) (E.n + E.m) (E.n + E.m)) := h.box.cell (i := 8) (by omega)
  have k1 : w.cell? ⟨X.gd, v, none⟩ = some (.int .i64 (D v)) := h.dist.cell hv2
  have k2 : w.cell? ⟨X.gq, v, none⟩ = some (.int .i64 (P v)) := h.prev.cell hv2
  have k3 : w.cell? ⟨X.gk, v, none⟩ = some (.bool (K v)) := h.done.cell hv2
  have f1 := h.dist.frozen v
  have f2 := h.prev.frozen v
  have f3 := h.done.frozen v
  have n1 := s.dq
  have n2 := s.dk
  have n3 := s.qk
  have n4 := s.bd
  have n5 := s.bq
  have n6 := s.bk
  have i1 : (v : Int) < ((E.n + E.m : Nat) : Int) := by omega
  have hO := start_rev (D := D) (P := P) (K := K) s h v d fr
  go_enter Try.func35, Try.ntmps35
  go_wp2
  go_region
  go_wp2
  clear c0 c6 c7 c8 k1 k2 k3 f1 f2 f3 n1 n2 n3 n4 n5 n6 h
  go_loopw [45] (fun i wr => ∃ k : Nat, k ≤ E.n ∧ i = .int .i64 k ∧ Ok E X w0 wr (nd E true v d D k) (np E true v d fr D P k) (nk v K)) (fun i _ => E.n - (intOf i).toNat)
  case atStart => exact ⟨0, Nat.zero_le _, rfl, hO⟩
  case round =>
    obtain ⟨k, hk, rfl, hM⟩ := hrel
    clear hO
    by_cases hlt : k < E.n
    · go_wp2_with fail
      refine (reduced ro hM k (v - E.n) _ _ rfl (by omega) hlt (by omega)).mono ?_
      rintro e w' ⟨rfl, nq, rfl⟩
      have hM1 := hM.drewN nq
      clear hM
      go_wp2_with fail
      refine (relax ro s hM1 v k _ hv2 (by omega)).mono ?_
      rintro e w' ⟨rfl, hM2⟩
      have hM3 := step_rev v k d fr hv1 hlt hM2
      clear hM1 hM2
      go_wp2
      go_roundw
      case rel => exact ⟨k + 1, by omega, by go_num, hM3⟩
      case measure => simp [intOf]; omega
    · have e : k = E.n := by omega
      subst e
      go_wp2
      exact bodyPost_ret (v := .tuple #[]) (results_none rfl _ _ _) rfl ⟨rfl, end_rev v d fr hM⟩

end Go.Proofs.Qxb6600008a.settle
