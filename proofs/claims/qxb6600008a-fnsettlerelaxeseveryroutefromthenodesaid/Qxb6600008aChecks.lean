/-
  The walks of the tests ahead of the law: zzBytes_.. (21), zzSettleTooBig (22), zzSettleShape (23), zzSettleNode (24), zzRowBytes (32), zzRectangular (33), zzOtherSide (28).
-/
import Derived.Test.Qxb6600008aClone
namespace Go.Proofs.Qxb6600008a.settle
open Go.RowKit Go.Deep
set_option linter.unusedVariables false

/-- The table's own row: cell r holds the slice of row r. -/
def Top (w : World) (a : Option Addr) (n : Nat) (A : Nat → Option Addr) (L C : Nat → Nat) : Prop :=
  ∀ r, r < n → ∃ b off, a = some ⟨b, off, none⟩ ∧ w.cell? ⟨b, off + r, none⟩ = some (.slice (A r) (L r) (C r))

/-- The end of a test: it answers some bool, the world stands; where it answers true, P holds. (Under a name, so that the walk leaves it as it is.) -/
def Tells (P : Prop) (w : World) (e : Ending) (w' : World) : Prop := ∃ b : Bool, e = .returned (.bool b) ∧ w = w' ∧ (b = true → P)
def TellsInt (w : World) (e : Ending) (w' : World) : Prop := ∃ t : Int, e = .returned (.int .i64 t) ∧ w = w'
theorem tells_no {P : Prop} {w : World} : Tells P w (.returned (.bool false)) w := ⟨false, rfl, rfl, fun h => by cases h⟩
theorem tells_yes {P : Prop} {w : World} (h : P) : Tells P w (.returned (.bool true)) w := ⟨true, rfl, rfl, fun _ => h⟩

set_option maxHeartbeats 400000 in
theorem rowBytes (a : Option Addr) (n cap : Nat) (A : Nat → Option Addr) (L C : Nat → Nat) (w : World) (hn : n ≤ 1048576) (ht : Top w a n A L C) :
    Calls Try.prog 32 #[.slice a n cap] w fun e w' => TellsInt w e w' := by
  go_enter Try.func32, Try.ntmps32
  go_wp2
  go_loop [3, 4] (fun s i => ∃ (k : Nat) (t : Int), k ≤ n ∧ i = .int .i64 k ∧ s = .int .i64 t) (fun _ i => n - (intOf i).toNat)
  case atStart => exact ⟨0, _, Nat.zero_le _, rfl, rfl⟩
  case round =>
    obtain ⟨k, t, hk, rfl, rfl⟩ := hrel
    by_cases hlt : k < n
    · obtain ⟨b, off, hx, hcc⟩ := ht k hlt
      subst hx
      clear ht
      go_wp2
      · go_ret
        exact ⟨_, rfl, rfl⟩
      · go_round
        case rel => exact ⟨k + 1, _, by omega, by go_num, rfl⟩
        case measure => simp [intOf]; omega
    · clear ht
      go_wp2
      go_ret
      exact ⟨_, rfl, rfl⟩

set_option maxHeartbeats 400000 in
theorem rectangular (a : Option Addr) (n cap : Nat) (m : Int) (A : Nat → Option Addr) (L C : Nat → Nat) (w : World) (hn : n ≤ 1048576) (ht : Top w a n A L C) :
    Calls Try.prog 33 #[.slice a n cap, .int .i64 m] w fun e w' => Tells (∀ r, r < n → (L r : Int) = m) w e w' := by
  go_enter Try.func33, Try.ntmps33
  go_wp2
  go_loop [5] (fun i => ∃ k : Nat, k ≤ n ∧ i = .int .i64 k ∧ Hid (∀ r, r < k → (L r : Int) = m)) (fun i => n - (intOf i).toNat)
  case atStart => exact ⟨0, Nat.zero_le _, rfl, fun r h => absurd h (Nat.not_lt_zero _)⟩
  case round =>
    obtain ⟨k, hk, rfl, hL⟩ := hrel
    by_cases hlt : k < n
    · obtain ⟨b, off, hx, hcc⟩ := ht k hlt
      subst hx
      clear ht
      by_cases he : (L k : Int) = m
      · have he' : ((L k : Int) != m) = false := by simp [he]
        have H : Hid ((L k : Int) = m) := he
        clear he
        go_wp2
        go_round
        case rel =>
          refine ⟨k + 1, by omega, by go_num, fun r hr => ?_⟩
          by_cases e : r = k
          · subst e; exact H.out
          · exact hL.out r (by omega)
        case measure => simp [intOf]; omega
      · have he' : ((L k : Int) != m) = true := by simp; omega
        clear he
        go_wp2
        go_ret
        exact tells_no
    · have e : k = n := by omega
      subst e
      clear ht
      go_wp2
      go_ret
      exact tells_yes hL.out

set_option maxHeartbeats 1000000 in
theorem bytesLid (a ap ad aq ak : Option Addr) (n cap np cp nd cd nq cq nk ck : Nat) (A : Nat → Option Addr) (L C : Nat → Nat) (top v d fr : Int) (rev : Bool) (w : World) (ht : Top w a n A L C) :
    Calls Try.prog 21 #[.slice a n cap, .int .i64 top, .slice ap np cp, .slice ad nd cd, .slice aq nq cq, .slice ak nk ck, .int .i64 v, .int .i64 d, .int .i64 fr, .bool rev] w fun e w' =>
      Tells (n ≤ 1048576 ∧ np ≤ 1048576 ∧ nd ≤ 1048576 ∧ nq ≤ 1048576 ∧ nk ≤ 1048576) w e w' := by
  by_cases hn : 1048576 < n
  · clear ht
    go_enter Try.func21, Try.ntmps21
    go_wp2
    go_ret
    exact tells_no
  go_enter Try.func21, Try.ntmps21
  go_wp2
  go_loop [21, 22] (fun s i => ∃ (k : Nat) (t : Int), k ≤ n ∧ i = .int .i64 k ∧ s = .int .i64 t ∧ 0 ≤ t ∧ t ≤ 1048576) (fun _ i => n - (intOf i).toNat)
  case atStart => exact ⟨0, _, Nat.zero_le _, rfl, rfl, by omega, by omega⟩
  case round =>
    obtain ⟨k, t, hk, rfl, rfl, h0, h1⟩ := hrel
    by_cases hlt : k < n
    · obtain ⟨b, off, hx, hcc⟩ := ht k hlt
      subst hx
      clear ht
      go_wp2
      · go_ret
        exact tells_no
      · go_ret
        exact tells_no
      · go_round
        case rel => exact ⟨k + 1, _, by omega, by go_num, rfl, by omega, by omega⟩
        case measure => simp [intOf]; omega
    · clear ht
      go_wp2
      all_goals go_ret
      all_goals first | exact tells_no | exact tells_yes (by omega)

set_option maxHeartbeats 1000000 in
theorem tooBig (a ap ad aq ak : Option Addr) (n cap np cp nd cd nq cq nk ck : Nat) (A : Nat → Option Addr) (L C : Nat → Nat) (w : World) (ht : Top w a n A L C)
    (hn : n ≤ 1048576) (hp : np ≤ 1048576) (hd : nd ≤ 1048576) (hq : nq ≤ 1048576) (hk : nk ≤ 1048576) :
    Calls Try.prog 22 #[.slice a n cap, .slice ap np cp, .slice ad nd cd, .slice aq nq cq, .slice ak nk ck] w fun e w' => Tells True w e w' := by
  go_enter Try.func22, Try.ntmps22
  go_wp2_with (go_at_call 32; refine (rowBytes _ _ _ _ _ _ _ hn ht).mono ?_; rintro e w' ⟨t, rfl, rfl⟩)
  all_goals go_ret
  all_goals exact ⟨_, rfl, rfl, fun _ => trivial⟩

set_option maxHeartbeats 1000000 in
theorem shape (a ap ad aq ak : Option Addr) (n cap np cp nd cd nq cq nk ck : Nat) (A : Nat → Option Addr) (L C : Nat → Nat) (w : World) (ht : Top w a n A L C)
    (hn : n ≤ 1048576) (hp : np ≤ 1048576) (hd : nd ≤ 1048576) (hq : nq ≤ 1048576) (hk : nk ≤ 1048576) :
    Calls Try.prog 23 #[.slice a n cap, .slice ap np cp, .slice ad nd cd, .slice aq nq cq, .slice ak nk ck] w fun e w' => 
      Tells (n ≤ nd ∧ np = nd ∧ nq = nd ∧ nk = nd ∧ ∀ r, r < n → L r = nd - n) w e w' := by
  by_cases h1 : nd < n
  · clear ht
    go_enter Try.func23, Try.ntmps23
    go_wp2
    go_ret
    exact tells_no
  by_cases h2 : ¬ np = nd
  · have h2' : ((np : Int) != (nd : Int)) = true := by simp; omega
    clear ht h2
    go_enter Try.func23, Try.ntmps23
    go_wp2
    go_ret
    exact tells_no
  by_cases h3 : ¬ nq = nd
  · have h2' := Decidable.not_not.1 h2
    clear h2
    subst h2'
    have h2' : ((nq : Int) != (np : Int)) = true := by simp; omega
    clear ht h3
    go_enter Try.func23, Try.ntmps23
    go_wp2
    go_ret
    exact tells_no
  by_cases h4 : ¬ nk = nd
  · have h2' := Decidable.not_not.1 h2
    have h3' := Decidable.not_not.1 h3
    clear h2 h3
    subst h2' h3'
    have h2' : ((nk : Int) != (nq : Int)) = true := by simp; omega
    clear ht h4
    go_enter Try.func23, Try.ntmps23
    go_wp2
    go_ret
    exact tells_no
  have h2' := Decidable.not_not.1 h2
  have h3' := Decidable.not_not.1 h3
  have h4' := Decidable.not_not.1 h4
  clear h2 h3 h4
  subst h2' h3' h4'
  go_enter Try.func23, Try.ntmps23
  go_wp2_with (go_at_call 33; refine (rectangular _ _ _ _ _ _ _ _ hn ht).mono ?_; rintro e w' ⟨b, rfl, rfl, hb⟩)
  go_ret
  exact ⟨b, rfl, rfl, fun h => ⟨by omega, by simp, by simp, by simp, fun r hr => by have := hb h r hr; omega⟩⟩

def NodeP (n tot : Nat) (v : Int) (rev : Bool) : Prop := (rev = true ∧ (n : Int) ≤ v ∧ v < tot) ∨ (rev = false ∧ 0 ≤ v ∧ v < n)

theorem nodeOk (n tot : Nat) (v : Int) (rev : Bool) (w : World) (hn : n ≤ 1048576) (ht : tot ≤ 1048576) :
    Calls Try.prog 24 #[.int .i64 n, .int .i64 tot, .int .i64 v, .bool rev] w fun e w' => Tells (NodeP n tot v rev) w e w' := by
  cases rev
  · go_enter Try.func24, Try.ntmps24
    go_wp2
    all_goals go_ret
    all_goals first | exact tells_no | exact ⟨_, rfl, rfl, fun h => .inr ⟨rfl, by simp at h; omega⟩⟩
  · go_enter Try.func24, Try.ntmps24
    go_wp2
    all_goals go_ret
    all_goals first | exact tells_no | exact ⟨_, rfl, rfl, fun h => .inl ⟨rfl, by simp at h; omega⟩⟩

theorem otherSide (n x : Nat) (rev : Bool) (w : World) :
    Calls Try.prog 28 #[.int .i64 n, .int .i64 x, .bool rev] w fun e w' => e = .returned (.bool (if rev then decide (x < n) else decide (n ≤ x))) ∧ w = w' := by
  cases rev
  · go_enter Try.func28, Try.ntmps28
    go_wp2
    go_ret
    exact ⟨by simp, rfl⟩
  · go_enter Try.func28, Try.ntmps28
    go_wp2
    go_ret
    exact ⟨by simp, rfl⟩

end Go.Proofs.Qxb6600008a.settle
