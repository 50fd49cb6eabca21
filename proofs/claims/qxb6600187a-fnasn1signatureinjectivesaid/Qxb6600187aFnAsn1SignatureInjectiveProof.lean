/-
  A proof of 'Rows.FnAsn1SignatureInjectiveSaid'. The frame is the one that the kit's tool (proof-skeleton.mjs) wrote for this program; the walks lie in WalkA, WalkB, the plain law in Plain.
-/
import Derived.Test.Qxb6600187aWalkB
import Derived.WalkKit
import Derived.ProofKit
import Derived.OpenShut
import Derived.ShutString
import Derived.ChangeOld
import Derived.Below
namespace Go.Proofs.Qxb6600187a.fnAsn1SignatureInjective
open Go.Proofs.Qxb6600187a.inj
open Go.ChangeShapes Go.WideShapes Go.ChangeAt Go.RowKit
open Go.ChangeMaps (open_string shut_string)
set_option linter.unusedVariables false

theorem own : ownKnob Try.prog.godebug = none := by kernel_rfl
theorem laidOut : laidOutB Try.prog = true := by kernel_rfl

/-- WHAT THE WALK IS TOLD OF A SLICE OF INTEGERS THAT CAME IN: it is nil; or it leads to a row of 'cap' cells, the numbers 'zs' (the first 'len' are its elements, the rest its spare room), each fitting its kind. -/
def IsRow (k : IntKind) (w : World) (a : Option Addr) (len cap : Nat) (zs : List Int) : Prop :=
  (a = none ∧ len = 0 ∧ cap = 0 ∧ zs = []) ∨
  ∃ x, a = some x ∧ len ≤ cap ∧ cap ≤ maxLen ∧ zs.length = cap ∧ (∀ i, i < zs.length → w.cell? (x.add i) = some (.int k (zs.getD i 0))) ∧ ∀ n ∈ zs, (Lit.int k n).wf = true

/-- A row's cells, in the walk's spelling. -/
theorem row_cells {w : World} {a : Option Addr} {n cap : Nat} {zs : List Int} (h : IsRow .u8 w a n cap zs) : ∀ i, i < n → ∃ b off, a = some ⟨b, off, none⟩ ∧ w.cell? ⟨b, off + i, none⟩ = some (.int .u8 (zs.getD i 0)) := by
  intro i hi
  rcases h with ⟨_, h0, _⟩ | ⟨x, rfl, hl, _, hz, hc, _⟩
  · omega
  · obtain ⟨b, off, rfl, hh⟩ := ints_at hc (by omega)
    exact ⟨b, off, rfl, hh i (by omega)⟩

theorem row_len {w : World} {a : Option Addr} {n cap : Nat} {zs : List Int} (h : IsRow .u8 w a n cap zs) : n ≤ zs.length := by
  rcases h with ⟨_, h0, _⟩ | ⟨x, rfl, hl, _, hz, hc, _⟩ <;> omega

theorem take_at (z : List Int) (i : Nat) (h : i < 64) : (z.take 64).getD i 0 = z.getD i 0 := by simp [List.getD_eq_getElem?_getD, h]

/-- Where a length is not 64 the law answers true at once. -/
theorem walk_other (a0 : Option Addr) (len0 cap0 : Nat) (a1 : Option Addr) (len1 cap1 : Nat) (w : World) (h : ¬ (len0 = 64 ∧ len1 = 64)) :
    Calls Try.prog 4 #[.slice a0 len0 cap0, .slice a1 len1 cap1] w fun e w' => e = .returned (.bool true) ∧ Below w.heap.size w w' := by
  by_cases h0 : len0 = 64
  · have h1 : ((len1 : Int) != 64) = true := by simp; omega
    have h0' : ((len0 : Int) != 64) = false := by simp; omega
    clear h h0
    go_enter Try.func4, Try.ntmps4
    go_wp2_with (go_at_call 11; refine (lid _ _ _ _ _ _ _).mono ?_; rintro e w' ⟨b, rfl, rfl⟩)
    all_goals go_ret
    all_goals exact ⟨rfl, Below.refl _ _⟩
  · have h0' : ((len0 : Int) != 64) = true := by simp; omega
    clear h h0
    go_enter Try.func4, Try.ntmps4
    go_wp2_with (go_at_call 11; refine (lid _ _ _ _ _ _ _).mono ?_; rintro e w' ⟨b, rfl, rfl⟩)
    all_goals go_ret
    all_goals exact ⟨rfl, Below.refl _ _⟩

set_option maxHeartbeats 1000000 in
theorem walk_64 (a0 : Option Addr) (cap0 : Nat) (z0 : List Int) (a1 : Option Addr) (cap1 : Nat) (z1 : List Int) (w : World) (w0 : IsRow .u8 w a0 64 cap0 z0) (w1 : IsRow .u8 w a1 64 cap1 z1) :
    Calls Try.prog 4 #[.slice a0 64 cap0, .slice a1 64 cap1] w fun e w' => e = .returned (.bool true) ∧ Below w.heap.size w w' := by
  have A0 := hid (row_cells w0)
  have A1 := hid (row_cells w1)
  have L0 : Hid ((z0.take 64).length = 64) := by have := row_len w0; show (z0.take 64).length = 64; simp; omega
  have L1 : Hid ((z1.take 64).length = 64) := by have := row_len w1; show (z1.take 64).length = 64; simp; omega
  clear w0 w1
  go_enter Try.func4, Try.ntmps4
  go_wp2_with fail
  refine (lid _ _ _ _ _ _ _).mono ?_
  rintro e w' ⟨b, rfl, rfl⟩
  cases b
  · go_wp2
    go_ret
    exact ⟨rfl, Below.refl _ _⟩
  go_wp2_with fail
  refine (copyBytes a0 64 cap0 (fun i => z0.getD i 0) w (by omega) A0.out).mono ?_
  rintro e w2 ⟨a2, rfl, b2, c2⟩
  obtain ⟨ea, R2⟩ := c2 (by omega)
  subst ea
  clear c2
  go_wp2_with fail
  refine (copyBytes a1 64 cap1 (fun i => z1.getD i 0) w2 (by omega) (fun i hi => ?_)).mono ?_
  · obtain ⟨b, off, h1, h2⟩ := A1.out i hi
    exact ⟨b, off, h1, (b2.cell (p := ⟨b, off + i, none⟩) (World.block_lt_of_cell? _ _ h2)).trans h2⟩
  rintro e w3 ⟨a3, rfl, b3, c3⟩
  obtain ⟨ea, R3⟩ := c3 (by omega)
  subst ea
  clear c3 A0 A1
  have R2' : w3.rowIs w.heap.size 5 64 (fun i => .int .u8 (z0.getD i 0)) := R2.of_block (b3.block _ R2.lt)
  have s2 := R2.lt
  have s3 := R3.lt
  have s2' := R2'.lt
  go_wp2_with fail
  refine (zzAsn1 w.heap.size (z0.take 64) w3 L0.out s2' (fun i hi => ?_)).mono ?_
  · rw [take_at _ _ hi]
    exact R2'.cell hi
  rintro e w4 ⟨X, rfl, lx, dx, ix, b4, s4⟩
  have R3' : w4.rowIs w2.heap.size 5 64 (fun i => .int .u8 (z1.getD i 0)) := R3.of_block (b4.block _ s3)
  have R2'' : w4.rowIs w.heap.size 5 64 (fun i => .int .u8 (z0.getD i 0)) := R2'.of_block (b4.block _ s2')
  go_wp2_with fail
  refine (zzAsn1 w2.heap.size (z1.take 64) w4 L1.out R3'.lt (fun i hi => ?_)).mono ?_
  · rw [take_at _ _ hi]
    exact R3'.cell hi
  rintro e w5 ⟨Y, rfl, ly, dy, iy, b5, s5⟩
  have ix' : In8 w5 (some ⟨w3.heap.size, 0, none⟩) X := fun i hi => by
    obtain ⟨b, off, h1, h2⟩ := ix i hi
    exact ⟨b, off, h1, (b5.cell (p := ⟨b, off + i, none⟩) (World.block_lt_of_cell? _ _ h2)).trans h2⟩
  have i0 : In8 w5 (some ⟨w.heap.size, 0, none⟩) (z0.take 64) := fun i hi => by
    rw [L0.out] at hi
    refine ⟨w.heap.size, 0, rfl, ?_⟩
    rw [take_at _ _ hi, Nat.zero_add]
    exact (R2''.of_block (b5.block _ R2''.lt)).cell hi
  have i1 : In8 w5 (some ⟨w2.heap.size, 0, none⟩) (z1.take 64) := fun i hi => by
    rw [L1.out] at hi
    refine ⟨w2.heap.size, 0, rfl, ?_⟩
    rw [take_at _ _ hi, Nat.zero_add]
    exact (R3'.of_block (b5.block _ R3'.lt)).cell hi
  have HQ : Hid (eqB X Y = eqB (z0.take 64) (z1.take 64)) := by
    show eqB X Y = eqB (z0.take 64) (z1.take 64)
    unfold eqB
    exact decide_eq_decide.2 (der_inj L0.out L1.out dx dy)
  have bw : Below w.heap.size w w5 := b2.trans ((b3.trans ((b4.trans (b5.mono (by omega))).mono (by omega))).mono (by omega))
  clear R2 R3 R2' R3' R2'' b2 b3 b4 b5 ix dx dy s2 s3 s2' s4 s5
  go_wp2_with fail
  refine (bytesEq X Y _ _ X.length Y.length _ _ w5 rfl rfl (by omega) (by omega) ix' iy).mono ?_
  rintro e w' ⟨rfl, nq, rfl⟩
  have i0' : In8 (w5.drewN nq) (some ⟨w.heap.size, 0, none⟩) (z0.take 64) := i0
  have i1' : In8 (w5.drewN nq) (some ⟨w2.heap.size, 0, none⟩) (z1.take 64) := i1
  clear i0 i1 ix' iy
  go_wp2_with fail
  refine (bytesEq (z0.take 64) (z1.take 64) _ _ 64 64 _ _ (w5.drewN nq) L0.out L1.out (by omega) (by omega) i0' i1').mono ?_
  rintro e w' ⟨rfl, nq', rfl⟩
  clear i0' i1'
  go_wp2
  go_ret
  exact ⟨ret_bool (by rw [HQ.out]; simp), bw.trans ⟨rfl, rfl, rfl, Nat.le_refl _, fun _ _ => rfl⟩⟩

theorem walk (a0 : Option Addr) (len0 cap0 : Nat) (z0 : List Int) (a1 : Option Addr) (len1 cap1 : Nat) (z1 : List Int) (w : World) (w0 : IsRow .u8 w a0 len0 cap0 z0) (w1 : IsRow .u8 w a1 len1 cap1 z1) :
    Calls Try.prog 4 #[.slice a0 len0 cap0, .slice a1 len1 cap1] w fun e w' => e = .returned (.bool true) ∧ Below w.heap.size w w' := by
  by_cases h : len0 = 64 ∧ len1 = 64
  · obtain ⟨rfl, rfl⟩ := h
    exact walk_64 a0 cap0 z0 a1 cap1 z1 w w0 w1
  · exact walk_other a0 len0 cap0 a1 len1 cap1 w h

/-! ### THE ROW's STEP: WRITTEN OUT: LEAVE IT -/
set_option maxRecDepth 100000 in
theorem lifted (os : Os) (started : os.Started) (H : Type) (enc : TypeId × Value → H) :
    ReturnsInHanded {} Try.checked os 4 .any (Rows.fnAsn1SignatureInjectiveSpec.pre6 enc Try.prog Try.f4 Rows.fnAsn1SignatureInjectiveRow.domain false) (Rows.fnAsn1SignatureInjectiveSpec.post enc Try.prog Try.f4 false true false false) := by
  refine returnsInHanded_of_change (C := Try.checked) own started (by kernel_rfl) Try.func4
    (ChangeSpec.witness6 (enc := enc) (C := Try.checked) false ⟨#[], #[.slice none 0 0, .slice none 0 0], []⟩ 8 (by kernel_rfl) (by kernel_rfl) (by kernel_rfl) (by kernel_rfl)) ?_
  intro W base args ds gs before hval0 hW hcnd _
  have hval : ∀ (j : Nat) t v, Try.f4.params[j]? = some t → args[j]? = some v → Value.okWide Try.prog W .any base t v := hval0
  have hW' := hW
  obtain ⟨p, q, hA0, hV, rfl, hfz, hnd⟩ := hW
  have hA : DataW.TrodAll enc Try.prog W 0 (fun _ => true) true Try.f4.params.toList args.toList ds p := hA0
  rw [Try.params4] at hA hval
  obtain ⟨v0, vs0, d0, ds0, p0, q0, hargs, rfl, rfl, h0, r0⟩ := trodAll_cons hA
  obtain ⟨v1, vs1, d1, ds1, p1, q1, rfl, rfl, rfl, h1, r1⟩ := trodAll_cons r0
  obtain ⟨rfl, rfl, rfl⟩ := trodAll_nil r1
  obtain rfl : args = #[v0, v1] := by cases args; simp_all
  obtain ⟨rfl, rfl⟩ := trodVars_none hV
  obtain ⟨a0, len0, cap0, rfl⟩ := okWide_slice Try.underlying22 (hval 0 22 v0 rfl rfl)
  have k0 := h0
  have lt0 : ∀ x ∈ p0, x.block < W.heap.size := by obtain ⟨m, hm⟩ := k0; exact DataW.trod_lt m _ _ _ hm
  obtain ⟨z0, w0⟩ : ∃ zs, IsRow .u8 W a0 len0 cap0 zs := by
    obtain ⟨fuel, hf⟩ := h0
    rcases open_ints Try.underlying22 Try.underlying5 (by kernel_rfl) hf with ⟨hcs, _⟩ | ⟨x, l, c, zs, hcs, _, hl, hm, hz, _, hcell, hwz⟩
    · simp [Value.cells] at hcs
      obtain ⟨rfl, rfl, rfl⟩ := hcs
      exact ⟨[], .inl ⟨rfl, rfl, rfl, rfl⟩⟩
    · simp [Value.cells] at hcs
      obtain ⟨rfl, rfl, rfl⟩ := hcs
      exact ⟨zs, .inr ⟨_, rfl, hl, hm, by simpa using hz, hcell, hwz⟩⟩
  obtain ⟨a1, len1, cap1, rfl⟩ := okWide_slice Try.underlying22 (hval 1 22 v1 rfl rfl)
  have k1 := h1
  have lt1 : ∀ x ∈ p1, x.block < W.heap.size := by obtain ⟨m, hm⟩ := k1; exact DataW.trod_lt m _ _ _ hm
  obtain ⟨z1, w1⟩ : ∃ zs, IsRow .u8 W a1 len1 cap1 zs := by
    obtain ⟨fuel, hf⟩ := h1
    rcases open_ints Try.underlying22 Try.underlying5 (by kernel_rfl) hf with ⟨hcs, _⟩ | ⟨x, l, c, zs, hcs, _, hl, hm, hz, _, hcell, hwz⟩
    · simp [Value.cells] at hcs
      obtain ⟨rfl, rfl, rfl⟩ := hcs
      exact ⟨[], .inl ⟨rfl, rfl, rfl, rfl⟩⟩
    · simp [Value.cells] at hcs
      obtain ⟨rfl, rfl, rfl⟩ := hcs
      exact ⟨zs, .inr ⟨_, rfl, hl, hm, by simpa using hz, hcell, hwz⟩⟩
  clear hA0 hval0
  refine (walk a0 len0 cap0 z0 a1 len1 cap1 z1 W w0 w1).mono fun e W' ⟨he, bel⟩ => ?_
  subst he
  exact ⟨_, rfl, _, _, _, [], _, [], hW', trodAll_mk1 (shut_bool Try.underlying4 _), (trodAll_cons_mk (Below.trod laidOut (by kernel_rfl) (of_decide_eq_true (by kernel_rfl)) k0 bel lt0) (trodAll_cons_mk (Below.trod laidOut (by kernel_rfl) (of_decide_eq_true (by kernel_rfl)) k1 bel lt1) trodAll_mk0)), rfl, bel.frame _, fun h => by cases h⟩

theorem over : Rows.fnAsn1SignatureInjectiveRow.holds Try.pinned (OpenSpec.ofChange Rows.fnAsn1SignatureInjectiveSpec) :=
  OpenClaim.holds_of_wide 4 Try.f4 rfl rfl rfl rfl rfl rfl rfl ⟨rfl, rfl, rfl, rfl, rfl⟩ rfl rfl rfl rfl rfl (by kernel_rfl) Try.func4 (by kernel_rfl)
    (of_decide_eq_true (by kernel_rfl)) (by unfold Func.isWrapper; first | (rw [if_pos (by decide +kernel)]; kernel_rfl) | (rw [if_neg (by decide +kernel)]; exact ⟨rfl, rfl⟩))
    (fun os started H enc _ => lifted os started H enc)

/-- THE STATEMENT -/
theorem proved : Rows.FnAsn1SignatureInjectiveSaid := over
end Go.Proofs.Qxb6600187a.fnAsn1SignatureInjective
