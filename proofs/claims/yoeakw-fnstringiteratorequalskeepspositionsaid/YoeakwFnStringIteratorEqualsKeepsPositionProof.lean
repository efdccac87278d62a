/-
  PROOF OF 'Rows.FnStringIteratorEqualsKeepsPositionSaid'. The frame ('lifted', 'over', 'proved') is the shell that was given with the seed; the walk is ours: every callee is taken by its contract (YoeakwIter, YoeakwClone, YoeakwRest).
-/
import Derived.Test.YoeakwRows
import Derived.WalkKit
import Derived.ProofKit
import Derived.OpenShut
import Derived.ShutString
import Derived.ChangeOld
import Derived.Below
import Derived.Test.YoeakwRest
namespace Go.Proofs.Yoeakw.fnStringIteratorEqualsKeepsPosition
open Go.ChangeShapes Go.WideShapes Go.ChangeAt Go.RowKit
open Go.ChangeMaps (open_string shut_string)
open Go.Deep
set_option linter.unusedVariables false

theorem own : ownKnob Eakg.prog.godebug = none := by kernel_rfl
theorem laidOut : laidOutB Eakg.prog = true := by kernel_rfl

/-- WHAT THE WALK IS TOLD OF A SLICE OF INTEGERS THAT CAME IN: it is nil; or it leads to a row of 'cap' cells, the numbers 'zs' (the first 'len' are its elements, the rest its spare room), each fitting its kind. -/
def IsRow (k : IntKind) (w : World) (a : Option Addr) (len cap : Nat) (zs : List Int) : Prop :=
  (a = none ∧ len = 0 ∧ cap = 0 ∧ zs = []) ∨
  ∃ x, a = some x ∧ len ≤ cap ∧ cap ≤ maxLen ∧ zs.length = cap ∧ (∀ i, i < zs.length → w.cell? (x.add i) = some (.int k (zs.getD i 0))) ∧ ∀ n ∈ zs, (Lit.int k n).wf = true

/-! ### STEP 1: THE WALK -/
set_option maxHeartbeats 800000 in
/-- The walk at the inputs at which the function comes to its own text. -/
theorem main (a0 : Option Addr) (len0 cap0 : Nat) (z0 : List Int) (k : Nat) (w : World) (hl : len0 ≤ 65536) (hk : k ≤ 65536)
    (w0 : (a0 = none ∧ len0 = 0 ∧ cap0 = 0 ∧ z0 = []) ∨ ∃ x, a0 = some x ∧ len0 ≤ cap0 ∧ cap0 ≤ maxLen ∧ z0.length = cap0 ∧ (∀ i, i < z0.length → w.cell? (x.add i) = some (.int .i32 (z0.getD i 0))) ∧ ∀ n ∈ z0, (Lit.int .i32 n).wf = true) :
    Calls Eakg.prog 5 #[.slice a0 len0 cap0, .int .i64 k] w fun e w' => e = .returned (.bool true) ∧ Below w.heap.size w w' := by
  have H0 : Hid _ := w0
  clear w0
  have d1 : decide ((1048576 : Int) < (len0 : Int)) = false := by simp; omega
  have d2 : decide ((65536 : Int) < (len0 : Int)) = false := by simp; omega
  have d3 : decide ((k : Int) < 0) = false := by simp
  have d4 : decide ((65536 : Int) < (k : Int)) = false := by simp; omega
  go_enter Eakg.func5, Eakg.ntmps5
  go_wp2_with (first | (go_at_call 16; go_in) | fail)
  refine (clone_any a0 len0 cap0 z0 w hl H0.out).mono ?_
  rintro e w1 ⟨a, c, rfl, hr1, hb1⟩
  have R1 : Hid (Runes w1 a len0 z0) := hr1
  have B1 : Hid (Below w.heap.size w w1) := hb1
  clear hr1 hb1 H0
  go_wp2_with fail
  refine (new_any a len0 c w1).mono ?_
  rintro e w2 ⟨rfl, hi2, hb2, hs2⟩
  have hp := IsIt.lt hi2
  have hle := B1.out.size
  have R2 : Hid (Runes w2 a len0 z0) := Runes.below R1.out hb2
  have B2 : Hid (Below w.heap.size w w2) := B1.out.trans (hb2.mono hle)
  have I2 : Hid (IsIt w2 w1.heap.size a len0 c 0 len0) := hi2
  clear R1 B1 hi2 hb2 hs2
  generalize w1.heap.size = p at *
  go_wp2_with fail
  refine (advance_any p a len0 c k len0 w2 I2.out hk).mono ?_
  rintro e w3 ⟨rfl, hi3, hb3, hs3⟩
  have hsz : p < w3.heap.size := IsIt.lt hi3
  have R3 : Hid (Runes w3 a len0 z0) := Runes.but R2.out I2.out hb3
  have B3 : Hid (Below w.heap.size w w3) := B2.out.trans (hb3.below hle B2.out.size)
  have I3 : Hid (IsIt w3 p a len0 c k len0) := hi3
  clear R2 B2 hi3 hb3 hs3 I2 hp
  go_wp2_with fail
  refine (copy_any p a len0 c k len0 w3 I3.out).mono ?_
  rintro e w4 ⟨rfl, hi4, hb4, hs4⟩
  have R4 : Hid (Runes w4 a len0 z0) := Runes.below R3.out hb4
  have B4 : Hid (Below w.heap.size w w4) := B3.out.trans (hb4.mono B3.out.size)
  have I4 : Hid (IsIt w4 p a len0 c k len0) := IsIt.below I3.out hb4
  have J4 : Hid (IsIt w4 w3.heap.size a len0 c k len0) := hi4
  clear R3 B3 I3 hi4 hb4 hs4
  generalize w3.heap.size = q at *
  go_wp2_with fail
  refine (equals_any _ _ w4).mono ?_
  rintro e w5 ⟨rfl, rfl⟩
  go_wp2_with fail
  refine (equals_any _ _ w5).mono ?_
  rintro e w6 ⟨rfl, rfl⟩
  go_wp2_with fail
  refine (equals_any _ _ w6).mono ?_
  rintro e w7 ⟨rfl, rfl⟩
  go_wp2_with fail
  refine (rest_any q a len0 c k k z0 w7 J4.out R4.out hl (by omega) (by omega) (.inl rfl)).mono ?_
  rintro e w8 ⟨rfl, _, hr8, hb8⟩
  have R8 : Hid (Runes w8 a len0 z0) := hr8
  have B8 : Hid (Below w.heap.size w w8) := B4.out.trans (hb8.below (by omega) B4.out.size)
  have I8 : Hid (IsIt w8 p a len0 c k len0) := IsIt.but I4.out hb8 (by omega)
  clear hr8 hb8 R4 B4 I4 J4
  go_wp2_with fail
  refine (rest_any p a len0 c k k z0 w8 I8.out R8.out hl (by omega) (by omega) (.inl rfl)).mono ?_
  rintro e w9 ⟨rfl, _, _, hb9⟩
  have B9 : Hid (Below w.heap.size w w9) := B8.out.trans (hb9.below hle B8.out.size)
  clear hb9 B8 I8 R8
  go_wp2
  go_ret
  exact ⟨rfl, B9.out⟩

/-- The walk at whatever input. -/
theorem walk (a0 : Option Addr) (len0 cap0 : Nat) (z0 : List Int) (a1 : Int) (w : World) (w0 : IsRow .i32 w a0 len0 cap0 z0) (w1 : (Lit.int .i64 a1).wf = true) :
    Calls Eakg.prog 5 #[.slice a0 len0 cap0, .int .i64 a1] w fun e w' => e = .returned (.bool true) ∧ Below w.heap.size w w' := by
  by_cases h1 : len0 ≤ 1048576
  · by_cases h2 : len0 ≤ 65536
    · by_cases h3 : a1 < 0
      · clear w0 w1
        go_enter Eakg.func5, Eakg.ntmps5
        go_wp2
        go_ret
        exact ⟨rfl, Below.refl _ _⟩
      · by_cases h4 : a1 ≤ 65536
        · obtain ⟨k, rfl⟩ := Int.eq_ofNat_of_zero_le (by omega : 0 ≤ a1)
          exact main a0 len0 cap0 z0 k w h2 (by omega) w0
        · clear w0 w1
          go_enter Eakg.func5, Eakg.ntmps5
          go_wp2
          go_ret
          exact ⟨rfl, Below.refl _ _⟩
    · clear w0 w1
      go_enter Eakg.func5, Eakg.ntmps5
      go_wp2
      go_ret
      exact ⟨rfl, Below.refl _ _⟩
  · clear w0 w1
    go_enter Eakg.func5, Eakg.ntmps5
    go_wp2
    go_ret
    exact ⟨rfl, Below.refl _ _⟩

/-! ### THE ROW's STEP: WRITTEN OUT: LEAVE IT -/
set_option maxRecDepth 100000 in
theorem lifted (os : Os) (started : os.Started) (H : Type) (enc : TypeId × Value → H) :
    ReturnsInHanded {} Eakg.checked os 5 .any (Rows.fnStringIteratorEqualsKeepsPositionSpec.pre6 enc Eakg.prog Eakg.f5 Rows.fnStringIteratorEqualsKeepsPositionRow.domain false) (Rows.fnStringIteratorEqualsKeepsPositionSpec.post enc Eakg.prog Eakg.f5 false true false false) := by
  refine returnsInHanded_of_change (C := Eakg.checked) own started (by kernel_rfl) Eakg.func5
    (ChangeSpec.witness6 (enc := enc) (C := Eakg.checked) false ⟨#[], #[.slice none 0 0, .int .i64 0], []⟩ 8 (by kernel_rfl) (by kernel_rfl) (by kernel_rfl) (by kernel_rfl)) ?_
  intro W base args ds gs before hval0 hW hcnd _
  have hval : ∀ (j : Nat) t v, Eakg.f5.params[j]? = some t → args[j]? = some v → Value.okWide Eakg.prog W .any base t v := hval0
  have hW' := hW
  obtain ⟨p, q, hA0, hV, rfl, hfz, hnd⟩ := hW
  have hA : DataW.TrodAll enc Eakg.prog W 0 (fun _ => true) true Eakg.f5.params.toList args.toList ds p := hA0
  rw [Eakg.params5] at hA hval
  obtain ⟨v0, vs0, d0, ds0, p0, q0, hargs, rfl, rfl, h0, r0⟩ := trodAll_cons hA
  obtain ⟨v1, vs1, d1, ds1, p1, q1, rfl, rfl, rfl, h1, r1⟩ := trodAll_cons r0
  obtain ⟨rfl, rfl, rfl⟩ := trodAll_nil r1
  obtain rfl : args = #[v0, v1] := by cases args; simp_all
  obtain ⟨rfl, rfl⟩ := trodVars_none hV
  obtain ⟨a0, len0, cap0, rfl⟩ := okWide_slice Eakg.underlying22 (hval 0 22 v0 rfl rfl)
  have k0 := h0
  have lt0 : ∀ x ∈ p0, x.block < W.heap.size := by obtain ⟨m, hm⟩ := k0; exact DataW.trod_lt m _ _ _ hm
  obtain ⟨z0, w0⟩ : ∃ zs, IsRow .i32 W a0 len0 cap0 zs := by
    obtain ⟨fuel, hf⟩ := h0
    rcases open_ints Eakg.underlying22 Eakg.underlying21 (by kernel_rfl) hf with ⟨hcs, _⟩ | ⟨x, l, c, zs, hcs, _, hl, hm, hz, _, hcell, hwz⟩
    · simp [Value.cells] at hcs
      obtain ⟨rfl, rfl, rfl⟩ := hcs
      exact ⟨[], .inl ⟨rfl, rfl, rfl, rfl⟩⟩
    · simp [Value.cells] at hcs
      obtain ⟨rfl, rfl, rfl⟩ := hcs
      exact ⟨zs, .inr ⟨_, rfl, hl, hm, by simpa using hz, hcell, hwz⟩⟩
  obtain ⟨a1, rfl, rfl, rfl, w1⟩ := open_int Eakg.underlying3 (hval 1 3 v1 rfl rfl) h1
  clear hA0 hval0
  refine (walk a0 len0 cap0 z0 a1 W w0 w1).mono fun e W' ⟨he, bel⟩ => ?_
  subst he
  exact ⟨_, rfl, _, _, _, [], _, [], hW', trodAll_mk1 (shut_bool Eakg.underlying4 _), (trodAll_cons_mk (Below.trod laidOut (by kernel_rfl) (of_decide_eq_true (by kernel_rfl)) k0 bel lt0) (trodAll_cons_mk (shut_int Eakg.underlying3 w1) trodAll_mk0)), rfl, bel.frame _, fun h => by cases h⟩

theorem over : Rows.fnStringIteratorEqualsKeepsPositionRow.holds Eakg.pinned (OpenSpec.ofChange Rows.fnStringIteratorEqualsKeepsPositionSpec) :=
  OpenClaim.holds_of_wide 5 Eakg.f5 rfl rfl rfl rfl rfl rfl rfl ⟨rfl, rfl, rfl, rfl, rfl⟩ rfl rfl rfl rfl rfl (by kernel_rfl) Eakg.func5 (by kernel_rfl)
    (of_decide_eq_true (by kernel_rfl)) (by unfold Func.isWrapper; first | (rw [if_pos (by decide +kernel)]; kernel_rfl) | (rw [if_neg (by decide +kernel)]; exact ⟨rfl, rfl⟩))
    (fun os started H enc _ => lifted os started H enc)

/-- ████ THE STATEMENT ████ -/
theorem proved : Rows.FnStringIteratorEqualsKeepsPositionSaid := over
#print axioms proved
end Go.Proofs.Yoeakw.fnStringIteratorEqualsKeepsPosition
