import Derived.Test.YoeakwRows
import Derived.WalkKit
import Derived.WalkSpells
import Derived.WalkLawsBesides
import Derived.ProofKit
import Derived.Below
import Derived.RegionTactic
import Derived.Deep.QuietTactic
import Derived.BigQuiet
namespace Go.Proofs.Yoeakw
open Go.RowKit

/-- Block p of the world is a StringIterator: its slice, its position, its length. -/
def IsIt (w : World) (p : Nat) (a : Option Addr) (n c : Nat) (i l : Int) : Prop :=
  w.heap[p]? = some (.cells #[.slice a n c, .int .i64 i, .int .i64 l] 39)

theorem IsIt.cells {w : World} {p : Nat} {a : Option Addr} {n c : Nat} {i l : Int} (h : IsIt w p a n c i l) :
    w.cell? ⟨p, 0, none⟩ = some (.slice a n c) ∧ w.cell? ⟨p, 1, none⟩ = some (.int .i64 i) ∧ w.cell? ⟨p, 2, none⟩ = some (.int .i64 l) ∧
    w.frozen? ⟨p, 0, none⟩ = false ∧ w.frozen? ⟨p, 1, none⟩ = false ∧ w.frozen? ⟨p, 2, none⟩ = false := by
  unfold IsIt at h
  simp [World.cell?, World.frozen?, h]

/-- Only block p has turned, and new blocks have come. -/
structure But (p : Nat) (w w' : World) : Prop where
  os : w'.os = w.os
  tape : w'.tape = w.tape
  output : w'.output = w.output
  size : w.heap.size ≤ w'.heap.size
  block : ∀ k, k < w.heap.size → k ≠ p → w'.heap[k]? = w.heap[k]?

theorem But.refl (p : Nat) (w : World) : But p w w := ⟨rfl, rfl, rfl, Nat.le_refl _, fun _ _ _ => rfl⟩
theorem But.trans {p : Nat} {a b c : World} (h : But p a b) (k : But p b c) : But p a c :=
  ⟨k.os.trans h.os, k.tape.trans h.tape, k.output.trans h.output, Nat.le_trans h.size k.size, fun i hi hn => (k.block i (Nat.lt_of_lt_of_le hi h.size) hn).trans (h.block i hi hn)⟩
theorem But.drew {p : Nat} {a w : World} (h : But p a w) : But p a w.drew := ⟨h.os, h.tape, h.output, h.size, h.block⟩
theorem But.setCell {a w : World} {q : Addr} (h : But q.block a w) (u : Value) : But q.block a (w.setCell q u) :=
  h.trans ⟨rfl, rfl, rfl, by simp [World.setCell], fun k _ hn => Below.heap_setCell _ _ _ _ hn⟩
theorem But.ofBelow {p : Nat} {w w' : World} (h : Below w.heap.size w w') : But p w w' := ⟨h.os, h.tape, h.output, h.size, fun k hk _ => h.block k hk⟩
theorem But.below {p B : Nat} {w w' : World} (h : But p w w') (hB : B ≤ p) (hs : B ≤ w.heap.size) : Below B w w' :=
  ⟨h.os, h.tape, h.output, h.size, fun k hk => h.block k (by omega) (by omega)⟩

theorem IsIt.lt {w : World} {p : Nat} {a : Option Addr} {n c : Nat} {i l : Int} (h : IsIt w p a n c i l) : p < w.heap.size := by
  unfold IsIt at h
  obtain ⟨h, _⟩ := Array.getElem?_eq_some_iff.1 h
  exact h
theorem IsIt.step {w : World} {p : Nat} {a : Option Addr} {n c : Nat} {i l : Int} (h : IsIt w p a n c i l) (j : Int) : IsIt (w.setCell ⟨p, 1, none⟩ (.int .i64 j)) p a n c j l := by
  unfold IsIt at h ⊢
  simp [World.setCell, Array.getElem?_modify, h]
theorem IsIt.drew {w : World} {p : Nat} {a : Option Addr} {n c : Nat} {i l : Int} (h : IsIt w p a n c i l) : IsIt w.drew p a n c i l := h
theorem IsIt.below {w w' : World} {p : Nat} {a : Option Addr} {n c : Nat} {i l : Int} (h : IsIt w p a n c i l) (hb : Below w.heap.size w w') : IsIt w' p a n c i l := by
  have hlt := h.lt
  unfold IsIt at h ⊢
  rw [hb.block _ hlt]; exact h
theorem IsIt.but {w w' : World} {p q : Nat} {a : Option Addr} {n c : Nat} {i l : Int} (h : IsIt w p a n c i l) (hb : But q w w') (hq : p ≠ q) : IsIt w' p a n c i l := by
  have hlt := h.lt
  unfold IsIt at h ⊢
  rw [hb.block _ hlt hq]; exact h

/-- Next: one step on; it answers whether the position is still within the length. -/
theorem next_any (p : Nat) (a : Option Addr) (n c : Nat) (i l : Int) (w : World) (h : IsIt w p a n c i l) (h0 : 0 ≤ i) (h1 : i ≤ 1000000) :
    Calls Eakg.prog 23 #[.pointer (some ⟨p, 0, none⟩)] w fun e w' => e = .returned (.bool (decide (i + 1 ≤ l))) ∧ IsIt w' p a n c (i + 1) l ∧ But p w w' ∧ w'.heap.size = w.heap.size := by
  have fin : IsIt (w.setCell ⟨p, 1, none⟩ (.int .i64 (i + 1))).drew p a n c (i + 1) l ∧ But p w (w.setCell ⟨p, 1, none⟩ (.int .i64 (i + 1))).drew ∧ (w.setCell ⟨p, 1, none⟩ (.int .i64 (i + 1))).drew.heap.size = w.heap.size :=
    ⟨(h.step _).drew, (But.setCell (q := ⟨p, 1, none⟩) (But.refl _ _) _).drew, by simp [World.setCell, World.drew]⟩
  obtain ⟨c0, c1, c2, f0, f1, f2⟩ := h.cells
  obtain ⟨d0, d1, d2, _, _, _⟩ := (h.step (i + 1)).cells
  have Fin : Hid _ := fin
  clear fin h
  go_enter Eakg.func23, Eakg.ntmps23
  go_wp2
  go_region
  go_wp2
  all_goals (go_ret; exact ⟨rfl, Fin.out⟩)

/-! ### the type assertions on the road: the value's own type is the one that is asked for -/
theorem ta25 (a : Option Addr) (w : World) : (Instr.typeAssert (.iface 25 (.pointer a)) 43 25 false).run Eakg.prog w = .ok (.pointer a) w := by kernel_rfl
theorem ta48 (a : Option Addr) (w : World) : (Instr.typeAssert (.iface 48 (.pointer a)) 43 48 false).run Eakg.prog w = .ok (.pointer a) w := by kernel_rfl
theorem ta51 (a : Option Addr) (w : World) : (Instr.typeAssert (.iface 51 (.pointer a)) 43 51 false).run Eakg.prog w = .ok (.pointer a) w := by kernel_rfl

theorem isIt_alloc (w : World) (a : Option Addr) (n c : Nat) (i l : Int) : IsIt (w.alloc (.cells #[.slice a n c, .int .i64 i, .int .i64 l] 39)) w.heap.size a n c i l := by
  show (w.heap.push _)[w.heap.size]? = _
  simp

/-- ZZnewStringIterator: a new block, the last one: position 0, length len(v). -/
theorem new_any (a : Option Addr) (n c : Nat) (w : World) :
    Calls Eakg.prog 10 #[.slice a n c] w fun e w' => e = .returned (.pointer (some ⟨w.heap.size, 0, none⟩)) ∧ IsIt w' w.heap.size a n c 0 n ∧ Below w.heap.size w w' ∧ w'.heap.size = w.heap.size + 1 := by
  go_enter Eakg.func10, Eakg.ntmps10
  go_wp2
  go_ret
  exact ⟨rfl, isIt_alloc _ _ _ _ _ _, (Below.refl _ _).alloc (Nat.le_refl _) _, by simp⟩

/-- ZZstringIteratorFields: the three fields. -/
theorem fields_any (p : Nat) (a : Option Addr) (n c : Nat) (i l : Int) (w : World) (h : IsIt w p a n c i l) :
    Calls Eakg.prog 20 #[.pointer (some ⟨p, 0, none⟩)] w fun e w' => e = .returned (.tuple #[.slice a n c, .int .i64 i, .int .i64 l]) ∧ Below w.heap.size w w' ∧ w'.heap.size = w.heap.size := by
  obtain ⟨c0, c1, c2, f0, f1, f2⟩ := h.cells
  go_enter Eakg.func20, Eakg.ntmps20
  go_wp2
  go_region
  go_wp2
  go_ret3
  exact ⟨rfl, (Below.refl _ _).drew, rfl⟩

/-- ZZstringIteratorCopy: a new block, the last one, with the same three fields. -/
theorem copy_any (p : Nat) (a : Option Addr) (n c : Nat) (i l : Int) (w : World) (h : IsIt w p a n c i l) :
    Calls Eakg.prog 17 #[.pointer (some ⟨p, 0, none⟩)] w fun e w' => e = .returned (.pointer (some ⟨w.heap.size, 0, none⟩)) ∧ IsIt w' w.heap.size a n c i l ∧ Below w.heap.size w w' ∧ w'.heap.size = w.heap.size + 1 := by
  obtain ⟨c0, c1, c2, f0, f1, f2⟩ := h.cells
  have ta := ta25
  go_enter Eakg.func17, Eakg.ntmps17
  go_wp2
  go_region
  go_wp2
  go_ret
  exact ⟨rfl, (isIt_alloc _ _ _ _ _ _).drew, ((Below.refl _ _).alloc (Nat.le_refl _) _).drew, by simp [World.drew]⟩

/-- ZZstringIteratorKey: the position less one. -/
theorem key_any (p : Nat) (a : Option Addr) (n c : Nat) (i l : Int) (w : World) (h : IsIt w p a n c i l) (h0 : 1 ≤ i) (h1 : i ≤ 1000000) :
    Calls Eakg.prog 24 #[.pointer (some ⟨p, 0, none⟩)] w fun e w' => e = .returned (.int .i64 (i - 1)) ∧ Below w.heap.size w w' := by
  obtain ⟨c0, c1, c2, f0, f1, f2⟩ := h.cells
  have ta := ta48
  go_enter Eakg.func24, Eakg.ntmps24
  go_wp2
  go_ret
  exact ⟨rfl, (Below.refl _ _).alloc (Nat.le_refl _) _⟩

/-- ZZstringIteratorValue: the rune at the position less one. -/
theorem value_any (p : Nat) (x : Addr) (n c j : Nat) (l z : Int) (w : World) (h : IsIt w p (some x) n c (j + 1) l) (h1 : j ≤ 1000000) (hn : j < n)
    (hc : w.cell? (x.add j) = some (.int .i32 z)) :
    Calls Eakg.prog 25 #[.pointer (some ⟨p, 0, none⟩)] w fun e w' => e = .returned (.int .i32 z) ∧ Below w.heap.size w w' := by
  obtain ⟨c0, c1, c2, f0, f1, f2⟩ := h.cells
  have ta := ta51
  go_enter Eakg.func25, Eakg.ntmps25
  go_wp2
  go_region
  go_wp2
  go_ret
  exact ⟨rfl, ((Below.refl _ _).alloc (Nat.le_refl _) _).drew⟩

/-- String. -/
theorem string_any (v : Value) (w : World) : Calls Eakg.prog 12 #[v] w fun e w' => e = .returned (.string ⟨#[60, 115, 116, 114, 105, 110, 103, 45, 105, 116, 101, 114, 97, 116, 111, 114, 62]⟩) ∧ w' = w := by
  go_enter Eakg.func12, Eakg.ntmps12
  go_wp2
  go_ret
  exact ⟨rfl, rfl⟩

/-- IsFalsy. -/
theorem falsy_any (v : Value) (w : World) : Calls Eakg.prog 15 #[v] w fun e w' => e = .returned (.bool true) ∧ w' = w := by
  go_enter Eakg.func15, Eakg.ntmps15
  go_wp2
  go_ret
  exact ⟨rfl, rfl⟩

/-- ZZstringIteratorEquals. -/
theorem equals_any (a b : Option Addr) (w : World) : Calls Eakg.prog 18 #[.pointer a, .pointer b] w fun e w' => e = .returned (.bool false) ∧ w' = w := by
  go_enter Eakg.func18, Eakg.ntmps18
  go_wp2
  go_ret
  exact ⟨rfl, rfl⟩

/-- maxInt. -/
theorem max_any (a b : Int) (w : World) : Calls Eakg.prog 22 #[.int .i64 a, .int .i64 b] w fun e w' => e = .returned (.int .i64 (if b < a then a else b)) ∧ w' = w := by
  by_cases h : b < a
  · rw [if_pos h]
    go_enter Eakg.func22, Eakg.ntmps22
    go_wp2
    go_ret
    exact ⟨rfl, rfl⟩
  · rw [if_neg h]
    go_enter Eakg.func22, Eakg.ntmps22
    go_wp2
    go_ret
    exact ⟨rfl, rfl⟩

/-- advance: k steps of Next. -/
theorem advance_any (p : Nat) (a : Option Addr) (n c k : Nat) (l : Int) (w : World) (h : IsIt w p a n c 0 l) (hk : k ≤ 65536) :
    Calls Eakg.prog 11 #[.pointer (some ⟨p, 0, none⟩), .int .i64 k] w fun e w' => e = .returned (.tuple #[]) ∧ IsIt w' p a n c k l ∧ But p w w' ∧ w'.heap.size = w.heap.size := by
  go_enter Eakg.func11, Eakg.ntmps11
  go_wp2
  go_loopw [4] (fun j wr => ∃ m : Nat, m ≤ k ∧ j = .int .i64 m ∧ IsIt wr p a n c m l ∧ But p w wr ∧ wr.heap.size = w.heap.size) (fun j _ => k - (intOf j).toNat)
  case atStart => exact ⟨0, Nat.zero_le _, rfl, h, But.refl _ _, rfl⟩
  case round =>
    obtain ⟨m, hm, rfl, hi, hb, hs⟩ := hrel
    have Hi : Hid _ := hi
    have Hb : Hid _ := hb
    have Hs : Hid _ := hs
    clear hs hb hi h
    by_cases hlt : m < k
    · go_wp2_with (go_at_call 23; refine (next_any p a n c m l _ Hi.out (by omega) (by omega)).mono ?_; rintro e w' ⟨rfl, hi', hb', hs'⟩)
      go_roundw
      case rel => exact ⟨m + 1, by omega, by go_num, by exact_mod_cast hi', Hb.out.trans hb', hs'.trans Hs.out⟩
      case measure => simp [intOf]; omega
    · have e : m = k := by omega
      subst e
      go_wp2
      go_end0
      exact ⟨rfl, Hi.out, Hb.out, Hs.out⟩
end Go.Proofs.Yoeakw
