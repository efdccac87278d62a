import Derived.Test.YoeakwClone
import Derived.Deep.RegionHeld3
namespace Go.Proofs.Yoeakw
open Go.RowKit Go.Deep

/-- ZZstringIteratorKey, at a position that is one more than a number. -/
theorem key_at (p : Nat) (a : Option Addr) (n c j : Nat) (l : Int) (w : World) (h : IsIt w p a n c (j + 1) l) (h1 : j ≤ 900000) :
    Calls Eakg.prog 24 #[.pointer (some ⟨p, 0, none⟩)] w fun e w' => e = .returned (.int .i64 j) ∧ Below w.heap.size w w' := by
  refine (key_any p a n c (j + 1) l w h (by omega) (by omega)).mono ?_
  rintro e w' ⟨rfl, hb⟩
  exact ⟨by rw [show (j : Int) + 1 - 1 = j by omega], hb⟩

theorem add_zero (b j : Nat) : (⟨b, 0, none⟩ : Addr).add j = ⟨b, j, none⟩ := by
  unfold Addr.add; split <;> simp [*]

/-- ZZstringIteratorValue, in a world that has grown out of w: its own blocks apart nothing has turned. -/
theorem value_in (p b n c j : Nat) (l z : Int) (w w' : World) (h : IsIt w p (some ⟨b, 0, none⟩) n c (j + 1) l) (h1 : j ≤ 900000) (hn : j < n)
    (hs : w'.cell? ⟨b, j, none⟩ = some (.int .i32 z) ∧ Below w.heap.size w w') :
    Calls Eakg.prog 25 #[.pointer (some ⟨p, 0, none⟩)] w' fun e w'' => e = .returned (.int .i32 z) ∧ w''.cell? ⟨b, j, none⟩ = some (.int .i32 z) ∧ Below w.heap.size w w'' := by
  obtain ⟨hc, hb⟩ := hs
  refine (value_any p ⟨b, 0, none⟩ n c j l z w' (IsIt.below h hb) (by omega) hn (by rw [add_zero]; exact hc)).mono ?_
  rintro e w'' ⟨rfl, hb'⟩
  have hlt : b < w'.heap.size := World.block_lt_of_cell? w' ⟨b, j, none⟩ hc
  exact ⟨rfl, (hb'.cell (p := ⟨b, j, none⟩) hlt).trans hc, hb.trans (hb'.mono hb.size)⟩

set_option maxHeartbeats 800000 in
/-- restIs: the iterator stands at k (or it and k are both past the end): it yields the rest, and stays ended. -/
theorem rest_any (p : Nat) (a : Option Addr) (n c i k : Nat) (zs : List Int) (w : World) (h : IsIt w p a n c i n) (hr : Runes w a n zs) (hn : n ≤ 65536) (hi : i ≤ 400000) (hk : k ≤ 400000)
    (hik : i = k ∨ (n ≤ i ∧ n ≤ k)) :
    Calls Eakg.prog 13 #[.pointer (some ⟨p, 0, none⟩), .slice a n c, .int .i64 k] w fun e w' => e = .returned (.bool true) ∧ (∃ i' : Nat, n ≤ i' ∧ i' ≤ i + n + 2 ∧ IsIt w' p a n c i' n) ∧ Runes w' a n zs ∧ But p w w' := by
  have H : Hid (IsIt w p a n c i n) := h
  have R : Hid (Runes w a n zs) := hr
  clear h hr
  go_enter Eakg.func13, Eakg.ntmps13
  go_wp2_with fail
  go_loopw [7] (fun v wr => ∃ m j : Nat, v = .int .i64 m ∧ (j = m ∨ (n ≤ j ∧ n ≤ m)) ∧ i ≤ j ∧ j ≤ i + n ∧ k ≤ m ∧ (m ≤ n ∨ m = k) ∧ IsIt wr p a n c j n ∧ Runes wr a n zs ∧ But p w wr) (fun v _ => n - (intOf v).toNat)
  case atStart => exact ⟨k, i, rfl, hik, Nat.le_refl _, by omega, Nat.le_refl _, .inr rfl, H.out, R.out, But.refl _ _⟩
  case round =>
    clear H R
    obtain ⟨m, j, rfl, hjm, hij, hji, hkm, hmk, hit, hrn, hbt⟩ := hrel
    have H : Hid (IsIt wr p a n c j n) := hit
    have R : Hid (Runes wr a n zs) := hrn
    have B : Hid (But p w wr) := hbt
    clear hit hrn hbt
    by_cases hlt : j < n
    · have e : j = m := by omega
      subst e
      clear hjm
      go_wp2_with fail
      refine (next_any p a n c j n wr H.out (by omega) (by omega)).mono ?_
      rintro e w1 ⟨rfl, hi1, hb1, hs1⟩
      have H1 : Hid (IsIt w1 p a n c (j + 1) n) := hi1
      have R1 : Hid (Runes w1 a n zs) := Runes.but R.out H.out hb1
      have B1 : Hid (But p w w1) := B.out.trans hb1
      clear hi1 hb1 hs1 H R B
      go_wp2_with fail
      refine (key_at p a n c j n w1 H1.out (by omega)).mono ?_
      rintro e w2 ⟨rfl, hb2⟩
      have H2 : Hid (IsIt w2 p a n c (j + 1) n) := IsIt.below H1.out hb2
      have R2 : Hid (Runes w2 a n zs) := Runes.below R1.out hb2
      have B2 : Hid (But p w w2) := B1.out.trans (But.ofBelow hb2)
      clear hb2 H1 R1 B1
      obtain ⟨b, ha, hc⟩ := Runes.cell R2.out hlt
      subst ha
      have tok : Hid (w2.drew.cell? ⟨b, j, none⟩ = some (.int .i32 (zs.getD j 0)) ∧ Below w2.heap.size w2 w2.drew) := ⟨hc, (Below.refl _ _).drew⟩
      go_wp2_with fail
      go_region_held3 (fun w' => w'.cell? ⟨b, j, none⟩ = some (.int .i32 (zs.getD j 0)) ∧ Below w2.heap.size w2 w') (first | exact tok.out | exact ⟨by assumption, by assumption⟩ | assumption)
        (first
          | (go_at_call 25; refine (value_in p b n c j n (zs.getD j 0) w2 _ H2.out (by omega) hlt (by first | exact tok.out | assumption | exact ⟨by assumption, by assumption⟩)).mono ?_; rintro e w' ⟨rfl, hS⟩))
      have B3 : Hid (Below w2.heap.size w2 w') := hS.2
      clear hS tok hc
      go_wp2
      go_roundw
      case rel => exact ⟨j + 1, j + 1, by go_num, .inl rfl, by omega, by omega, by omega, .inl (by omega), IsIt.below H2.out B3.out, Runes.below R2.out B3.out, B2.out.trans (But.ofBelow B3.out)⟩
      case measure => simp [intOf]; omega
    · clear hik
      have hmn : n ≤ m := by omega
      go_wp2_with fail
      refine (next_any p a n c j n wr H.out (by omega) (by omega)).mono ?_
      rintro e w1 ⟨rfl, hi1, hb1, hs1⟩
      have H1 : Hid (IsIt w1 p a n c ((j + 1 : Nat) : Int) n) := hi1
      have R1 : Hid (Runes w1 a n zs) := Runes.but R.out H.out hb1
      have B1 : Hid (But p w w1) := B.out.trans hb1
      clear hi1 hb1 hs1 H R B
      go_wp2_with fail
      refine (next_any p a n c ((j + 1 : Nat) : Int) n w1 H1.out (by omega) (by omega)).mono ?_
      rintro e w2 ⟨rfl, hi2, hb2, hs2⟩
      have H2 : Hid (IsIt w2 p a n c ((j + 2 : Nat) : Int) n) := hi2
      have R2 : Hid (Runes w2 a n zs) := Runes.but R1.out H1.out hb2
      have B2 : Hid (But p w w2) := B1.out.trans hb2
      clear hi2 hb2 hs2 H1 R1 B1
      by_cases hkn : k ≤ n
      · have e : m = n := by omega
        subst e
        go_wp2
        go_ret
        exact ⟨rfl, ⟨j + 2, by omega, by omega, H2.out⟩, R2.out, B2.out⟩
      · have e : m = k := by omega
        subst e
        go_wp2
        go_ret
        exact ⟨rfl, ⟨j + 2, by omega, by omega, H2.out⟩, R2.out, B2.out⟩
end Go.Proofs.Yoeakw
