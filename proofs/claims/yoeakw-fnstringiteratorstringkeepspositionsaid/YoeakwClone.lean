import Derived.Test.YoeakwIter
import Derived.Deep.OwnRows
namespace Go.Proofs.Yoeakw
open Go.RowKit Go.Deep

theorem info21 : (Eakg.prog.info? 21).map (fun i => (i.zero, i.size, i.bytes)) = some (some (.int .i32 0), 1, 4) := by kernel_rfl
theorem eql22 (w : World) (a : Option Addr) (n c : Nat) : (binOp .eql 22 (.slice a n c) (.slice none 0 0)).run Eakg.prog w = .ok (.bool a.isNone) w :=
  Lib.run_eql_slice_nil w 22 21 a n c 0 0 Eakg.underlying22

theorem add_block (x : Addr) (m : Nat) : (x.add m).block = x.block := by
  unfold Addr.add; split <;> rfl

/-- cloneRunes of a nil slice. -/
theorem clone_nil (w : World) : Calls Eakg.prog 9 #[.slice none 0 0] w fun e w' => e = .returned (.slice none 0 0) ∧ w' = w := by
  have hnil := eql22
  go_enter Eakg.func9, Eakg.ntmps9
  go_wp2
  go_ret
  exact ⟨rfl, rfl⟩

/-- The row that cloneRunes makes, when m of its cells are written. -/
def Row (w : World) (b : Nat) (zs : List Int) (len m : Nat) : Prop :=
  ∃ cs : Array Value, w.heap[b]? = some (.cells cs 21) ∧ cs.size = len ∧ ∀ j, j < m → cs[j]? = some (.int .i32 (zs.getD j 0))

theorem row_made (w : World) (zs : List Int) (len : Nat) : Row (w.alloc (.cells (madeCells #[.int .i32 0] len) 21)) w.heap.size zs len 0 := by
  refine ⟨madeCells #[.int .i32 0] len, ?_, size_madeCells _ _, fun j h => by omega⟩
  show (w.heap.push _)[w.heap.size]? = _
  simp

theorem row_cell {w : World} {b : Nat} {zs : List Int} {len m : Nat} (h : Row w b zs len m) (hm : m < len) : ∃ v, w.cell? ⟨b, m, none⟩ = some v ∧ w.frozen? ⟨b, m, none⟩ = false := by
  obtain ⟨cs, hc, hs, _⟩ := h
  refine ⟨cs[m]'(by omega), ?_⟩
  simp [World.cell?, World.frozen?, hc]

theorem row_set {w : World} {b : Nat} {zs : List Int} {len m : Nat} (h : Row w b zs len m) (hm : m < len) : Row (w.setCell ⟨b, m, none⟩ (.int .i32 (zs.getD m 0))) b zs len (m + 1) := by
  obtain ⟨cs, hc, hs, hr⟩ := h
  refine ⟨cs.setIfInBounds m (.int .i32 (zs.getD m 0)), ?_, by simpa using hs, fun j hj => ?_⟩
  · simp [World.setCell, Array.getElem?_modify, hc]
  · by_cases e : m = j
    · subst e
      simp [hs, hm]
    · rw [Array.getElem?_setIfInBounds, if_neg e]
      exact hr j (by omega)

/-- cloneRunes of a slice that is not nil: a new block, the last one, with the same runes. -/
theorem clone_some (x : Addr) (len cap : Nat) (zs : List Int) (w : World) (hl : len ≤ 65536) (hb : 0 < len → x.block < w.heap.size) (hc : ∀ i, i < len → w.cell? (x.add i) = some (.int .i32 (zs.getD i 0))) :
    Calls Eakg.prog 9 #[.slice (some x) len cap] w fun e w' => e = .returned (.slice (some ⟨w.heap.size, 0, none⟩) len len) ∧ Row w' w.heap.size zs len len ∧ Below w.heap.size w w' ∧ w'.heap.size = w.heap.size + 1 := by
  have hnil := eql22
  have hmk := run_make_row' (P := Eakg.prog) 22 21 (.int .i32 0) 4 Eakg.underlying22 info21 rfl .i64 .i64 len (by omega) (by omega)
  go_enter Eakg.func9, Eakg.ntmps9
  go_wp2
  go_loopw [4] (fun j wr => ∃ m : Nat, m ≤ len ∧ j = .int .i64 m ∧ Row wr w.heap.size zs len m ∧ Below w.heap.size w wr ∧ wr.heap.size = w.heap.size + 1) (fun j _ => len - (intOf j).toNat)
  case atStart => exact ⟨0, Nat.zero_le _, rfl, row_made _ _ _, (Below.refl _ _).alloc (Nat.le_refl _) _, by simp⟩
  case round =>
    obtain ⟨m, hm, rfl, hr, hbl, hs⟩ := hrel
    clear hmk hnil
    by_cases hlt : m < len
    · have hsrc : wr.cell? (x.add m) = some (.int .i32 (zs.getD m 0)) := (hbl.cell (p := x.add m) (by rw [add_block]; exact hb (by omega))).trans (hc m hlt)
      obtain ⟨v0, hd, hf⟩ := row_cell hr hlt
      have R : Hid _ := row_set hr hlt
      have HB : Hid _ := hbl
      have HS : Hid _ := hs
      clear hr hbl hs hc hb
      go_wp2
      go_roundw
      case rel => exact ⟨m + 1, by omega, by go_num, R.out, HB.out.setCell (Nat.le_refl _) _, by simpa [World.setCell] using HS.out⟩
      case measure => simp [intOf]; omega
    · have e : m = len := by omega
      subst e
      go_wp2
      go_ret
      exact ⟨rfl, hr, hbl, hs⟩

/-- The slice holds the first n numbers of zs, in a row of runes of its own. -/
def Runes (w : World) (a : Option Addr) (n : Nat) (zs : List Int) : Prop := n = 0 ∨ ∃ b, a = some ⟨b, 0, none⟩ ∧ Row w b zs n n

theorem Row.of {w w' : World} {b : Nat} {zs : List Int} {n m : Nat} (h : Row w b zs n m) (e : w'.heap[b]? = w.heap[b]?) : Row w' b zs n m := by
  obtain ⟨cs, hc, r⟩ := h
  exact ⟨cs, e.trans hc, r⟩
theorem Row.lt {w : World} {b : Nat} {zs : List Int} {n m : Nat} (h : Row w b zs n m) : b < w.heap.size := by
  obtain ⟨cs, hc, r⟩ := h
  obtain ⟨h, _⟩ := Array.getElem?_eq_some_iff.1 hc
  exact h
theorem Runes.below {w w' : World} {a : Option Addr} {n : Nat} {zs : List Int} (h : Runes w a n zs) (hb : Below w.heap.size w w') : Runes w' a n zs := by
  rcases h with h | ⟨b, ha, hr⟩
  · exact .inl h
  · exact .inr ⟨b, ha, hr.of (hb.block _ hr.lt)⟩
theorem Runes.but {w w' : World} {a a' : Option Addr} {n n' c' p : Nat} {i l : Int} {zs : List Int} (h : Runes w a n zs) (hi : IsIt w p a' n' c' i l) (hb : But p w w') : Runes w' a n zs := by
  rcases h with h | ⟨b, ha, hr⟩
  · exact .inl h
  · refine .inr ⟨b, ha, hr.of (hb.block _ hr.lt ?_)⟩
    rintro rfl
    obtain ⟨cs, hc, _⟩ := hr
    unfold IsIt at hi
    rw [hi] at hc
    simp at hc
/-- An element's cell, in the walk's own forms. -/
theorem Runes.cell {w : World} {a : Option Addr} {n : Nat} {zs : List Int} (h : Runes w a n zs) {j : Nat} (hj : j < n) : ∃ b, a = some ⟨b, 0, none⟩ ∧ w.cell? ⟨b, j, none⟩ = some (.int .i32 (zs.getD j 0)) := by
  rcases h with h | ⟨b, ha, cs, hc, hs, hr⟩
  · omega
  · refine ⟨b, ha, ?_⟩
    simp [World.cell?, hc, hr j hj]

/-- cloneRunes at whatever slice that came in. -/
theorem clone_any (a : Option Addr) (len cap : Nat) (zs : List Int) (w : World) (hl : len ≤ 65536)
    (h : (a = none ∧ len = 0 ∧ cap = 0 ∧ zs = []) ∨ ∃ x, a = some x ∧ len ≤ cap ∧ cap ≤ maxLen ∧ zs.length = cap ∧ (∀ i, i < zs.length → w.cell? (x.add i) = some (.int .i32 (zs.getD i 0))) ∧ ∀ n ∈ zs, (Lit.int .i32 n).wf = true) :
    Calls Eakg.prog 9 #[.slice a len cap] w fun e w' => ∃ a' c', e = .returned (.slice a' len c') ∧ Runes w' a' len zs ∧ Below w.heap.size w w' := by
  rcases h with ⟨rfl, rfl, rfl, rfl⟩ | ⟨x, rfl, h1, h2, h3, h4, _⟩
  · refine (clone_nil w).mono ?_
    rintro e w' ⟨rfl, rfl⟩
    exact ⟨_, _, rfl, .inl rfl, Below.refl _ _⟩
  · refine (clone_some x len cap zs w hl (fun h0 => ?_) (fun i hi => h4 i (by omega))).mono ?_
    · have hc := h4 0 (by omega)
      by_cases hx : x.block < w.heap.size
      · exact hx
      · exfalso
        have : w.heap[x.block]? = none := Array.getElem?_eq_none (by omega)
        simp [World.cell?, add_block, this] at hc
    · rintro e w' ⟨rfl, hr, hb, _⟩
      exact ⟨_, _, rfl, .inr ⟨_, rfl, hr⟩, hb⟩
end Go.Proofs.Yoeakw
