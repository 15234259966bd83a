/-
  Plain facts on a run of blanks in a list of bytes, and on a slice's cells. No program is loaded here.
-/
import Derived.WalkKit
namespace Go.Proofs.Qxb6614163a.Run
open Go.RowKit

/-- Is there a tab among the places pos .. r-1? -/
def tabB (zs : List Int) (pos r : Nat) : Bool := (List.range' pos (r - pos)).any fun i => zs.getD i 0 == 9
theorem tab_iff (zs : List Int) (pos r : Nat) : tabB zs pos r = true ↔ ∃ i, pos ≤ i ∧ i < r ∧ zs.getD i 0 = 9 := by
  unfold tabB
  rw [List.any_eq_true]
  constructor
  · rintro ⟨i, hi, h⟩
    rw [List.mem_range'_1] at hi
    exact ⟨i, by omega, by omega, beq_iff_eq.1 h⟩
  · rintro ⟨i, h1, h2, h⟩
    exact ⟨i, List.mem_range'_1.2 (by omega), beq_iff_eq.2 h⟩
theorem tab_refl (zs : List Int) (pos : Nat) : tabB zs pos pos = false := by
  rw [Bool.eq_false_iff]
  intro h
  obtain ⟨i, h1, h2, _⟩ := (tab_iff zs pos pos).1 h
  omega
theorem tab_cut (zs : List Int) {pos k r : Nat} (h1 : pos ≤ k) (h2 : k ≤ r) : tabB zs pos r = (tabB zs pos k || tabB zs k r) := by
  rw [Bool.eq_iff_iff, Bool.or_eq_true, tab_iff, tab_iff, tab_iff]
  constructor
  · rintro ⟨i, a, b, c⟩
    by_cases h : i < k
    · exact .inl ⟨i, a, h, c⟩
    · exact .inr ⟨i, by omega, b, c⟩
  · rintro (⟨i, a, b, c⟩ | ⟨i, a, b, c⟩)
    · exact ⟨i, a, by omega, c⟩
    · exact ⟨i, by omega, b, c⟩
theorem tab_yes (zs : List Int) {pos i : Nat} (h : pos ≤ i) (hz : zs.getD i 0 = 9) : tabB zs pos (i + 1) = true :=
  (tab_iff zs pos (i + 1)).2 ⟨i, h, by omega, hz⟩
theorem tab_no (zs : List Int) {pos i : Nat} (h : pos ≤ i) (hz : zs.getD i 0 ≠ 9) : tabB zs pos (i + 1) = tabB zs pos i := by
  have e : tabB zs i (i + 1) = false := by
    rw [Bool.eq_false_iff]
    intro q
    obtain ⟨j, h1, h2, h3⟩ := (tab_iff zs i (i + 1)).1 q
    obtain rfl : j = i := by omega
    exact hz h3
  rw [tab_cut zs h (by omega : i ≤ i + 1), e, Bool.or_false]

/-- All of pos .. r-1 are blanks. -/
def Blank (zs : List Int) (pos r : Nat) : Prop := ∀ i, pos ≤ i → i < r → zs.getD i 0 = 32 ∨ zs.getD i 0 = 9
theorem Blank.refl (zs : List Int) (pos : Nat) : Blank zs pos pos := fun i h1 h2 => by omega
theorem Blank.succ {zs : List Int} {pos i : Nat} (h : Blank zs pos i) (hz : zs.getD i 0 = 32 ∨ zs.getD i 0 = 9) : Blank zs pos (i + 1) := fun j h1 h2 => by
  by_cases e : j = i
  · subst e; exact hz
  · exact h j h1 (by omega)

/-- From pos on, of the first n bytes, the run of blanks ends at r. -/
structure RunEnds (zs : List Int) (n pos r : Nat) : Prop where
  lo : pos ≤ r
  hi : r ≤ n
  all : Blank zs pos r
  stop : r < n → zs.getD r 0 ≠ 32 ∧ zs.getD r 0 ≠ 9

theorem RunEnds.unique {zs : List Int} {n pos r q : Nat} (h : RunEnds zs n pos r) (k : RunEnds zs n pos q) : r = q := by
  rcases Nat.lt_trichotomy r q with l | l | l
  · have a := k.all r h.lo l
    have b := h.stop (by have := k.hi; omega)
    rcases a with a | a
    · exact absurd a b.1
    · exact absurd a b.2
  · exact l
  · have a := h.all q k.lo l
    have b := k.stop (by have := h.hi; omega)
    rcases a with a | a
    · exact absurd a b.1
    · exact absurd a b.2
/-- A run that ends ahead of the cut ends there in the whole. -/
theorem RunEnds.ahead {zs : List Int} {n k pos r : Nat} (h : RunEnds zs k pos r) (hk : k ≤ n) (hr : r < k) : RunEnds zs n pos r :=
  ⟨h.lo, by omega, h.all, fun _ => h.stop hr⟩
/-- A run that reaches the cut goes on behind it. -/
theorem RunEnds.on {zs : List Int} {n k pos q : Nat} (h : RunEnds zs k pos k) (g : RunEnds zs n k q) : RunEnds zs n pos q :=
  ⟨by have := h.lo; have := g.lo; omega, g.hi, fun i h1 h2 => by
    by_cases e : i < k
    · exact h.all i h1 e
    · exact g.all i (by omega) h2, g.stop⟩

/-- A slice's address and length, and the numbers that its elements read as. -/
def Reads (w : World) (p : Option Addr) (n : Nat) (zs : List Int) : Prop :=
  n ≤ zs.length ∧ (n = 0 ∨ ∃ b o, p = some ⟨b, o, none⟩ ∧ ∀ i, i < n → w.cell? ⟨b, o + i, none⟩ = some (.int .u8 (zs.getD i 0)))
def cellsOf (zs : List Int) (n : Nat) : List Value := (zs.take n).map (Value.int .u8)
theorem cellsOf_at (zs : List Int) (n j : Nat) (hz : n ≤ zs.length) (hj : j < n) : (cellsOf zs n)[j]? = some (.int .u8 (zs.getD j 0)) := by
  simp [cellsOf, List.getD, hj, show j < zs.length by omega]
theorem cellsOf_length (zs : List Int) (n : Nat) (hz : n ≤ zs.length) : (cellsOf zs n).length = n := by simp [cellsOf]; omega
theorem Reads.cells {w : World} {x : Addr} {n : Nat} {zs : List Int} (h : Reads w (some x) n zs) : ∀ j u, (cellsOf zs n)[j]? = some u → w.cell? (x.add j) = some u := by
  intro j u hu
  have hj : j < n := by
    have := (List.getElem?_eq_some_iff.1 hu).1
    rw [cellsOf_length zs n h.1] at this
    exact this
  rcases h.2 with h0 | ⟨b, o, hx, hc⟩
  · omega
  · cases hx
    rw [cellsOf_at zs n j h.1 hj] at hu
    rw [Addr.add_lit, hc j hj]
    exact hu
theorem Reads.below {B : Nat} {w w' : World} {p : Option Addr} {n : Nat} {zs : List Int} (h : Reads w p n zs) (hB : Below B w w') (hs : B = w.heap.size) : Reads w' p n zs := by
  refine ⟨h.1, ?_⟩
  rcases h.2 with h0 | ⟨b, o, hx, hc⟩
  · exact .inl h0
  · refine .inr ⟨b, o, hx, fun i hi => ?_⟩
    have hlt := World.block_lt_of_cell? w _ (hc i hi)
    rw [hB.cell (by rw [hs]; exact hlt)]
    exact hc i hi
theorem Reads.less {w : World} {p : Option Addr} {n k : Nat} {zs : List Int} (h : Reads w p n zs) (hk : k ≤ n) : Reads w p k zs := by
  refine ⟨Nat.le_trans hk h.1, ?_⟩
  rcases h.2 with h0 | ⟨b, o, hx, hc⟩
  · exact .inl (by omega)
  · exact .inr ⟨b, o, hx, fun i hi => hc i (by omega)⟩
end Go.Proofs.Qxb6614163a.Run
