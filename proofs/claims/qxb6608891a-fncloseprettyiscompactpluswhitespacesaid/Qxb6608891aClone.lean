/-
  The contracts of zzAClone (10) and zzABytesEq (14).
-/
import Derived.Test.Qxb6608891aRows
import Derived.Test.Qxb6608891aWriter
import Derived.WalkKit
import Derived.ProofKit
import Derived.Laws.CopyOwn
import Derived.Lib.SliceRun
import Derived.Deep.QuietTactic
import Derived.BigQuiet
namespace Go.Proofs.Qxb6608891a.Clone
open Go.RowKit Go.Proofs.Qxb6608891a.Mem Go.Proofs.Qxb6608891a.Writer

theorem clone_nil (n cap : Nat) (w : World) : Calls Try.prog 10 #[.slice none n cap] w fun e w' => e = .returned (.slice none 0 0) ∧ w' = w := by
  have hq := fun w' => Lib.run_eql_slice_nil (P := Try.prog) w' 24 5 none n cap 0 0 Try.underlying24
  go_enter Try.func10, Try.ntmps10
  go_wp2
  go_ret
  exact ⟨rfl, rfl⟩

/-- A slice's address and length, and the numbers that its elements read as. -/
def Reads (w : World) (p : Option Addr) (n : Nat) (zs : List Int) : Prop :=
  n ≤ zs.length ∧ (n = 0 ∨ ∃ b o, p = some ⟨b, o, none⟩ ∧ ∀ i, i < n → w.cell? ⟨b, o + i, none⟩ = some (.int .u8 (zs.getD i 0)))

def cellsOf (zs : List Int) (n : Nat) : List Value := (zs.take n).map (Value.int .u8)
theorem cellsOf_at (zs : List Int) (n j : Nat) (hz : n ≤ zs.length) (hj : j < n) : (cellsOf zs n)[j]? = some (.int .u8 (zs.getD j 0)) := by
  simp [cellsOf, List.getD, hj, show j < zs.length by omega]
theorem cellsOf_length (zs : List Int) (n : Nat) (hz : n ≤ zs.length) : (cellsOf zs n).length = n := by simp [cellsOf]; omega
theorem Reads.cells {w : World} {x : Addr} {n : Nat} {zs : List Int} (h : Reads w (some x) n zs) : ∀ j u, (cellsOf zs n)[j]? = some u → w.cell? (x.add j) = some u := by
  intro j u hu
  have hj : j < n := by
    have := (List.getElem?_eq_some_iff.1 hu).1
    rw [cellsOf_length zs n h.1] at this
    exact this
  rcases h.2 with h0 | ⟨b, o, hx, hc⟩
  · omega
  · cases hx
    rw [cellsOf_at zs n j h.1 hj] at hu
    rw [Addr.add_lit, hc j hj]
    exact hu
theorem Reads.below {B : Nat} {w w' : World} {p : Option Addr} {n : Nat} {zs : List Int} (h : Reads w p n zs) (hB : Below B w w') (hs : B = w.heap.size) : Reads w' p n zs := by
  refine ⟨h.1, ?_⟩
  rcases h.2 with h0 | ⟨b, o, hx, hc⟩
  · exact .inl h0
  · refine .inr ⟨b, o, hx, fun i hi => ?_⟩
    have hlt := World.block_lt_of_cell? w _ (hc i hi)
    rw [hB.cell (by rw [hs]; exact hlt)]
    exact hc i hi
theorem Reads.same {w w' : World} {p : Option Addr} {n : Nat} {zs : List Int} (h : Reads w p n zs) (hc : ∀ a, w'.cell? a = w.cell? a) : Reads w' p n zs := by
  refine ⟨h.1, ?_⟩
  rcases h.2 with h0 | ⟨b, o, hx, hx2⟩
  · exact .inl h0
  · exact .inr ⟨b, o, hx, fun i hi => by rw [hc]; exact hx2 i hi⟩

set_option maxHeartbeats 800000 in
theorem clone_some (x : Addr) (n cap : Nat) (zs : List Int) (w : World) (hr : Reads w (some x) n zs) (hn : n ≤ 1048576) :
    Calls Try.prog 10 #[.slice (some x) n cap] w fun e w' => e = .returned (.slice (some ⟨w.heap.size, 0, none⟩) n n) ∧
      w'.ownsRow w.heap.size 5 1 (.slice (some ⟨w.heap.size, 0, none⟩) n n) n (cellsOf zs n) ∧ Below w.heap.size w w' := by
  have hq := fun w' => Lib.run_eql_slice_nil (P := Try.prog) w' 24 5 (some x) n cap 0 0 Try.underlying24
  obtain ⟨i0, hi, hz0, hz1, hz2⟩ := info_parts Try.info5
  have hsz : (Try.prog.info? 5).map (·.size) = some 1 := by rw [hi]; simp [hz1]
  have hct := hr.cells
  have hl := cellsOf_length zs n hr.1
  have hone : ∀ u ∈ cellsOf zs n, u.oneCell' = true := ints_oneCell _ _
  clear hr
  go_enter Try.func10, Try.ntmps10
  go_wp2_with (at_make; refine wpList_make_full _ rfl (.tmp 7) (.tmp 7) 24 rfl w.heap.size 5 i0 (.int .u8 0) 1 Try.underlying24 hi hz0 hz1 .i64 .i64 _ _ n rfl rfl rfl rfl (by rw [hz2]; omega) (by unfold maxLen; omega) (Nat.le_refl _) ?_)
  intro w1 hown hg
  obtain ⟨cur, hcur, hcs⟩ : ∃ cur, w1.heap[w.heap.size]? = some (.cells cur 5 (0, 0)) ∧ cur.size = n := by
    rcases hown.2 with ⟨h1, _⟩ | ⟨g, cap', cur, h1, _, hgg, _, _, hs, _⟩
    · cases h1
    · cases h1
      exact ⟨cur, hgg, by omega⟩
  have hB1 : Below w.heap.size w w1 := (Below.refl _ _).grown hg (Nat.le_refl _) (fun k h => by cases h)
  have hct1 : ∀ j u, (cellsOf zs n)[j]? = some u → w1.cell? (x.add j) = some u := fun j u hu => by
    rw [hB1.cell (World.block_lt_of_cell? w _ (hct j u hu))]
    exact hct j u hu
  clear hown hg hct
  go_wp2_with (refine wpList_copy_own rfl (.tmp 9) (.tmp 10) 24 24 rfl 5 Try.underlying24 hsz w.heap.size 0 n n x n cap rfl rfl cur 5 hcur (cellsOf zs n) (by rw [hl]; simp) hct1 (by omega) hone ?_)
  go_ret
  refine ⟨rfl, ?_, below_setRow hB1 (Nat.le_refl _) _⟩
  refine ⟨by simpa using hl, .inr ⟨w.heap.size, n, _, rfl, Nat.le_refl _, setRow_heap w1 _ cur _ 5 _ hcur, Nat.le_refl _, by unfold maxLen; omega, ?_, ?_⟩⟩
  · simp [hl, hcs]
  · rw [Nat.mul_one]
    exact List.take_left' hl

/-- The copy of a slice: its bytes, owned by the call. -/
theorem clone_any (p : Option Addr) (n cap : Nat) (zs : List Int) (w : World) (hr : Reads w p n zs) (hn : n ≤ 1048576) (hnil : p = none → n = 0) :
    Calls Try.prog 10 #[.slice p n cap] w fun e w' => ∃ ao c, e = .returned (.slice ao n c) ∧ w'.ownsRow w.heap.size 5 1 (.slice ao n c) n (cellsOf zs n) ∧ Below w.heap.size w w' := by
  cases p with
  | none =>
    obtain rfl := hnil rfl
    refine (clone_nil 0 cap w).mono ?_
    rintro e w' ⟨rfl, rfl⟩
    exact ⟨none, 0, rfl, World.ownsRow_nil _ _ _ _, Below.refl _ _⟩
  | some x =>
    refine (clone_some x n cap zs w hr hn).mono ?_
    rintro e w' ⟨rfl, h1, h2⟩
    exact ⟨_, _, rfl, h1, h2⟩

theorem eq_zero (pa pb : Option Addr) (ca cb : Nat) (w : World) : Calls Try.prog 14 #[.slice pa 0 ca, .slice pb 0 cb] w fun e w' => e = .returned (.bool true) ∧ ∃ q, w' = w.drewN q := by
  go_enter Try.func14, Try.ntmps14
  go_wp2
  go_loopw [5] (fun i wr => i = .int .i64 0 ∧ wr = w) (fun _ _ => 0)
  case atStart => exact ⟨rfl, rfl⟩
  case round =>
    obtain ⟨rfl, rfl⟩ := hrel
    go_wp2
    go_ret
    exact ⟨rfl, 0, rfl⟩

set_option maxHeartbeats 800000 in
theorem eq_some (ba oa ca bb ob cb n : Nat) (zs : List Int) (w : World) (hn : n ≤ 1048576) (ha : ∀ i, i < n → w.cell? ⟨ba, oa + i, none⟩ = some (.int .u8 (zs.getD i 0))) (hb : ∀ i, i < n → w.cell? ⟨bb, ob + i, none⟩ = some (.int .u8 (zs.getD i 0))) :
    Calls Try.prog 14 #[.slice (some ⟨ba, oa, none⟩) n ca, .slice (some ⟨bb, ob, none⟩) n cb] w fun e w' => e = .returned (.bool true) ∧ ∃ q, w' = w.drewN q := by
  go_enter Try.func14, Try.ntmps14
  go_wp2
  go_loopw [5] (fun i wr => ∃ k q : Nat, k ≤ n ∧ i = .int .i64 k ∧ wr = w.drewN q) (fun i _ => n - (intOf i).toNat)
  case atStart => exact ⟨0, 0, Nat.zero_le _, rfl, rfl⟩
  case round =>
    obtain ⟨k, q, hk, rfl, rfl⟩ := hrel
    by_cases hlt : k < n
    · have hz : (k : Int) < n := by omega
      have hak := ha k hlt
      have hbk := hb k hlt
      clear ha hb
      go_wp2
      go_quiet (fail)
      go_wp2
      go_roundw
      case rel => exact ⟨k + 1, q + nq, by omega, by go_num, by simp [World.drewN]⟩
      case measure => simp [intOf]; omega
    · go_wp2
      go_ret
      exact ⟨rfl, q, rfl⟩

theorem eq_any (pa pb : Option Addr) (ca cb n : Nat) (zs : List Int) (w : World) (hn : n ≤ 1048576) (ha : Reads w pa n zs) (hb : Reads w pb n zs) :
    Calls Try.prog 14 #[.slice pa n ca, .slice pb n cb] w fun e w' => e = .returned (.bool true) ∧ ∃ q, w' = w.drewN q := by
  rcases ha.2 with rfl | ⟨ba, oa, rfl, hca⟩
  · exact eq_zero pa pb ca cb w
  · rcases hb.2 with rfl | ⟨bb, ob, rfl, hcb⟩
    · exact eq_zero _ _ ca cb w
    · exact eq_some ba oa ca bb ob cb n zs w hn hca hcb
end Go.Proofs.Qxb6608891a.Clone
