/-
  The contracts of the text writer: newLine (21), close (20) and their exported twins.
-/
import Derived.Test.Qxb6608891aRows
import Derived.Test.Qxb6608891aMem
import Derived.WalkKit
import Derived.ProofKit
namespace Go.Proofs.Qxb6608891a.Writer
open Go.RowKit Go.Proofs.Qxb6608891a.Mem

theorem Try.info5 : (Try.prog.info? 5).map (fun i => (i.zero, i.size, i.bytes)) = some (some (.int .u8 0), 1, 1) := by kernel_rfl

/-- What a new line adds at depth 'k'. -/
def nl (k : Nat) : List Value := .int .u8 10 :: List.replicate (4 * k) (.int .u8 32)
theorem nl_zero : nl 0 = [.int .u8 10] := rfl
theorem nl_succ (k : Nat) (s : ByteArray) (hs : Lib.strCells s = List.replicate 4 (.int .u8 32)) : nl k ++ Lib.strCells s = nl (k + 1) := by
  rw [hs]
  simp only [nl, List.cons_append, ← List.replicate_append_replicate, Nat.mul_add, Nat.mul_one]

/-- What a writer's call leaves: the new state, and what else it turned. -/
def Left (w w' : World) (b : Nat) (ao : Option Addr) (cap n : Nat) (p : Bool) (d : Int) (f : Bool) (m : Nat) (ys : List Value) : Prop :=
  ∃ ao' cap', St w' b ao' cap' p d f m ys ∧ Wrote w w' b (Value.slice ao n cap).ownBlock ∧ Moved w (.slice ao n cap) (.slice ao' m cap')

theorem left_one {w w1 : World} {b : Nat} {ao : Option Addr} {cap n : Nat} {p : Bool} {d : Int} {f : Bool} {xs : List Value} (h : St w b ao cap p d f n xs) {ao1 : Option Addr} {cap1 m : Nat} {ys : List Value}
    (hg : w.grownBy w1 (Value.slice ao n cap).ownBlock) (hm : Moved w (.slice ao n cap) (.slice ao1 m cap1)) (ho : w1.ownsRow 0 5 1 (.slice ao1 m cap1) m ys) :
    Left w (w1.setCell ⟨b, 0, none⟩ (.slice ao1 m cap1)) b ao cap n p d f m ys :=
  ⟨ao1, cap1, St.put (h.blk' hg) ho, (Wrote.ofGrown b hg).trans (v1 := .slice ao n cap) (Wrote.setCell b 0 _ _) (Moved.refl _ _), hm⟩
theorem left_trans {w w0 w1 : World} {b : Nat} {ao : Option Addr} {cap n : Nat} {ao1 : Option Addr} {cap1 n1 : Nat} {p : Bool} {d : Int} {f : Bool} {m : Nat} {ys : List Value}
    (h2 : Wrote w w0 b (Value.slice ao n cap).ownBlock) (h3 : Moved w (.slice ao n cap) (.slice ao1 n1 cap1)) (k : Left w0 w1 b ao1 cap1 n1 p d f m ys) : Left w w1 b ao cap n p d f m ys := by
  obtain ⟨ao2, cap2, k1, k2, k3⟩ := k
  exact ⟨ao2, cap2, k1, h2.trans k2 h3, h3.trans k3 h2.size⟩
theorem left_alloc {w : World} {b : Nat} {ao : Option Addr} {cap n : Nat} {p : Bool} {d : Int} {f : Bool} {xs : List Value} (h : St w b ao cap p d f n xs) (o : Obj) : Left w (w.alloc o) b ao cap n p d f n xs :=
  ⟨ao, cap, h.alloc o, Wrote.alloc b o _, Moved.refl _ _⟩
theorem left_alloc_one {w w1 : World} {b : Nat} {ao : Option Addr} {cap n : Nat} {p : Bool} {d : Int} {f : Bool} {xs : List Value} (h : St w b ao cap p d f n xs) {o : Obj} {ao1 : Option Addr} {cap1 m : Nat} {ys : List Value}
    (hg : (w.alloc o).grownBy w1 (Value.slice ao n cap).ownBlock) (hm : Moved (w.alloc o) (.slice ao n cap) (.slice ao1 m cap1)) (ho : w1.ownsRow 0 5 1 (.slice ao1 m cap1) m ys) :
    Left w (w1.setCell ⟨b, 0, none⟩ (.slice ao1 m cap1)) b ao cap n p d f m ys := by
  obtain ⟨ao2, cap2, k1, k2, k3⟩ := left_one (h.alloc o) hg hm ho
  exact ⟨ao2, cap2, k1, (Wrote.alloc b o _).trans k2 (Moved.refl _ _), (Moved.refl _ _).trans k3 (by simp)⟩

theorem left_set3 {w w1 : World} {b : Nat} {ao : Option Addr} {cap n : Nat} {p : Bool} {d : Int} {f f' : Bool} {m : Nat} {ys : List Value} (h : Left w w1 b ao cap n p d f m ys) :
    Left w (w1.setCell ⟨b, 3, none⟩ (.bool f')) b ao cap n p d f' m ys := by
  obtain ⟨ao1, cap1, h1, h2, h3⟩ := h
  exact ⟨ao1, cap1, h1.set3 f', h2.trans (Wrote.setCell b 3 _ _) h3, h3⟩

theorem newLine_no (b : Nat) (ao : Option Addr) (cap : Nat) (d : Int) (f : Bool) (n : Nat) (xs : List Value) (w : World) (h : St w b ao cap false d f n xs) :
    Calls Try.prog 21 #[.pointer (some ⟨b, 0, none⟩)] w fun e w' => e = .returned (.tuple #[]) ∧ w' = w := by
  have c1 := h.c1
  go_enter Try.func21, Try.ntmps21
  go_wp2
  go_end0
  exact ⟨rfl, rfl⟩

set_option maxHeartbeats 800000 in
theorem newLine_yes (b : Nat) (ao : Option Addr) (cap : Nat) (k : Nat) (f : Bool) (n : Nat) (xs : List Value) (w : World) (h : St w b ao cap true k f n xs) (hk : k ≤ 65536) (hn : n ≤ 4194304) :
    Calls Try.prog 21 #[.pointer (some ⟨b, 0, none⟩)] w fun e w' => e = .returned (.tuple #[]) ∧ Left w w' b ao cap n true k f (n + 1 + 4 * k) (xs ++ nl k) := by
  obtain ⟨i0, hi, hz0, hz1, hz2⟩ := info_parts Try.info5
  have c0 := h.c0
  have c1 := h.c1
  have c2 := h.c2
  have hlt := h.lt
  have hkz : (k : Int) ≤ 65536 := by omega
  go_enter Try.func21, Try.ntmps21
  go_wp2_with (at_builtin; refine wpList_append_one _ rfl (.tmp 10) (.tmp 11) 24 rfl 5 i0 Try.underlying24 hi hz0 hz1 hz2 _ n xs rfl (h.own.alloc _) ⟨w.heap.size, 0, none⟩ 1 (.int .u8 10) rfl (by simp) rfl (by omega) ?_)
  intro v1 w1 hown1 hg1 hm1
  obtain ⟨ao1, cap1, rfl⟩ := owns_shape hown1
  have B1 := (h.alloc (.cells #[.int .u8 10] 5)).blk' hg1
  have L1 := left_alloc_one h hg1 hm1 hown1
  have d2 : w1.cell? ⟨b, 2, none⟩ = some (.int .i64 k) := by rw [cell_of_row w1 b 2 _ 35 (0, 0) B1]; rfl
  have d0 : w1.cell? ⟨b, 0, none⟩ = some (.slice ao n cap) := by rw [cell_of_row w1 b 0 _ 35 (0, 0) B1]; rfl
  have f1 : w1.frozen? ⟨b, 0, none⟩ = false := Lib.frozen_of_heap B1 0
  clear hown1 hg1 hm1 B1
  go_wp2_with fail
  go_loopw [19] (fun i wr => ∃ j : Nat, j ≤ k ∧ i = .int .i64 j ∧ Left w wr b ao cap n true k f (n + 1 + 4 * j) (xs ++ nl j)) (fun i _ => k - (intOf i).toNat)
  case atStart => exact ⟨0, Nat.zero_le _, rfl, L1⟩
  case round =>
    clear d2 d0 f1 L1 c0 c1 c2
    obtain ⟨j, hj, rfl, aj, cj, hS, hW, hM⟩ := hrel
    have s0 := hS.c0
    have f0 := hS.fz 0
    by_cases hjk : j < k
    · have hjz : (j : Int) < k := by omega
      go_wp2_with (at_builtin; refine wpList_append_str _ rfl (.tmp 25) _ 24 9 rfl 5 i0 Try.underlying24 Try.underlying9 hi hz0 hz1 hz2 _ (n + 1 + 4 * j) (xs ++ nl j) rfl hS.own ⟨#[32, 32, 32, 32]⟩ rfl (by decide) (by show n + 1 + 4 * j + 4 ≤ _; omega) ?_)
      intro v2 w2 hown2 hg2 hm2
      obtain ⟨ao2, cap2, rfl⟩ := owns_shape hown2
      have B2 := hS.blk' hg2
      have L2 := left_trans hW hM (left_one hS hg2 hm2 hown2)
      have d0 : w2.cell? ⟨b, 0, none⟩ = some (.slice aj (n + 1 + 4 * j) cj) := by rw [cell_of_row w2 b 0 _ 35 (0, 0) B2]; rfl
      have f1 : w2.frozen? ⟨b, 0, none⟩ = false := Lib.frozen_of_heap B2 0
      rw [nl_succ j _ rfl] at L2
      clear hown2 hg2 hm2 B2 hS hW hM
      go_wp2
      go_roundw
      case rel => exact ⟨j + 1, by omega, by go_num, L2⟩
      case measure => simp [intOf]; omega
    · obtain rfl : j = k := by omega
      go_wp2
      go_end0
      exact ⟨rfl, aj, cj, hS, hW, hM⟩

theorem close_no (b : Nat) (ao : Option Addr) (cap : Nat) (k : Nat) (f : Bool) (n : Nat) (xs : List Value) (w : World) (h : St w b ao cap false (k + 1 : Nat) f n xs) (hk : k ≤ 65535) (hn : n ≤ 2097152) :
    Calls Try.prog 20 #[.pointer (some ⟨b, 0, none⟩)] w fun e w' => e = .returned (.tuple #[]) ∧ Left w w' b ao cap n false k false (n + 1) (xs ++ [.int .u8 125]) := by
  obtain ⟨i0, hi, hz0, hz1, hz2⟩ := info_parts Try.info5
  have c2 := h.c2
  have f2 := h.fz 2
  have hlt := h.lt
  have hkz : (k : Int) ≤ 65535 := by omega
  go_enter Try.func20, Try.ntmps20
  go_wp2_with fail
  refine (newLine_no b ao cap k f n xs _ (h.set2 k)).mono ?_
  rintro e wx ⟨rfl, rfl⟩
  have hX := h.set2 k
  have hWx : Wrote w (w.setCell ⟨b, 2, none⟩ (.int .i64 k)) b (Value.slice ao n cap).ownBlock := Wrote.setCell b 2 _ _
  have hMx : Moved w (.slice ao n cap) (.slice ao n cap) := Moved.refl _ _
  generalize w.setCell ⟨b, 2, none⟩ (.int .i64 k) = wy at *
  have c0 := hX.c0
  have hlx := hX.lt
  go_wp2_with (at_builtin; refine wpList_append_one _ rfl (.tmp 15) (.tmp 16) 24 rfl 5 i0 Try.underlying24 hi hz0 hz1 hz2 _ n xs rfl (hX.own.alloc _) ⟨wy.heap.size, 0, none⟩ 1 (.int .u8 125) rfl (by simp) rfl (by omega) ?_)
  intro v1 w1 hown1 hg1 hm1
  obtain ⟨ao1, cap1, rfl⟩ := owns_shape hown1
  have B1 := (hX.alloc (.cells #[.int .u8 125] 5)).blk' hg1
  have L1 := left_trans hWx hMx (left_alloc_one hX hg1 hm1 hown1)
  have d0 : w1.cell? ⟨b, 0, none⟩ = some (.slice ao n cap) := by rw [cell_of_row w1 b 0 _ 35 (0, 0) B1]; rfl
  have d3 : w1.cell? ⟨b, 3, none⟩ = some (.bool f) := by rw [cell_of_row w1 b 3 _ 35 (0, 0) B1]; rfl
  have f1 : ∀ o, w1.frozen? ⟨b, o, none⟩ = false := Lib.frozen_of_heap B1
  clear hown1 hg1 hm1 B1
  go_wp2
  go_end0
  exact ⟨rfl, left_set3 L1⟩

set_option maxHeartbeats 800000 in
theorem close_yes (b : Nat) (ao : Option Addr) (cap : Nat) (k : Nat) (f : Bool) (n : Nat) (xs : List Value) (w : World) (h : St w b ao cap true (k + 1 : Nat) f n xs) (hk : k ≤ 65535) (hn : n ≤ 2097152) :
    Calls Try.prog 20 #[.pointer (some ⟨b, 0, none⟩)] w fun e w' => e = .returned (.tuple #[]) ∧ Left w w' b ao cap n true k false (n + 1 + 4 * k + 1) (xs ++ (nl k ++ [.int .u8 125])) := by
  obtain ⟨i0, hi, hz0, hz1, hz2⟩ := info_parts Try.info5
  have c2 := h.c2
  have f2 := h.fz 2
  have hlt := h.lt
  have hkz : (k : Int) ≤ 65535 := by omega
  go_enter Try.func20, Try.ntmps20
  go_wp2_with fail
  refine (newLine_yes b ao cap k f n xs _ (h.set2 k) (by omega) (by omega)).mono ?_
  rintro e wy ⟨rfl, aox, capx, hX, hW0, hM0⟩
  have hWx : Wrote w wy b (Value.slice ao n cap).ownBlock := (Wrote.setCell b 2 _ _).trans hW0 (Moved.refl _ _)
  have hMx : Moved w (.slice ao n cap) (.slice aox (n + 1 + 4 * k) capx) := (Moved.refl _ _).trans hM0 (by simp)
  clear hW0 hM0 c2 f2 h
  have c0 := hX.c0
  have hlx := hX.lt
  go_wp2_with (at_builtin; refine wpList_append_one _ rfl (.tmp 15) (.tmp 16) 24 rfl 5 i0 Try.underlying24 hi hz0 hz1 hz2 _ (n + 1 + 4 * k) (xs ++ nl k) rfl (hX.own.alloc _) ⟨wy.heap.size, 0, none⟩ 1 (.int .u8 125) rfl (by simp) rfl (by omega) ?_)
  intro v1 w1 hown1 hg1 hm1
  obtain ⟨ao1, cap1, rfl⟩ := owns_shape hown1
  have B1 := (hX.alloc (.cells #[.int .u8 125] 5)).blk' hg1
  have L1 := left_trans hWx hMx (left_alloc_one hX hg1 hm1 hown1)
  have d0 : w1.cell? ⟨b, 0, none⟩ = some (.slice aox (n + 1 + 4 * k) capx) := by rw [cell_of_row w1 b 0 _ 35 (0, 0) B1]; rfl
  have d3 : w1.cell? ⟨b, 3, none⟩ = some (.bool f) := by rw [cell_of_row w1 b 3 _ 35 (0, 0) B1]; rfl
  have f1 : ∀ o, w1.frozen? ⟨b, o, none⟩ = false := Lib.frozen_of_heap B1
  clear hown1 hg1 hm1 B1
  go_wp2
  go_end0
  exact ⟨rfl, left_set3 L1⟩

theorem zzClose_no (b : Nat) (ao : Option Addr) (cap : Nat) (k : Nat) (f : Bool) (n : Nat) (xs : List Value) (w : World) (h : St w b ao cap false (k + 1 : Nat) f n xs) (hk : k ≤ 65535) (hn : n ≤ 2097152) :
    Calls Try.prog 12 #[.pointer (some ⟨b, 0, none⟩)] w fun e w' => e = .returned (.tuple #[]) ∧ Left w w' b ao cap n false k false (n + 1) (xs ++ [.int .u8 125]) := by
  go_enter Try.func12, Try.ntmps12
  go_wp2_with fail
  refine (close_no b ao cap k f n xs _ h hk hn).mono ?_
  rintro e w1 ⟨rfl, hL⟩
  go_wp2
  go_end0
  exact ⟨rfl, hL⟩
theorem zzClose_yes (b : Nat) (ao : Option Addr) (cap : Nat) (k : Nat) (f : Bool) (n : Nat) (xs : List Value) (w : World) (h : St w b ao cap true (k + 1 : Nat) f n xs) (hk : k ≤ 65535) (hn : n ≤ 2097152) :
    Calls Try.prog 12 #[.pointer (some ⟨b, 0, none⟩)] w fun e w' => e = .returned (.tuple #[]) ∧ Left w w' b ao cap n true k false (n + 1 + 4 * k + 1) (xs ++ (nl k ++ [.int .u8 125])) := by
  go_enter Try.func12, Try.ntmps12
  go_wp2_with fail
  refine (close_yes b ao cap k f n xs _ h hk hn).mono ?_
  rintro e w1 ⟨rfl, hL⟩
  go_wp2
  go_end0
  exact ⟨rfl, hL⟩
theorem zzNew (ao : Option Addr) (n cap : Nat) (p : Bool) (d : Int) (f : Bool) (w : World) :
    Calls Try.prog 11 #[.slice ao n cap, .bool p, .int .i64 d, .bool f] w fun e w' => e = .returned (.pointer (some ⟨w.heap.size, 0, none⟩)) ∧ w.alloc (.cells #[.slice ao n cap, .bool p, .int .i64 d, .bool f] 35) = w' := by
  go_enter Try.func11, Try.ntmps11
  go_wp2
  go_ret
  exact ⟨rfl, rfl⟩
theorem zzBytes (b : Nat) (ao : Option Addr) (cap : Nat) (p : Bool) (d : Int) (f : Bool) (n : Nat) (xs : List Value) (w : World) (h : St w b ao cap p d f n xs) :
    Calls Try.prog 13 #[.pointer (some ⟨b, 0, none⟩)] w fun e w' => e = .returned (.slice ao n cap) ∧ w' = w := by
  have c0 := h.c0
  go_enter Try.func13, Try.ntmps13
  go_wp2
  go_ret
  exact ⟨rfl, rfl⟩
theorem zzDepth (b : Nat) (ao : Option Addr) (cap : Nat) (p : Bool) (d : Int) (f : Bool) (n : Nat) (xs : List Value) (w : World) (h : St w b ao cap p d f n xs) :
    Calls Try.prog 15 #[.pointer (some ⟨b, 0, none⟩)] w fun e w' => e = .returned (.int .i64 d) ∧ w' = w := by
  have c0 := h.c2
  go_enter Try.func15, Try.ntmps15
  go_wp2
  go_ret
  exact ⟨rfl, rfl⟩
theorem zzFirst (b : Nat) (ao : Option Addr) (cap : Nat) (p : Bool) (d : Int) (f : Bool) (n : Nat) (xs : List Value) (w : World) (h : St w b ao cap p d f n xs) :
    Calls Try.prog 16 #[.pointer (some ⟨b, 0, none⟩)] w fun e w' => e = .returned (.bool f) ∧ w' = w := by
  have c0 := h.c3
  go_enter Try.func16, Try.ntmps16
  go_wp2
  go_ret
  exact ⟨rfl, rfl⟩
theorem zzSmall (ao : Option Addr) (n cap : Nat) (d : Int) (f : Bool) (w : World) (h : n ≤ 1048576) :
    Calls Try.prog 9 #[.slice ao n cap, .int .i64 d, .bool f] w fun e w' => e = .returned (.bool true) ∧ w' = w := by
  have hz : ¬ 1048576 < (n : Int) := by omega
  go_enter Try.func9, Try.ntmps9
  go_wp2
  go_ret
  exact ⟨rfl, rfl⟩
theorem zzGreat (ao : Option Addr) (n cap : Nat) (d : Int) (f : Bool) (w : World) (h : ¬ n ≤ 1048576) :
    Calls Try.prog 9 #[.slice ao n cap, .int .i64 d, .bool f] w fun e w' => e = .returned (.bool false) ∧ w' = w := by
  have hz : 1048576 < (n : Int) := by omega
  go_enter Try.func9, Try.ntmps9
  go_wp2
  go_ret
  exact ⟨rfl, rfl⟩
end Go.Proofs.Qxb6608891a.Writer
