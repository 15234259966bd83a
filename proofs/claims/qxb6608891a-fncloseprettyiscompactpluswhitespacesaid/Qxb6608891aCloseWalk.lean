/-
  The walk of FnClosePrettyIsCompactPlusWhitespace (4).
-/
import Derived.Test.Qxb6608891aStage
namespace Go.Proofs.Qxb6608891a.CloseWalk
open Go.RowKit Go.Proofs.Qxb6608891a.Mem Go.Proofs.Qxb6608891a.Writer Go.Proofs.Qxb6608891a.Clone Go.Proofs.Qxb6608891a.Stage

theorem st_drewN {w : World} {b : Nat} {ao : Option Addr} {cap : Nat} {p : Bool} {d : Int} {f : Bool} {n : Nat} {xs : List Value} (h : St w b ao cap p d f n xs) (q : Nat) : St (w.drewN q) b ao cap p d f n xs := ⟨h.blk, h.own⟩
theorem below_drewN' {B : Nat} {a w : World} (h : Below B a w) (q : Nat) : Below B a (w.drewN q) := ⟨h.os, h.tape, h.output, h.size, h.block⟩
/-- The tail of the pretty form: what stands at place 'n + j'. -/
theorem tail_at (zs : List Int) (n k j : Nat) (hz : n ≤ zs.length) (hj : j < 4 * k + 2) :
    (cellsOf zs n ++ (nl k ++ [.int .u8 125]))[n + j]? = some (.int .u8 (if j = 0 then 10 else if j < 4 * k + 1 then 32 else 125)) := by
  have hl := cellsOf_length zs n hz
  rw [List.getElem?_append_right (by omega), hl, Nat.add_sub_cancel_left]
  unfold nl
  match j with
  | 0 => simp
  | j + 1 =>
    rw [List.cons_append, List.getElem?_cons_succ]
    by_cases h : j < 4 * k
    · rw [List.getElem?_append_left (by simpa using h)]
      simp [h]
    · have : j = 4 * k := by omega
      subst this
      rw [List.getElem?_append_right (by simp)]
      simp
theorem head_at (zs : List Int) (n j : Nat) (ys : List Value) (hz : n ≤ zs.length) (hj : j < n) : (cellsOf zs n ++ ys)[j]? = some (.int .u8 (zs.getD j 0)) := by
  rw [List.getElem?_append_left (by rw [cellsOf_length zs n hz]; exact hj), cellsOf_at zs n j hz hj]
theorem last_at (zs : List Int) (n : Nat) (y : Value) (hz : n ≤ zs.length) : (cellsOf zs n ++ [y])[n]? = some y := by
  have hl := cellsOf_length zs n hz
  rw [List.getElem?_append_right (by omega), hl]
  simp

set_option maxHeartbeats 1600000 in
theorem core (p : Option Addr) (n cap : Nat) (zs : List Int) (k : Nat) (f : Bool) (w : World) (hr : Reads w p n zs) (hnil : p = none → n = 0) (hn : n ≤ 1048576) (hk : k ≤ 65535) :
    Calls Try.prog 4 #[.slice p n cap, .int .i64 (k + 1 : Nat), .bool f] w fun e w' => e = .returned (.bool true) ∧ Below w.heap.size w w' := by
  have hnz : ¬ 1048576 < (n : Int) := by omega
  have hd1 : ¬ ((k + 1 : Nat) : Int) < 1 := by omega
  have hd2 : ¬ 65536 < ((k + 1 : Nat) : Int) := by omega
  generalize hd : ((k + 1 : Nat) : Int) = d at *
  have HD : Hid (((k + 1 : Nat) : Int) = d) := hd
  clear hd
  have t1 : decide (1048576 < (n : Int)) = false := decide_eq_false (by omega)
  have t2 : decide (d < 1) = false := decide_eq_false (by omega)
  have t3 : decide (65536 < d) = false := decide_eq_false (by omega)
  have t4 : ((k : Int) == d - 1) = true := beq_iff_eq.2 (by have := HD.out; omega)
  have t5 : ((n : Int) + 1 + 4 * (k : Int) + 1 != (n : Int) + 2 + 4 * (d - 1)) = false := by rw [bne_eq_false_iff_eq]; have := HD.out; omega
  go_enter Try.func4, Try.ntmps4
  go_wp2_with fail
  refine (zzSmall p n cap d f _ hn).mono ?_
  rintro e w0 ⟨rfl, rfl⟩
  go_wp2_with fail
  refine (clone_any p n cap zs _ hr hn hnil).mono ?_
  rintro e w1 ⟨ao1, c1, rfl, o1, b1⟩
  have hr1 := hr.below b1 rfl
  have r1 := o1.lt
  go_wp2_with fail
  refine (clone_any p n cap zs _ hr1 hn hnil).mono ?_
  rintro e w2 ⟨ao2, c2, rfl, o2, b2⟩
  have r2 := o2.lt
  go_wp2_with fail
  refine (zzNew ao1 n c1 false d f _).mono ?_
  rintro e w3 ⟨rfl, rfl⟩
  go_wp2_with fail
  refine (zzNew ao2 n c2 true d f _).mono ?_
  rintro e w4 ⟨rfl, rfl⟩
  obtain ⟨A1, A2, A3⟩ := Stage.ahead (d := d) (f := f) o1 b1 o2 b2
  have s2 : w2.heap.size + 2 ≤ ((w2.alloc (.cells #[.slice ao1 n c1, .bool false, .int .i64 d, .bool f] 35)).alloc (.cells #[.slice ao2 n c2, .bool true, .int .i64 d, .bool f] 35)).heap.size := by simp
  have q1 := b1.size
  have q2 := b2.size
  go_wp2_with fail
  generalize (w2.alloc (.cells #[.slice ao1 n c1, .bool false, .int .i64 d, .bool f] 35)).alloc (.cells #[.slice ao2 n c2, .bool true, .int .i64 d, .bool f] 35) = w4 at *
  rw [← HD.out] at A1 A2
  refine (zzClose_no w2.heap.size ao1 c1 k f n (cellsOf zs n) _ A1 hk (by omega)).mono ?_
  rintro e w5 ⟨rfl, ao1', c1', B1, hW1, hM1⟩
  have B2 := behind1 A1 A2 (by omega) (L := w1.heap.size) (fun k h => (r1 k h).2) (fun k h => (r2 k h).1) hW1
  have B3 := A3.trans (hW1.below (B := w0.heap.size) (by omega) (fun k h => (r1 k h).1) (by omega))
  go_wp2_with fail
  refine (zzClose_yes (w2.heap.size + 1) ao2 c2 k f n (cellsOf zs n) _ B2 hk (by omega)).mono ?_
  rintro e w6 ⟨rfl, ao2', c2', C2, hW2, hM2⟩
  have C1 := behind2 (w4 := w4) (c1 := c1) (ao1 := ao1) B1 B2 (by omega) (L := w1.heap.size) (fun k h => (r1 k h).2) (fun k h => ⟨(r2 k h).1, by have := (r2 k h).2; omega⟩) hM1 hW2
  have C3 := B3.trans (hW2.below (B := w0.heap.size) (by omega) (fun k h => by have := (r2 k h).1; omega) (by have := hW1.size; omega))
  have R6 := hr.below C3 rfl
  clear A1 A2 A3 B1 B2 B3 hW1 hM1 hW2 hM2 o1 o2 b1 b2 r1 r2 hr hr1
  obtain ⟨g1, rfl, hc1, _, hcell1⟩ := st_row C1 (by omega)
  obtain ⟨g2, rfl, hc2, _, hcell2⟩ := st_row C2 (by omega)
  go_wp2_with fail
  refine (zzBytes _ _ _ _ _ _ _ _ _ C1).mono ?_
  rintro e w7 ⟨rfl, rfl⟩
  go_wp2_with fail
  refine (zzBytes _ _ _ _ _ _ _ _ _ C2).mono ?_
  rintro e w8 ⟨rfl, rfl⟩
  have hz := R6.1
  have E1 : Reads w8 (some ⟨g1, 0, none⟩) n zs := ⟨hz, .inr ⟨g1, 0, rfl, fun i hi => by rw [Nat.zero_add, hcell1 i (by omega)]; exact head_at zs n i _ hz hi⟩⟩
  have E2 : Reads w8 (some ⟨g2, 0, none⟩) n zs := ⟨hz, .inr ⟨g2, 0, rfl, fun i hi => by rw [Nat.zero_add, hcell2 i (by omega)]; exact head_at zs n i _ hz hi⟩⟩
  have L1 : w8.cell? ⟨g1, n, none⟩ = some (.int .u8 125) := by rw [hcell1 n (by omega)]; exact last_at zs n _ hz
  have T : ∀ j, j < 4 * k + 2 → w8.cell? ⟨g2, n + j, none⟩ = some (.int .u8 (if j = 0 then 10 else if j < 4 * k + 1 then 32 else 125)) := fun j hj => by
    rw [hcell2 (n + j) (by omega)]; exact tail_at zs n k j hz hj
  have T0 : w8.cell? ⟨g2, n, none⟩ = some (.int .u8 10) := T 0 (by omega)
  clear hcell1 hcell2
  have HT : Hid (∀ j, j < 4 * k + 2 → w8.cell? ⟨g2, n + j, none⟩ = some (.int .u8 (if j = 0 then 10 else if j < 4 * k + 1 then 32 else 125))) := T
  clear T
  go_wp2_with fail
  refine (eq_any _ _ _ _ n zs _ hn E1 R6).mono ?_
  rintro e w9 ⟨rfl, q1, rfl⟩
  go_wp2_with fail
  refine (eq_any _ _ _ _ n zs _ hn (E2.same (w' := w8.drewN q1) (fun _ => rfl)) (R6.same (w' := w8.drewN q1) (fun _ => rfl))).mono ?_
  rintro e w10 ⟨rfl, q2, rfl⟩
  clear E1 E2 R6
  go_wp2_with fail
  go_loopw [13, 14] (fun s i wr => ∃ m q : Nat, n ≤ m ∧ m ≤ n + 4 * k + 2 ∧ i = .int .i64 m ∧ ((m < n + 4 * k + 2 ∧ s = .int .i64 0) ∨ (m = n + 4 * k + 2 ∧ s = .int .i64 1)) ∧ wr = w8.drewN q) (fun _ i _ => n + 4 * k + 2 - (intOf i).toNat)
  case atStart => exact ⟨n, q1 + q2, Nat.le_refl _, by omega, rfl, .inl ⟨by omega, rfl⟩, by simp [World.drewN]⟩
  case round =>
    obtain ⟨m, q, hm1, hm2, rfl, hs, rfl⟩ := hrel
    rcases hs with ⟨hlt, rfl⟩ | ⟨rfl, rfl⟩
    · have hcm := HT.out (m - n) (by omega)
      rw [show n + (m - n) = m by omega] at hcm
      have hmz : (m : Int) < (n : Int) + 1 + 4 * (k : Int) + 1 := by omega
      by_cases h0 : m = n
      · rw [if_pos (by omega)] at hcm
        go_wp2
        go_roundw
        case rel => exact ⟨m + 1, q, by omega, by omega, by go_num, .inl ⟨by omega, rfl⟩, rfl⟩
        case measure => simp [intOf]; omega
      · rw [if_neg (by omega)] at hcm
        by_cases h1 : m < n + 4 * k + 1
        · rw [if_pos (by omega)] at hcm
          clear h0
          go_wp2
          go_roundw
          case rel => exact ⟨m + 1, q, by omega, by omega, by go_num, .inl ⟨by omega, rfl⟩, rfl⟩
          case measure => simp [intOf]; omega
        · rw [if_neg (by omega)] at hcm
          clear h0
          go_wp2
          go_quiet (fail)
          go_wp2
          go_roundw
          case rel => exact ⟨m + 1, q + nq, by omega, by omega, by go_num, .inr ⟨by omega, rfl⟩, by simp [World.drewN]⟩
          case measure => simp [intOf]; omega
    · have D1 := st_drewN C1 q
      have D2 := st_drewN C2 q
      have D3 := below_drewN' C3 q
      clear C1 C2 C3 L1 T0
      generalize w8.drewN q = w9 at *
      go_wp2_with fail
      refine (zzDepth _ _ _ _ _ _ _ _ _ D1).mono ?_
      rintro e wa ⟨rfl, rfl⟩
      go_wp2_with fail
      refine (zzDepth _ _ _ _ _ _ _ _ _ D2).mono ?_
      rintro e wb ⟨rfl, rfl⟩
      go_wp2_with fail
      refine (zzFirst _ _ _ _ _ _ _ _ _ D1).mono ?_
      rintro e wc ⟨rfl, rfl⟩
      go_wp2_with fail
      refine (zzFirst _ _ _ _ _ _ _ _ _ D2).mono ?_
      rintro e wd ⟨rfl, rfl⟩
      go_wp2
      go_ret
      exact ⟨rfl, D3⟩

set_option maxHeartbeats 800000 in
set_option maxRecDepth 100000 in
theorem law_any (p : Option Addr) (n cap : Nat) (zs : List Int) (d : Int) (f : Bool) (w : World) (hr : Reads w p n zs) (hnil : p = none → n = 0) :
    Calls Try.prog 4 #[.slice p n cap, .int .i64 d, .bool f] w fun e w' => e = .returned (.bool true) ∧ Below w.heap.size w w' := by
  by_cases hn : n ≤ 1048576
  · by_cases hd : 1 ≤ d ∧ d ≤ 65536
    · obtain ⟨m, hm⟩ := Int.eq_ofNat_of_zero_le (show 0 ≤ d - 1 by omega)
      have e : d = (m + 1 : Nat) := by omega
      rw [e]
      exact core p n cap zs m f w hr hnil hn (by omega)
    · have hnz : (n : Int) ≤ 1048576 := by omega
      by_cases h1 : d < 1
      · clear hd
        go_enter Try.func4, Try.ntmps4
        go_wp2_with fail
        refine (zzSmall p n cap d f _ hn).mono ?_
        rintro e w0 ⟨rfl, rfl⟩
        go_wp2_with fail
        go_ret
        exact ⟨rfl, Below.refl _ _⟩
      · have h2 : 65536 < d := by omega
        have h3 : 1 ≤ d := by omega
        have t2 : decide (d < 1) = false := decide_eq_false h1
        have t3 : decide (65536 < d) = true := decide_eq_true h2
        clear h1
        clear hd
        go_enter Try.func4, Try.ntmps4
        go_wp2_with fail
        refine (zzSmall p n cap d f _ hn).mono ?_
        rintro e w0 ⟨rfl, rfl⟩
        go_wp2_with fail
        go_ret
        exact ⟨rfl, Below.refl _ _⟩
  · go_enter Try.func4, Try.ntmps4
    go_wp2_with fail
    refine (zzGreat p n cap d f _ hn).mono ?_
    rintro e w0 ⟨rfl, rfl⟩
    go_wp2_with fail
    go_ret
    exact ⟨rfl, Below.refl _ _⟩
end Go.Proofs.Qxb6608891a.CloseWalk
