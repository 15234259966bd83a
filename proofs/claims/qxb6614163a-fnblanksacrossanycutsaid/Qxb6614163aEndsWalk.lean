/-
  The walk of FnBlanksEndsAtTheRunsEnd (4).
-/
import Derived.Test.Qxb6614163aBlanks
import Derived.WalkSpells
import Derived.Laws.CopyOwn
namespace Go.Proofs.Qxb6614163a.EndsWalk
open Go.RowKit Go.Proofs.Qxb6614163a.Run Go.Proofs.Qxb6614163a.Blanks

theorem Try.info5 : (Try.prog.info? 5).map (fun i => (i.zero, i.size, i.bytes)) = some (some (.int .u8 0), 1, 1) := by kernel_rfl

/-- The row that the copy has filled reads as the source. -/
theorem copied {w w1 : World} {n : Nat} {zs : List Int} {cur : Array Value} (hz : n ≤ zs.length) (hcs : cur.size = n) (hcur : w1.heap[w.heap.size]? = some (.cells cur 5 (0, 0))) :
    Reads (w1.setRow w.heap.size (cellsOf zs n ++ List.drop n cur.toList).toArray) (some ⟨w.heap.size, 0, none⟩) n zs := by
  refine ⟨hz, .inr ⟨_, _, rfl, fun i hi => ?_⟩⟩
  have hl := cellsOf_length zs n hz
  rw [cell_of_row _ _ _ _ 5 (0, 0) (setRow_heap w1 _ cur _ 5 _ hcur), Nat.zero_add]
  simp only [List.getElem?_toArray]
  rw [List.getElem?_append_left (by omega), cellsOf_at zs n i hz hi]

theorem ends_zero {zs : List Int} {r : Nat} (h : RunEnds zs 0 0 r) : r = 0 := by have := h.hi; omega
theorem reads_at {w : World} {g n : Nat} {zs : List Int} (h : Reads w (some ⟨g, 0, none⟩) n zs) : ∀ i, i < n → w.cell? ⟨g, i, none⟩ = some (.int .u8 (zs.getD i 0)) := by
  intro i hi
  rcases h.2 with h0 | ⟨b, o, hx, hc⟩
  · omega
  · cases hx
    have := hc i hi
    rwa [Nat.zero_add] at this

set_option maxHeartbeats 1000000 in
theorem nil_way (cap : Nat) (f : Bool) (zs : List Int) (w : World) :
    Calls Try.prog 4 #[.slice none 0 cap, .int .i64 (0 : Nat), .bool f] w fun e w' => e = .returned (.bool true) ∧ Below w.heap.size w w' := by
  have hq := fun w' => run_neq_slice_nil_any (P := Try.prog) w' 23 5 none 0 cap 0 0 Try.underlying23
  go_enter Try.func4, Try.ntmps4
  go_wp2_with fail
  refine (small4 none 0 cap _ f _ (by omega)).mono ?_
  rintro e w0 ⟨rfl, rfl⟩
  go_wp2_with fail
  refine (zzBlanks none 0 cap 0 f zs _ ⟨Nat.zero_le _, .inl rfl⟩ (by omega) (by omega)).mono ?_
  rintro e w1 ⟨r, rfl, hE, hB⟩
  obtain rfl := ends_zero hE
  rw [tab_refl]
  clear hE
  go_wp2_with fail
  go_loop [10, 11] (fun x y => x = .bool false ∧ y = .int .i64 0) (fun _ _ => 0)
  case atStart => exact ⟨rfl, rfl⟩
  case round =>
    obtain ⟨rfl, rfl⟩ := hrel
    go_wp2
    go_ret
    exact ⟨rfl, hB⟩

set_option maxHeartbeats 2000000 in
theorem some_way (x : Addr) (n cap : Nat) (zs : List Int) (k : Nat) (f : Bool) (w : World) (hr : Reads w (some x) n zs) (hn : n ≤ 1048576) (hk : k ≤ n) :
    Calls Try.prog 4 #[.slice (some x) n cap, .int .i64 k, .bool f] w fun e w' => e = .returned (.bool true) ∧ Below w.heap.size w w' := by
  obtain ⟨i0, hi, hz0, hz1, hz2⟩ := info_parts Try.info5
  have hsz : (Try.prog.info? 5).map (·.size) = some 1 := by rw [hi]; simp [hz1]
  have t1 : decide (1048576 < (n : Int)) = false := decide_eq_false (by omega)
  have t2 : decide ((k : Int) < 0) = false := decide_eq_false (by omega)
  have t3 : decide ((n : Int) < (k : Int)) = false := decide_eq_false (by omega)
  have hq := fun w' => run_neq_slice_nil_any (P := Try.prog) w' 23 5 (some x) n cap 0 0 Try.underlying23
  have hct := hr.cells
  have hl := cellsOf_length zs n hr.1
  have hzl := hr.1
  have hone : ∀ u ∈ cellsOf zs n, u.oneCell' = true := ints_oneCell _ _
  clear hr
  go_enter Try.func4, Try.ntmps4
  go_wp2_with fail
  refine (small4 (some x) n cap k f _ hn).mono ?_
  rintro e w0 ⟨rfl, rfl⟩
  go_wp2_with (at_make; refine wpList_make_full _ rfl (.tmp 31) (.tmp 31) 23 rfl w0.heap.size 5 i0 (.int .u8 0) 1 Try.underlying23 hi hz0 hz1 .i64 .i64 _ _ n rfl rfl rfl rfl (by rw [hz2]; omega) (by unfold maxLen; omega) (Nat.le_refl _) ?_)
  intro w1 hown hg
  obtain ⟨cur, hcur, hcs⟩ : ∃ cur, w1.heap[w0.heap.size]? = some (.cells cur 5 (0, 0)) ∧ cur.size = n := by
    rcases hown.2 with ⟨h1, _⟩ | ⟨g, cap', cur, h1, _, hgg, _, _, hs, _⟩
    · cases h1
    · cases h1
      exact ⟨cur, hgg, by omega⟩
  have hB1 : Below w0.heap.size w0 w1 := (Below.refl _ _).grown hg (Nat.le_refl _) (fun k h => by cases h)
  have hct1 : ∀ j u, (cellsOf zs n)[j]? = some u → w1.cell? (x.add j) = some u := fun j u hu => by
    rw [hB1.cell (World.block_lt_of_cell? w0 _ (hct j u hu))]
    exact hct j u hu
  clear hown hg hct
  go_wp2_with (refine wpList_copy_own rfl (.tmp 33) (.tmp 34) 23 23 rfl 5 Try.underlying23 hsz w0.heap.size 0 n n x n cap rfl rfl cur 5 hcur (cellsOf zs n) (by rw [hl]; simp) hct1 (by omega) hone ?_)
  have R2 := copied hzl hcs hcur
  have B2 : Below w0.heap.size w0 (w1.setRow w0.heap.size (cellsOf zs n ++ List.drop n cur.toList).toArray) := below_setRow hB1 (Nat.le_refl _) _
  clear hcur hct1 hB1
  generalize w1.setRow w0.heap.size (cellsOf zs n ++ List.drop n cur.toList).toArray = w2 at *
  refine (zzBlanks _ n n k f zs w2 R2 hn hk).mono ?_
  rintro e w3 ⟨r, rfl, hE, B3⟩
  have B4 := B2.trans (B3.mono B2.size)
  have hc := reads_at (R2.below B3 rfl)
  have e1 := hE.lo
  have e2 := hE.hi
  have u1 : decide ((r : Int) < (k : Int)) = false := decide_eq_false (by omega)
  have u2 : decide ((n : Int) < (r : Int)) = false := decide_eq_false (by omega)
  clear B2 B3 R2 hone hl hsz
  go_wp2_with fail
  go_loop [10, 11] (fun x y => ∃ i : Nat, k ≤ i ∧ i ≤ r ∧ x = .bool (tabB zs k i) ∧ y = .int .i64 i) (fun _ y => r - (intOf y).toNat)
  case atStart => exact ⟨k, Nat.le_refl _, e1, by rw [tab_refl], rfl⟩
  case round =>
    obtain ⟨i, h1, h2, rfl, rfl⟩ := hrel
    by_cases hlt : i < r
    · have hz : (i : Int) < r := by omega
      have hin : (i : Int) < n := by omega
      have hci := hc i (by omega)
      have hA := hE.all i h1 hlt
      clear hc hE
      generalize hv : zs.getD i 0 = z at *
      have HV : Hid (zs.getD i 0 = z) := hv
      clear hv
      rcases hA with rfl | rfl
      · have HT : Hid (tabB zs k (i + 1) = tabB zs k i) := tab_no zs h1 (by rw [HV.out]; decide)
        go_wp2
        go_round
        case rel => exact ⟨i + 1, by omega, by omega, by rw [HT.out], by go_num⟩
        case measure => simp [intOf]; omega
      · have HT : Hid (tabB zs k (i + 1) = true) := tab_yes zs h1 HV.out
        go_wp2
        go_round
        case rel => exact ⟨i + 1, by omega, by omega, by rw [HT.out], by go_num⟩
        case measure => simp [intOf]; omega
    · obtain rfl : i = r := by omega
      by_cases hrn : i < n
      · have hin : (i : Int) < n := by omega
        have hci := hc i hrn
        have hS := hE.stop hrn
        have b1 : ((zs.getD i 0 == 32) || (zs.getD i 0 == 9)) = false := by rw [beq_eq_false_iff_ne.2 hS.1, beq_eq_false_iff_ne.2 hS.2]; rfl
        clear hc hE hS
        generalize zs.getD i 0 = z at *
        go_wp2_with fail
        refine (isBlank_any z _).mono ?_
        rintro e w5 ⟨rfl, rfl⟩
        rw [b1]
        clear b1
        go_wp2_with fail
        go_ret
        exact ⟨rfl, B4⟩
      · have hin : ¬ (i : Int) < n := by omega
        clear hc hE
        go_wp2_with fail
        go_ret
        exact ⟨rfl, B4⟩

theorem core (p : Option Addr) (n cap : Nat) (zs : List Int) (k : Nat) (f : Bool) (w : World) (hr : Reads w p n zs) (hnil : p = none → n = 0) (hn : n ≤ 1048576) (hk : k ≤ n) :
    Calls Try.prog 4 #[.slice p n cap, .int .i64 k, .bool f] w fun e w' => e = .returned (.bool true) ∧ Below w.heap.size w w' := by
  cases p with
  | none =>
    obtain rfl := hnil rfl
    obtain rfl : k = 0 := by omega
    exact nil_way cap f zs w
  | some x => exact some_way x n cap zs k f w hr hn hk

set_option maxHeartbeats 800000 in
set_option maxRecDepth 100000 in
theorem law_any (p : Option Addr) (n cap : Nat) (zs : List Int) (d : Int) (f : Bool) (w : World) (hr : Reads w p n zs) (hnil : p = none → n = 0) :
    Calls Try.prog 4 #[.slice p n cap, .int .i64 d, .bool f] w fun e w' => e = .returned (.bool true) ∧ Below w.heap.size w w' := by
  by_cases hn : n ≤ 1048576
  · by_cases hd : 0 ≤ d ∧ d ≤ n
    · obtain ⟨m, rfl⟩ := Int.eq_ofNat_of_zero_le hd.1
      exact core p n cap zs m f w hr hnil hn (by omega)
    · have hnz : (n : Int) ≤ 1048576 := by omega
      have t1 : decide (1048576 < (n : Int)) = false := decide_eq_false (by omega)
      by_cases h1 : d < 0
      · clear hd
        go_enter Try.func4, Try.ntmps4
        go_wp2_with fail
        refine (small4 p n cap d f _ hn).mono ?_
        rintro e w0 ⟨rfl, rfl⟩
        go_wp2_with fail
        go_ret
        exact ⟨rfl, Below.refl _ _⟩
      · have h2 : (n : Int) < d := by omega
        have t2 : decide (d < 0) = false := decide_eq_false h1
        have t3 : decide ((n : Int) < d) = true := decide_eq_true h2
        clear hd h1
        go_enter Try.func4, Try.ntmps4
        go_wp2_with fail
        refine (small4 p n cap d f _ hn).mono ?_
        rintro e w0 ⟨rfl, rfl⟩
        go_wp2_with fail
        go_ret
        exact ⟨rfl, Below.refl _ _⟩
  · go_enter Try.func4, Try.ntmps4
    go_wp2_with fail
    refine (great4 p n cap d f _ hn).mono ?_
    rintro e w0 ⟨rfl, rfl⟩
    go_wp2_with fail
    go_ret
    exact ⟨rfl, Below.refl _ _⟩
end Go.Proofs.Qxb6614163a.EndsWalk
