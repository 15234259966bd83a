/-
  The walk of FnBlanksAcrossAnyCut (5).
-/
import Derived.Test.Qxb6614163aEndsWalk
namespace Go.Proofs.Qxb6614163a.CutWalk
open Go.RowKit Go.Proofs.Qxb6614163a.Run Go.Proofs.Qxb6614163a.Blanks Go.Proofs.Qxb6614163a.EndsWalk

set_option maxHeartbeats 1000000 in
theorem nil_way (cap : Nat) (f : Bool) (zs : List Int) (w : World) :
    Calls Try.prog 5 #[.slice none 0 cap, .int .i64 (0 : Nat), .int .i64 (0 : Nat), .bool f] w fun e w' => e = .returned (.bool true) ∧ Below w.heap.size w w' := by
  have hq := fun w' => run_neq_slice_nil_any (P := Try.prog) w' 23 5 none 0 cap 0 0 Try.underlying23
  go_enter Try.func5, Try.ntmps5
  go_wp2_with fail
  refine (small5 none 0 cap _ _ f _ (by omega)).mono ?_
  rintro e w0 ⟨rfl, rfl⟩
  go_wp2_with fail
  refine (zzBlanks none 0 cap 0 f zs _ ⟨Nat.zero_le _, .inl rfl⟩ (by omega) (by omega)).mono ?_
  rintro e w1 ⟨r, rfl, hE, hB⟩
  obtain rfl := ends_zero hE
  rw [tab_refl]
  clear hE
  go_wp2_with fail
  refine (zzBlanks none 0 cap 0 f zs _ ⟨Nat.zero_le _, .inl rfl⟩ (by omega) (by omega)).mono ?_
  rintro e w2 ⟨r, rfl, hE, hB2⟩
  obtain rfl := ends_zero hE
  rw [tab_refl]
  clear hE
  go_wp2_with fail
  refine (zzBlanks none 0 cap 0 f zs _ ⟨Nat.zero_le _, .inl rfl⟩ (by omega) (by omega)).mono ?_
  rintro e w3 ⟨r, rfl, hE, hB3⟩
  obtain rfl := ends_zero hE
  rw [tab_refl]
  clear hE
  have BL := (hB.trans (hB2.mono hB.size)).trans (hB3.mono (Nat.le_trans hB.size hB2.size))
  clear hB hB2 hB3
  go_wp2_with fail
  go_ret
  exact ⟨rfl, BL⟩

set_option maxHeartbeats 4000000 in
theorem some_way (x : Addr) (n cap : Nat) (zs : List Int) (pos k : Nat) (f : Bool) (w : World) (hr : Reads w (some x) n zs) (hn : n ≤ 1048576) (hp : pos ≤ k) (hk : k ≤ n) :
    Calls Try.prog 5 #[.slice (some x) n cap, .int .i64 pos, .int .i64 k, .bool f] w fun e w' => e = .returned (.bool true) ∧ Below w.heap.size w w' := by
  obtain ⟨i0, hi, hz0, hz1, hz2⟩ := info_parts EndsWalk.Try.info5
  have hsz : (Try.prog.info? 5).map (·.size) = some 1 := by rw [hi]; simp [hz1]
  have t1 : decide (1048576 < (n : Int)) = false := decide_eq_false (by omega)
  have t2 : decide ((pos : Int) < 0) = false := decide_eq_false (by omega)
  have t3 : decide ((n : Int) < (pos : Int)) = false := decide_eq_false (by omega)
  have t4 : decide ((k : Int) < (pos : Int)) = false := decide_eq_false (by omega)
  have t5 : decide ((n : Int) < (k : Int)) = false := decide_eq_false (by omega)
  have hkz : (k : Int) ≤ n := by omega
  have hq := fun w' => run_neq_slice_nil_any (P := Try.prog) w' 23 5 (some x) n cap 0 0 Try.underlying23
  have hct := hr.cells
  have hl := cellsOf_length zs n hr.1
  have hzl := hr.1
  have hone : ∀ u ∈ cellsOf zs n, u.oneCell' = true := ints_oneCell _ _
  clear hr
  go_enter Try.func5, Try.ntmps5
  go_wp2_with fail
  refine (small5 (some x) n cap pos k f _ hn).mono ?_
  rintro e w0 ⟨rfl, rfl⟩
  go_wp2_with (at_make; refine wpList_make_full _ rfl (.tmp 47) (.tmp 47) 23 rfl w0.heap.size 5 i0 (.int .u8 0) 1 Try.underlying23 hi hz0 hz1 .i64 .i64 _ _ n rfl rfl rfl rfl (by rw [hz2]; omega) (by unfold maxLen; omega) (Nat.le_refl _) ?_)
  intro w1 hown hg
  obtain ⟨cur, hcur, hcs⟩ : ∃ cur, w1.heap[w0.heap.size]? = some (.cells cur 5 (0, 0)) ∧ cur.size = n := by
    rcases hown.2 with ⟨h1, _⟩ | ⟨g, cap', cur, h1, _, hgg, _, _, hs, _⟩
    · cases h1
    · cases h1
      exact ⟨cur, hgg, by omega⟩
  have hB1 : Below w0.heap.size w0 w1 := (Below.refl _ _).grown hg (Nat.le_refl _) (fun k h => by cases h)
  have hct1 : ∀ j u, (cellsOf zs n)[j]? = some u → w1.cell? (x.add j) = some u := fun j u hu => by
    rw [hB1.cell (World.block_lt_of_cell? w0 _ (hct j u hu))]
    exact hct j u hu
  clear hown hg hct
  go_wp2_with (refine wpList_copy_own rfl (.tmp 49) (.tmp 50) 23 23 rfl 5 Try.underlying23 hsz w0.heap.size 0 n n x n cap rfl rfl cur 5 hcur (cellsOf zs n) (by rw [hl]; simp) hct1 (by omega) hone ?_)
  have R2 := copied hzl hcs hcur
  have B2 : Below w0.heap.size w0 (w1.setRow w0.heap.size (cellsOf zs n ++ List.drop n cur.toList).toArray) := below_setRow hB1 (Nat.le_refl _) _
  clear hcur hct1 hB1 hone hl hsz
  generalize w1.setRow w0.heap.size (cellsOf zs n ++ List.drop n cur.toList).toArray = w2 at *
  refine (zzBlanks _ k n pos f zs w2 (R2.less hk) (by omega) hp).mono ?_
  rintro e w3 ⟨r1, rfl, hE1, B3⟩
  have R3 := R2.below B3 rfl
  have B4 := B2.trans (B3.mono B2.size)
  clear B2 B3 R2
  go_wp2_with fail
  refine (zzBlanks _ n n pos f zs w3 R3 hn (by omega)).mono ?_
  rintro e w4 ⟨r, rfl, hE, B5⟩
  have R4 := R3.below B5 rfl
  have B6 := B4.trans (B5.mono B4.size)
  clear B4 B5 R3
  have f1 := hE.lo
  have f2 := hE.hi
  have f3 := hE1.hi
  have u1 : decide ((r : Int) < (pos : Int)) = false := decide_eq_false (by omega)
  have u2 : decide ((n : Int) < (r : Int)) = false := decide_eq_false (by omega)
  have hP : r = pos → tabB zs pos r = false := fun h => by rw [h]; exact tab_refl zs pos
  have hT : pos < r → zs.getD pos 0 = 9 → tabB zs pos r = true := fun h h9 => (tab_iff zs pos r).2 ⟨pos, Nat.le_refl _, h, h9⟩
  by_cases hrk : r1 < k
  · obtain rfl : r = r1 := hE.unique (hE1.ahead hk hrk)
    have u3 : decide ((r : Int) < (k : Int)) = true := decide_eq_true (by omega)
    have u4 : ((r : Int) != (r : Int)) = false := by simp
    have hc := reads_at R4
    have BL := B6
    clear R4 B6 hE1
    generalize tabB zs pos r = tb at *
    have u5 : (tb != tb) = false := by simp
    by_cases hrp : r = pos
    · obtain rfl := hP hrp
      subst hrp
      clear hP hT
      have bp : ((r : Int) == (r : Int)) = true := beq_iff_eq.2 rfl
      by_cases hrn : r < n
      · have hri : (r : Int) < n := by omega
        have hcr := hc r hrn
        have hS := hE.stop hrn
        have b1 : ((zs.getD r 0 == 32) || (zs.getD r 0 == 9)) = false := by rw [beq_eq_false_iff_ne.2 hS.1, beq_eq_false_iff_ne.2 hS.2]; rfl
        have b2 : (zs.getD r 0 == 9) = false := beq_eq_false_iff_ne.2 hS.2
        clear hc hE hS
        generalize zs.getD r 0 = z at *
        go_wp2_with fail
        refine (isBlank_any z _).mono ?_
        rintro e wq ⟨rfl, rfl⟩
        rw [b1]
        clear b1
        go_wp2_with fail
        go_ret
        exact ⟨rfl, BL⟩
      · exact absurd (by omega : r < n) hrn
    · have hT' := hT (by omega)
      clear hP hT
      have bp : ((r : Int) == (pos : Int)) = false := beq_eq_false_iff_ne.2 (by omega)
      have hpn : (pos : Int) < n := by omega
      have hcp := hc pos (by omega)
      have hA := hE.all pos (Nat.le_refl _) (by omega)
      by_cases hrn : r < n
      · have hri : (r : Int) < n := by omega
        have hcr := hc r hrn
        have hS := hE.stop hrn
        have b1 : ((zs.getD r 0 == 32) || (zs.getD r 0 == 9)) = false := by rw [beq_eq_false_iff_ne.2 hS.1, beq_eq_false_iff_ne.2 hS.2]; rfl
        clear hc hE hS
        generalize zs.getD pos 0 = z at *
        generalize zs.getD r 0 = y at *
        rcases hA with rfl | rfl
        · clear hT'
          go_wp2_with fail
          refine (isBlank_any y _).mono ?_
          rintro e wq ⟨rfl, rfl⟩
          rw [b1]
          clear b1
          go_wp2_with fail
          go_ret
          exact ⟨rfl, BL⟩
        · obtain rfl := hT' rfl
          clear hT'
          go_wp2_with fail
          refine (isBlank_any y _).mono ?_
          rintro e wq ⟨rfl, rfl⟩
          rw [b1]
          clear b1
          go_wp2_with fail
          go_ret
          exact ⟨rfl, BL⟩
      · exact absurd (by omega : r < n) hrn
  · obtain rfl : r1 = k := by omega
    have u3 : decide ((r1 : Int) < (r1 : Int)) = false := decide_eq_false (by omega)
    have u4 : ((r1 : Int) == (r1 : Int)) = true := beq_iff_eq.2 rfl
    go_wp2_with fail
    refine (zzBlanks _ n n r1 f zs w4 R4 hn hk).mono ?_
    rintro e w5 ⟨r2, rfl, hE2, B7⟩
    obtain rfl : r = r2 := hE.unique (hE1.on hE2)
    have u5 : tabB zs pos r = (tabB zs pos r1 || tabB zs r1 r) := tab_cut zs hE1.lo hE2.lo
    have u6 : ((r : Int) != (r : Int)) = false := by simp
    have hc := reads_at (R4.below B7 rfl)
    have BL := B6.trans (B7.mono B6.size)
    clear R4 B6 B7 hE2 hE1
    generalize tabB zs pos r = tb at *
    generalize tabB zs pos r1 = ta at *
    generalize tabB zs r1 r = tc at *
    cases ta
    · obtain rfl : tb = tc := by simpa using u5
      clear u5
      have u7 : (tb != tb) = false := by simp
      by_cases hrp : r = pos
      · obtain rfl := hP hrp
        subst hrp
        clear hP hT
        have bp : ((r : Int) == (r : Int)) = true := beq_iff_eq.2 rfl
        by_cases hrn : r < n
        · have hri : (r : Int) < n := by omega
          have hcr := hc r hrn
          have hS := hE.stop hrn
          have b1 : ((zs.getD r 0 == 32) || (zs.getD r 0 == 9)) = false := by rw [beq_eq_false_iff_ne.2 hS.1, beq_eq_false_iff_ne.2 hS.2]; rfl
          have b2 : (zs.getD r 0 == 9) = false := beq_eq_false_iff_ne.2 hS.2
          clear hc hE hS
          generalize zs.getD r 0 = z at *
          go_wp2_with fail
          refine (isBlank_any z _).mono ?_
          rintro e wq ⟨rfl, rfl⟩
          rw [b1]
          clear b1
          go_wp2_with fail
          go_ret
          exact ⟨rfl, BL⟩
        · have hri : ¬ (r : Int) < n := by omega
          clear hc hE
          go_wp2_with fail
          go_ret
          exact ⟨rfl, BL⟩
      · have hT' := hT (by omega)
        clear hP hT
        have bp : ((r : Int) == (pos : Int)) = false := beq_eq_false_iff_ne.2 (by omega)
        have hpn : (pos : Int) < n := by omega
        have hcp := hc pos (by omega)
        have hA := hE.all pos (Nat.le_refl _) (by omega)
        by_cases hrn : r < n
        · have hri : (r : Int) < n := by omega
          have hcr := hc r hrn
          have hS := hE.stop hrn
          have b1 : ((zs.getD r 0 == 32) || (zs.getD r 0 == 9)) = false := by rw [beq_eq_false_iff_ne.2 hS.1, beq_eq_false_iff_ne.2 hS.2]; rfl
          clear hc hE hS
          generalize zs.getD pos 0 = z at *
          generalize zs.getD r 0 = y at *
          rcases hA with rfl | rfl
          · clear hT'
            go_wp2_with fail
            refine (isBlank_any y _).mono ?_
            rintro e wq ⟨rfl, rfl⟩
            rw [b1]
            clear b1
            go_wp2_with fail
            go_ret
            exact ⟨rfl, BL⟩
          · obtain rfl := hT' rfl
            clear hT'
            go_wp2_with fail
            refine (isBlank_any y _).mono ?_
            rintro e wq ⟨rfl, rfl⟩
            rw [b1]
            clear b1
            go_wp2_with fail
            go_ret
            exact ⟨rfl, BL⟩
        · have hri : ¬ (r : Int) < n := by omega
          clear hc hE
          generalize zs.getD pos 0 = z at *
          rcases hA with rfl | rfl
          · clear hT'
            go_wp2_with fail
            go_ret
            exact ⟨rfl, BL⟩
          · obtain rfl := hT' rfl
            clear hT'
            go_wp2_with fail
            go_ret
            exact ⟨rfl, BL⟩
    · obtain rfl : tb = true := by simpa using u5
      clear u5
      by_cases hrp : r = pos
      · exact absurd (hP hrp) (by decide)
      · have hT' := hT (by omega)
        clear hP hT
        have bp : ((r : Int) == (pos : Int)) = false := beq_eq_false_iff_ne.2 (by omega)
        have hpn : (pos : Int) < n := by omega
        have hcp := hc pos (by omega)
        have hA := hE.all pos (Nat.le_refl _) (by omega)
        by_cases hrn : r < n
        · have hri : (r : Int) < n := by omega
          have hcr := hc r hrn
          have hS := hE.stop hrn
          have b1 : ((zs.getD r 0 == 32) || (zs.getD r 0 == 9)) = false := by rw [beq_eq_false_iff_ne.2 hS.1, beq_eq_false_iff_ne.2 hS.2]; rfl
          clear hc hE hS
          generalize zs.getD pos 0 = z at *
          generalize zs.getD r 0 = y at *
          rcases hA with rfl | rfl
          · clear hT'
            go_wp2_with fail
            refine (isBlank_any y _).mono ?_
            rintro e wq ⟨rfl, rfl⟩
            rw [b1]
            clear b1
            go_wp2_with fail
            go_ret
            exact ⟨rfl, BL⟩
          · clear hT'
            go_wp2_with fail
            refine (isBlank_any y _).mono ?_
            rintro e wq ⟨rfl, rfl⟩
            rw [b1]
            clear b1
            go_wp2_with fail
            go_ret
            exact ⟨rfl, BL⟩
        · have hri : ¬ (r : Int) < n := by omega
          clear hc hE
          generalize zs.getD pos 0 = z at *
          rcases hA with rfl | rfl
          · clear hT'
            go_wp2_with fail
            go_ret
            exact ⟨rfl, BL⟩
          · clear hT'
            go_wp2_with fail
            go_ret
            exact ⟨rfl, BL⟩

theorem core (p : Option Addr) (n cap : Nat) (zs : List Int) (pos k : Nat) (f : Bool) (w : World) (hr : Reads w p n zs) (hnil : p = none → n = 0) (hn : n ≤ 1048576) (hp : pos ≤ k) (hk : k ≤ n) :
    Calls Try.prog 5 #[.slice p n cap, .int .i64 pos, .int .i64 k, .bool f] w fun e w' => e = .returned (.bool true) ∧ Below w.heap.size w w' := by
  cases p with
  | none =>
    obtain rfl := hnil rfl
    obtain rfl : k = 0 := by omega
    obtain rfl : pos = 0 := by omega
    exact nil_way cap f zs w
  | some x => exact some_way x n cap zs pos k f w hr hn hp hk

set_option maxHeartbeats 1600000 in
set_option maxRecDepth 100000 in
theorem law_any (p : Option Addr) (n cap : Nat) (zs : List Int) (d k : Int) (f : Bool) (w : World) (hr : Reads w p n zs) (hnil : p = none → n = 0) :
    Calls Try.prog 5 #[.slice p n cap, .int .i64 d, .int .i64 k, .bool f] w fun e w' => e = .returned (.bool true) ∧ Below w.heap.size w w' := by
  by_cases hn : n ≤ 1048576
  · by_cases hd : 0 ≤ d ∧ d ≤ n ∧ d ≤ k ∧ k ≤ n
    · obtain ⟨m, rfl⟩ := Int.eq_ofNat_of_zero_le hd.1
      obtain ⟨l, rfl⟩ := Int.eq_ofNat_of_zero_le (show 0 ≤ k by omega)
      exact core p n cap zs m l f w hr hnil hn (by omega) (by omega)
    · have hnz : (n : Int) ≤ 1048576 := by omega
      have t1 : decide (1048576 < (n : Int)) = false := decide_eq_false (by omega)
      by_cases h1 : d < 0
      · have t2 : decide (d < 0) = true := decide_eq_true h1
        clear hd
        go_enter Try.func5, Try.ntmps5
        go_wp2_with fail
        refine (small5 p n cap d k f _ hn).mono ?_
        rintro e w0 ⟨rfl, rfl⟩
        go_wp2_with fail
        go_ret
        exact ⟨rfl, Below.refl _ _⟩
      · have t2 : decide (d < 0) = false := decide_eq_false h1
        by_cases h2 : (n : Int) < d
        · have t3 : decide ((n : Int) < d) = true := decide_eq_true h2
          clear hd h1
          go_enter Try.func5, Try.ntmps5
          go_wp2_with fail
          refine (small5 p n cap d k f _ hn).mono ?_
          rintro e w0 ⟨rfl, rfl⟩
          go_wp2_with fail
          go_ret
          exact ⟨rfl, Below.refl _ _⟩
        · have t3 : decide ((n : Int) < d) = false := decide_eq_false h2
          by_cases h3 : k < d
          · have t4 : decide (k < d) = true := decide_eq_true h3
            clear hd h1 h2
            go_enter Try.func5, Try.ntmps5
            go_wp2_with fail
            refine (small5 p n cap d k f _ hn).mono ?_
            rintro e w0 ⟨rfl, rfl⟩
            go_wp2_with fail
            go_ret
            exact ⟨rfl, Below.refl _ _⟩
          · have t4 : decide (k < d) = false := decide_eq_false h3
            have h4 : (n : Int) < k := by omega
            have t5 : decide ((n : Int) < k) = true := decide_eq_true h4
            clear hd h1 h2 h3
            go_enter Try.func5, Try.ntmps5
            go_wp2_with fail
            refine (small5 p n cap d k f _ hn).mono ?_
            rintro e w0 ⟨rfl, rfl⟩
            go_wp2_with fail
            go_ret
            exact ⟨rfl, Below.refl _ _⟩
  · go_enter Try.func5, Try.ntmps5
    go_wp2_with fail
    refine (great5 p n cap d k f _ hn).mono ?_
    rintro e w0 ⟨rfl, rfl⟩
    go_wp2_with fail
    go_ret
    exact ⟨rfl, Below.refl _ _⟩
end Go.Proofs.Qxb6614163a.CutWalk
