/-
  The contracts of (*parser).blanks (15), ZZblanks (10), zzIsBlank (11), the two bounds (9, 12).
-/
import Derived.Test.Qxb6614163aRows
import Derived.Test.Qxb6614163aRun
import Derived.WalkKit
import Derived.ProofKit
import Derived.Deep.QuietTactic
import Derived.BigQuiet
namespace Go.Proofs.Qxb6614163a.Blanks
open Go.RowKit Go.Proofs.Qxb6614163a.Run

theorem info48 : (Try.prog.info? 48).map (fun i => (i.zero.map (fun z => match z with | .agg cs => some (cs.size, cs[272]?, cs[276]?) | _ => none), i.size)) = some (some (some (301, some (.int .i64 0), some (.bool false))), 301) := by kernel_rfl
theorem parts48 : ∃ Z : Array Value, (∀ w, (zeroValue 48).run Try.prog w = .ok (.agg Z) w) ∧ Z.size = 301 ∧ Z[272]? = some (.int .i64 0) ∧ Z[276]? = some (.bool false) := by
  obtain ⟨i, hi, h⟩ := Option.map_eq_some_iff.1 info48
  simp only [Prod.mk.injEq] at h
  obtain ⟨z, hz, h2⟩ := Option.map_eq_some_iff.1 h.1
  cases z <;> simp at h2
  rename_i cs
  exact ⟨cs, fun w => by simp [zeroValue, typeInfo, hi, hz], h2.1, h2.2.1, h2.2.2⟩

set_option maxHeartbeats 1000000 in
theorem blanks_some (b g o n cap pos : Nat) (t0 : Bool) (zs : List Int) (w : World) (hn : n ≤ 1048576) (hp : pos ≤ n)
    (s0 : w.cell? ⟨b, 270, none⟩ = some (.slice (some ⟨g, o, none⟩) n cap)) (c0 : w.cell? ⟨b, 272, none⟩ = some (.int .i64 pos)) (c1 : w.cell? ⟨b, 276, none⟩ = some (.bool t0))
    (f0 : w.frozen? ⟨b, 272, none⟩ = false) (f1 : w.frozen? ⟨b, 276, none⟩ = false) (hc : ∀ i, i < n → w.cell? ⟨g, o + i, none⟩ = some (.int .u8 (zs.getD i 0))) :
    Calls Try.prog 15 #[.pointer (some ⟨b, 0, none⟩)] w fun e w' => e = .returned (.tuple #[]) ∧ ∃ r, RunEnds zs n pos r ∧ (w.setCell ⟨b, 272, none⟩ (.int .i64 (r : Nat))).setCell ⟨b, 276, none⟩ (.bool (tabB zs pos r)) = w' := by
  go_enter Try.func15, Try.ntmps15
  go_wp2
  go_step3
  go_wp2
  go_step3
  go_wp2
  go_loop [2, 3] (fun x y => ∃ i : Nat, pos ≤ i ∧ i ≤ n ∧ x = .int .i64 i ∧ y = .bool (tabB zs pos i) ∧ Blank zs pos i) (fun x _ => n - (intOf x).toNat)
  case atStart => exact ⟨pos, Nat.le_refl _, hp, rfl, by rw [tab_refl], Blank.refl _ _⟩
  case round =>
    obtain ⟨i, h1, h2, rfl, rfl, hB⟩ := hrel
    by_cases hlt : i < n
    · have hz : (i : Int) < n := by omega
      have hci := hc i hlt
      clear hc
      generalize hv : zs.getD i 0 = z at *
      have HV : Hid (zs.getD i 0 = z) := hv
      clear hv
      by_cases e1 : z = 32
      · subst e1
        have HT : Hid (tabB zs pos (i + 1) = tabB zs pos i) := tab_no zs h1 (by rw [HV.out]; decide)
        have HB : Hid (Blank zs pos (i + 1)) := hB.succ (.inl HV.out)
        clear hB
        go_wp2
        go_round
        case rel => exact ⟨i + 1, by omega, by omega, by go_num, by rw [HT.out], HB.out⟩
        case measure => simp [intOf]; omega
      · by_cases e2 : z = 9
        · subst e2
          have HT : Hid (tabB zs pos (i + 1) = true) := tab_yes zs h1 HV.out
          have HB : Hid (Blank zs pos (i + 1)) := hB.succ (.inr HV.out)
          clear hB e1
          go_wp2
          go_round
          case rel => exact ⟨i + 1, by omega, by omega, by go_num, by rw [HT.out], HB.out⟩
          case measure => simp [intOf]; omega
        · have b1 : (z == 32) = false := beq_eq_false_iff_ne.2 e1
          have b2 : (z == 9) = false := beq_eq_false_iff_ne.2 e2
          have HE : Hid (RunEnds zs n pos i) := ⟨h1, h2, hB, fun _ => by rw [HV.out]; exact ⟨e1, e2⟩⟩
          clear hB e1 e2
          go_wp2
          go_end0
          exact ⟨rfl, i, HE.out, rfl⟩
    · have HE : Hid (RunEnds zs n pos i) := ⟨h1, h2, hB, fun h => by omega⟩
      clear hB hc
      go_wp2
      go_end0
      exact ⟨rfl, i, HE.out, rfl⟩

theorem blanks_zero (b cap : Nat) (ao : Option Addr) (t0 : Bool) (zs : List Int) (w : World)
    (s0 : w.cell? ⟨b, 270, none⟩ = some (.slice ao 0 cap)) (c0 : w.cell? ⟨b, 272, none⟩ = some (.int .i64 (0 : Nat))) (c1 : w.cell? ⟨b, 276, none⟩ = some (.bool t0))
    (f0 : w.frozen? ⟨b, 272, none⟩ = false) (f1 : w.frozen? ⟨b, 276, none⟩ = false) :
    Calls Try.prog 15 #[.pointer (some ⟨b, 0, none⟩)] w fun e w' => e = .returned (.tuple #[]) ∧ ∃ r, RunEnds zs 0 0 r ∧ (w.setCell ⟨b, 272, none⟩ (.int .i64 (r : Nat))).setCell ⟨b, 276, none⟩ (.bool (tabB zs 0 r)) = w' := by
  have HE : Hid (RunEnds zs 0 0 0) := ⟨Nat.le_refl _, Nat.le_refl _, Blank.refl _ _, fun h => by omega⟩
  have HT : Hid (tabB zs 0 0 = false) := tab_refl zs 0
  go_enter Try.func15, Try.ntmps15
  go_wp2
  go_step3
  go_wp2
  go_step3
  go_wp2
  go_loop [2, 3] (fun x y => x = .int .i64 0 ∧ y = .bool false) (fun _ _ => 0)
  case atStart => exact ⟨rfl, rfl⟩
  case round =>
    obtain ⟨rfl, rfl⟩ := hrel
    go_wp2
    go_end0
    exact ⟨rfl, 0, HE.out, by rw [HT.out]; rfl⟩

set_option maxHeartbeats 1000000 in
set_option maxRecDepth 100000 in
theorem zzBlanks (ao : Option Addr) (n cap pos : Nat) (t : Bool) (zs : List Int) (w : World) (hr : Reads w ao n zs) (hn : n ≤ 1048576) (hp : pos ≤ n) :
    Calls Try.prog 10 #[.slice ao n cap, .int .i64 pos, .bool t] w fun e w' => ∃ r : Nat, e = .returned (.tuple #[.int .i64 r, .bool (tabB zs pos r)]) ∧ RunEnds zs n pos r ∧ Below w.heap.size w w' := by
  obtain ⟨Z, hz, hs, z1, z2⟩ := parts48
  go_enter Try.func10, Try.ntmps10
  go_wp2_with fail
  have B0 : Below w.heap.size w (w.alloc (.cells (((Z.setIfInBounds 270 (.slice ao n cap)).setIfInBounds 272 (.int .i64 pos)).setIfInBounds 276 (.bool t)) 48)) := (Below.refl _ _).alloc (Nat.le_refl _) _
  have k0 : (w.alloc (.cells (((Z.setIfInBounds 270 (.slice ao n cap)).setIfInBounds 272 (.int .i64 pos)).setIfInBounds 276 (.bool t)) 48)).cell? ⟨w.heap.size, 270, none⟩ = some (.slice ao n cap) := by
    rw [World.cell?_alloc_new]; simp [hs]
  have k1 : (w.alloc (.cells (((Z.setIfInBounds 270 (.slice ao n cap)).setIfInBounds 272 (.int .i64 pos)).setIfInBounds 276 (.bool t)) 48)).cell? ⟨w.heap.size, 272, none⟩ = some (.int .i64 pos) := by
    rw [World.cell?_alloc_new]; simp [hs]
  have k2 : (w.alloc (.cells (((Z.setIfInBounds 270 (.slice ao n cap)).setIfInBounds 272 (.int .i64 pos)).setIfInBounds 276 (.bool t)) 48)).cell? ⟨w.heap.size, 276, none⟩ = some (.bool t) := by
    rw [World.cell?_alloc_new]; simp [hs]
  have kf : ∀ o, (w.alloc (.cells (((Z.setIfInBounds 270 (.slice ao n cap)).setIfInBounds 272 (.int .i64 pos)).setIfInBounds 276 (.bool t)) 48)).frozen? ⟨w.heap.size, o, none⟩ = false := fun o => World.frozen?_alloc_new _ _ _ _
  clear hz hs z1 z2
  generalize w.alloc (.cells (((Z.setIfInBounds 270 (.slice ao n cap)).setIfInBounds 272 (.int .i64 pos)).setIfInBounds 276 (.bool t)) 48) = w1 at *
  have hr1 := hr.below B0 rfl
  have C : Calls Try.prog 15 #[.pointer (some ⟨w.heap.size, 0, none⟩)] w1 fun e w' => e = .returned (.tuple #[]) ∧ ∃ r, RunEnds zs n pos r ∧ (w1.setCell ⟨w.heap.size, 272, none⟩ (.int .i64 (r : Nat))).setCell ⟨w.heap.size, 276, none⟩ (.bool (tabB zs pos r)) = w' := by
    rcases hr1.2 with rfl | ⟨g, o, rfl, hc⟩
    · obtain rfl : pos = 0 := by omega
      exact blanks_zero _ cap ao t zs w1 k0 k1 k2 (kf 272) (kf 276)
    · exact blanks_some _ g o n cap pos t zs w1 hn hp k0 k1 k2 (kf 272) (kf 276) hc
  refine C.mono ?_
  clear C
  rintro e w2 ⟨rfl, r, hE, rfl⟩
  have m1 : ((w1.setCell ⟨w.heap.size, 272, none⟩ (.int .i64 (r : Nat))).setCell ⟨w.heap.size, 276, none⟩ (.bool (tabB zs pos r))).cell? ⟨w.heap.size, 272, none⟩ = some (.int .i64 r) := by
    rw [World.cell?_setCell_other _ _ _ _ (by simp), World.cell?_setCell_same _ _ _ k1]
  have m2 : ((w1.setCell ⟨w.heap.size, 272, none⟩ (.int .i64 (r : Nat))).setCell ⟨w.heap.size, 276, none⟩ (.bool (tabB zs pos r))).cell? ⟨w.heap.size, 276, none⟩ = some (.bool (tabB zs pos r)) := by
    refine World.cell?_setCell_same (u := .bool t) _ _ _ ?_
    rw [World.cell?_setCell_other _ _ _ _ (by simp)]
    exact k2
  have B2 := (B0.setCell (p := ⟨w.heap.size, 272, none⟩) (Nat.le_refl _) (.int .i64 (r : Nat))).setCell (p := ⟨w.heap.size, 276, none⟩) (Nat.le_refl _) (.bool (tabB zs pos r))
  generalize (w1.setCell ⟨w.heap.size, 272, none⟩ (.int .i64 (r : Nat))).setCell ⟨w.heap.size, 276, none⟩ (.bool (tabB zs pos r)) = w2 at *
  clear k0 k1 k2 kf B0 hr1
  go_wp2_with fail
  go_quiet (fail)
  go_wp2
  go_ret2
  exact ⟨r, rfl, hE, B2.os, B2.tape, B2.output, B2.size, B2.block⟩

theorem isBlank_any (c : Int) (w : World) : Calls Try.prog 11 #[.int .u8 c] w fun e w' => e = .returned (.bool ((c == 32) || (c == 9))) ∧ w' = w := by
  cases h : (c == 32)
  · go_enter Try.func11, Try.ntmps11
    go_wp2
    go_ret
    exact ⟨rfl, rfl⟩
  · go_enter Try.func11, Try.ntmps11
    go_wp2
    go_ret
    exact ⟨rfl, rfl⟩
theorem small4 (ao : Option Addr) (n cap : Nat) (d : Int) (f : Bool) (w : World) (h : n ≤ 1048576) :
    Calls Try.prog 9 #[.slice ao n cap, .int .i64 d, .bool f] w fun e w' => e = .returned (.bool true) ∧ w' = w := by
  have hz : ¬ 1048576 < (n : Int) := by omega
  go_enter Try.func9, Try.ntmps9
  go_wp2
  go_ret
  exact ⟨rfl, rfl⟩
theorem great4 (ao : Option Addr) (n cap : Nat) (d : Int) (f : Bool) (w : World) (h : ¬ n ≤ 1048576) :
    Calls Try.prog 9 #[.slice ao n cap, .int .i64 d, .bool f] w fun e w' => e = .returned (.bool false) ∧ w' = w := by
  have hz : 1048576 < (n : Int) := by omega
  go_enter Try.func9, Try.ntmps9
  go_wp2
  go_ret
  exact ⟨rfl, rfl⟩
theorem small5 (ao : Option Addr) (n cap : Nat) (d k : Int) (f : Bool) (w : World) (h : n ≤ 1048576) :
    Calls Try.prog 12 #[.slice ao n cap, .int .i64 d, .int .i64 k, .bool f] w fun e w' => e = .returned (.bool true) ∧ w' = w := by
  have hz : ¬ 1048576 < (n : Int) := by omega
  go_enter Try.func12, Try.ntmps12
  go_wp2
  go_ret
  exact ⟨rfl, rfl⟩
theorem great5 (ao : Option Addr) (n cap : Nat) (d k : Int) (f : Bool) (w : World) (h : ¬ n ≤ 1048576) :
    Calls Try.prog 12 #[.slice ao n cap, .int .i64 d, .int .i64 k, .bool f] w fun e w' => e = .returned (.bool false) ∧ w' = w := by
  have hz : 1048576 < (n : Int) := by omega
  go_enter Try.func12, Try.ntmps12
  go_wp2
  go_ret
  exact ⟨rfl, rfl⟩
end Go.Proofs.Qxb6614163a.Blanks
