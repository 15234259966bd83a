/-
  The walk of FnSameTimeIsSymmetricInstantEquality (4).
-/
import Derived.Test.Qxb6613623aSame
namespace Go.Proofs.Qxb6613623a.SameWalk
open Go.RowKit Go.Proofs.Qxb6613623a.TimeW Go.Proofs.Qxb6613623a.SameW

theorem grown_drewN {W w' : World} (h : Grown W w') (q : Nat) : Grown W (w'.drewN q) := h
theorem grown_trans {a b c : World} (h : Grown a b) (k : Grown b c) : Grown a c :=
  ⟨World.keptBut_trans h.1 k.1, fun x => (k.2.1 x).trans (h.2.1 x), Nat.le_trans h.2.2 k.2.2⟩

/-- Block 'g' holds the instant 'd'. -/
structure Tm (w : World) (g : Nat) (d : Int) : Prop where
  c0 : w.cell? ⟨g, 0, none⟩ = some (.int .u64 (nanos d))
  c1 : w.cell? ⟨g, 1, none⟩ = some (.int .i64 (secs d))
  c2 : w.cell? ⟨g, 2, none⟩ = some (.pointer none)
theorem Tm.grown {w w' : World} {g : Nat} {d : Int} (h : Tm w g d) (k : Grown w w') : Tm w' g d := by
  have hb : g < w.heap.size := World.block_lt_of_cell? w _ h.c0
  exact ⟨(k.1.cell hb (fun f => f)).trans h.c0, (k.1.cell hb (fun f => f)).trans h.c1, (k.1.cell hb (fun f => f)).trans h.c2⟩

theorem timeAt' (d : Int) (w : World) (h : (Lit.int .i64 d).wf = true) :
    Calls Try.prog 9 #[.int .i64 d] w fun e w' => ∃ g, e = .returned (.pointer (some ⟨g, 0, none⟩)) ∧ Tm w' g d ∧ Grown w w' := by
  refine (timeAt d w h).mono ?_
  rintro e w' ⟨rfl, rfl⟩
  exact ⟨w.heap.size + 2, rfl, ⟨World.cell?_alloc_at _ _ _ _ (by simp), World.cell?_alloc_at _ _ _ _ (by simp), World.cell?_alloc_at _ _ _ _ (by simp)⟩, (((Grown.refl _).alloc _ _).alloc _ _).alloc _ _⟩

theorem zz_nn (w : World) : Calls Try.prog 10 #[.pointer none, .pointer none] w fun e w' => e = .returned (.bool true) ∧ Grown w w' := by
  go_enter Try.func10, Try.ntmps10
  go_wp2_with fail
  refine (same_nn _).mono ?_
  rintro e w1 ⟨rfl, q, rfl⟩
  go_wp2
  go_ret
  exact ⟨rfl, grown_drewN (Grown.refl _) q⟩
theorem zz_ns (a : Addr) (w : World) : Calls Try.prog 10 #[.pointer none, .pointer (some a)] w fun e w' => e = .returned (.bool false) ∧ Grown w w' := by
  go_enter Try.func10, Try.ntmps10
  go_wp2_with fail
  refine (same_ns a _).mono ?_
  rintro e w1 ⟨rfl, q, rfl⟩
  go_wp2
  go_ret
  exact ⟨rfl, grown_drewN (Grown.refl _) q⟩
theorem zz_sn (a : Addr) (w : World) : Calls Try.prog 10 #[.pointer (some a), .pointer none] w fun e w' => e = .returned (.bool false) ∧ Grown w w' := by
  go_enter Try.func10, Try.ntmps10
  go_wp2_with fail
  refine (same_sn a _).mono ?_
  rintro e w1 ⟨rfl, q, rfl⟩
  go_wp2
  go_ret
  exact ⟨rfl, grown_drewN (Grown.refl _) q⟩
theorem zz_ss (a b : Nat) (d1 d2 : Int) (w : World) (ha : Tm w a d1) (hb : Tm w b d2) :
    Calls Try.prog 10 #[.pointer (some ⟨a, 0, none⟩), .pointer (some ⟨b, 0, none⟩)] w fun e w' => e = .returned (.bool (d1 == d2)) ∧ Grown w w' := by
  go_enter Try.func10, Try.ntmps10
  go_wp2_with fail
  refine (same_ss a b d1 d2 _ ha.c0 ha.c1 ha.c2 hb.c0 hb.c1 hb.c2).mono ?_
  rintro e w1 ⟨rfl, hg⟩
  go_wp2
  go_ret
  exact ⟨rfl, hg⟩

set_option maxHeartbeats 1600000 in
theorem law_any (an : Bool) (d1 : Int) (bn : Bool) (d2 : Int) (h1 : (Lit.int .i64 d1).wf = true) (h2 : (Lit.int .i64 d2).wf = true) (w : World) :
    Calls Try.prog 4 #[.bool an, .int .i64 d1, .bool bn, .int .i64 d2] w fun e w' => e = .returned (.bool true) ∧ Grown w w' := by
  cases an
  all_goals cases bn
  all_goals
    go_enter Try.func4, Try.ntmps4
    go_wp2_with fail
    refine (timeAt' d1 _ h1).mono ?_
    rintro e w1 ⟨g1, rfl, t1, k1⟩
    go_wp2_with fail
    refine (timeAt' d1 _ h1).mono ?_
    rintro e w2 ⟨g2, rfl, t2, k2⟩
    go_wp2_with fail
    refine (timeAt' d2 _ h2).mono ?_
    rintro e w3 ⟨g3, rfl, t3, k3⟩
    have K := grown_trans (grown_trans k1 k2) k3
    have u1 := (t1.grown k2).grown k3
    have u2 := t2.grown k3
    clear t1 t2 k1 k2 k3
    go_wp2_with fail
  · refine (zz_ss _ _ _ _ _ u1 t3).mono ?_
    rintro e w4 ⟨rfl, k4⟩
    have v1 := u1.grown k4
    have v2 := u2.grown k4
    have v3 := t3.grown k4
    go_wp2_with fail
    refine (zz_ss _ _ _ _ _ v3 v1).mono ?_
    rintro e w5 ⟨rfl, k5⟩
    have x1 := v1.grown k5
    have x2 := v2.grown k5
    go_wp2_with fail
    refine (zz_ss _ _ _ _ _ x1 x2).mono ?_
    rintro e w6 ⟨rfl, k6⟩
    have hsym : (d2 == d1) = (d1 == d2) := by rw [Bool.eq_iff_iff, beq_iff_eq, beq_iff_eq]; exact eq_comm
    rw [hsym]
    clear hsym
    go_wp2_with fail
    go_ret
    exact ⟨rfl, grown_trans K (grown_trans (grown_trans k4 k5) k6)⟩
  · refine (zz_sn _ _).mono ?_
    rintro e w4 ⟨rfl, k4⟩
    go_wp2_with fail
    refine (zz_ns _ _).mono ?_
    rintro e w5 ⟨rfl, k5⟩
    have x1 := (u1.grown k4).grown k5
    have x2 := (u2.grown k4).grown k5
    go_wp2_with fail
    refine (zz_ss _ _ _ _ _ x1 x2).mono ?_
    rintro e w6 ⟨rfl, k6⟩
    go_wp2_with fail
    go_ret
    exact ⟨rfl, grown_trans K (grown_trans (grown_trans k4 k5) k6)⟩
  · refine (zz_ns _ _).mono ?_
    rintro e w4 ⟨rfl, k4⟩
    go_wp2_with fail
    refine (zz_sn _ _).mono ?_
    rintro e w5 ⟨rfl, k5⟩
    go_wp2_with fail
    refine (zz_nn _).mono ?_
    rintro e w6 ⟨rfl, k6⟩
    go_wp2_with fail
    go_ret
    exact ⟨rfl, grown_trans K (grown_trans (grown_trans k4 k5) k6)⟩
  · refine (zz_nn _).mono ?_
    rintro e w4 ⟨rfl, k4⟩
    go_wp2_with fail
    refine (zz_nn _).mono ?_
    rintro e w5 ⟨rfl, k5⟩
    go_wp2_with fail
    refine (zz_nn _).mono ?_
    rintro e w6 ⟨rfl, k6⟩
    go_wp2_with fail
    go_ret
    exact ⟨rfl, grown_trans K (grown_trans (grown_trans k4 k5) k6)⟩
end Go.Proofs.Qxb6613623a.SameWalk
