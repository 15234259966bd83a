/-
  The contracts of ZZtimeAt (9), sameTime (13), ZZsameTime (10).
-/
import Derived.Test.Qxb6613623aTime
import Derived.Deep.QuietTactic
import Derived.Deep.RegionWith
import Derived.BigQuiet
import Derived.Deep.RegionHeld3
import Derived.Deep.DrawnRows
namespace Go.Proofs.Qxb6613623a.SameW
open Go.RowKit Go.Proofs.Qxb6613623a.TimeW

theorem timeAt (d : Int) (w : World) (h : (Lit.int .i64 d).wf = true) :
    Calls Try.prog 9 #[.int .i64 d] w fun e w' => e = .returned (.pointer (some ⟨w.heap.size + 2, 0, none⟩)) ∧
      ((w.alloc (.cells #[.int .u64 (nanos d), .int .i64 (secs d), .pointer none] 37)).alloc (.cells #[.int .u64 (nanos d), .int .i64 (secs d), .pointer none] 37)).alloc (.cells #[.int .u64 (nanos d), .int .i64 (secs d), .pointer none] 37) = w' := by
  go_enter Try.func9, Try.ntmps9
  go_wp2_with fail
  refine (add_any d _ h).mono ?_
  rintro e w1 ⟨rfl, rfl⟩
  go_wp2_with fail
  go_ret
  exact ⟨rfl, rfl⟩

theorem same_nn (w : World) : Calls Try.prog 13 #[.pointer none, .pointer none] w fun e w' => e = .returned (.bool true) ∧ ∃ q, w' = w.drewN q := by
  go_enter Try.func13, Try.ntmps13
  go_wp2
  go_quiet (fail)
  go_wp2
  go_ret
  exact ⟨rfl, _, rfl⟩
theorem same_ns (a : Addr) (w : World) : Calls Try.prog 13 #[.pointer none, .pointer (some a)] w fun e w' => e = .returned (.bool false) ∧ ∃ q, w' = w.drewN q := by
  go_enter Try.func13, Try.ntmps13
  go_wp2
  go_quiet (fail)
  go_wp2
  go_ret
  exact ⟨rfl, _, rfl⟩
theorem same_sn (a : Addr) (w : World) : Calls Try.prog 13 #[.pointer (some a), .pointer none] w fun e w' => e = .returned (.bool false) ∧ ∃ q, w' = w.drewN q := by
  go_enter Try.func13, Try.ntmps13
  go_wp2
  go_quiet (fail)
  go_wp2
  go_ret
  exact ⟨rfl, _, rfl⟩
theorem take' {P : Program} {ops : Array Oper} {Q : Exit → Act → World → Prop} {md : Region.Mode} {S : World → Prop} {oi : Oper} (i : Nat) (d : Option Tmp) (v : Value) {fuel : Nat} {listed : Array Bool} {a : Act} {w : World} (hi : ops[i]? = some oi) (hd : oi.dst = d)
    (hs : Region.noSelect ops = true) (hf : Region.free md ops listed i = true) (hr : (Region.ready md ops listed).contains i = true)
    (hQ : ∀ c a w, Q (.panic c) (a.put d v) w → Q (.panic c) a w) (hy : YieldsIf P ops S oi v a) (hS : S w)
    (h : wpAnyH P md ops Q S fuel (listed.setIfInBounds i true) (a.put d v) w) : wpAnyH P md ops Q S (fuel + 1) listed a w := by
  subst hd
  exact wpAnyH_take hi hs hf hr hQ hy hS h

theorem call' {P : Program} {ops : Array Oper} {Q : Exit → Act → World → Prop} {md : Region.Mode} {S : World → Prop} {oi : Oper} (i : Nat) (d : Option Tmp) (f : Nat) (args : Array Value) {fuel : Nat} {listed : Array Bool} {a : Act} {w : World} (hi : ops[i]? = some oi) (hd : oi.dst = d)
    (hr : Region.ready md ops listed = [i]) (hw : Region.wanted oi (yielded ops a.tmps) = true) (hrun : (execOp a.eval oi).run P w = .ok (.enter f args) w)
    (h : Calls P f args w fun e w' => ∃ u, e = .returned u ∧ S w' ∧ wpAnyH P md ops Q S fuel (listed.setIfInBounds i true) (a.put d u) w') : wpAnyH P md ops Q S (fuel + 1) listed a w := by
  subst hd
  refine wpAnyH_all hr (by simp) (fun j hj => ?_)
  obtain rfl : j = i := by simpa using hj
  unfold wpOp
  simp only [hi, hw, if_true]
  refine .inl ?_
  unfold Oper.wp
  rw [hrun]
  simp only [Oper.upon]
  refine h.mono ?_
  rintro e w' ⟨u, rfl, h1, h2⟩
  exact ⟨h1, h2⟩

set_option maxHeartbeats 800000 in
theorem same_ss (a b : Nat) (d1 d2 : Int) (w : World) (a0 : w.cell? ⟨a, 0, none⟩ = some (.int .u64 (nanos d1))) (a1 : w.cell? ⟨a, 1, none⟩ = some (.int .i64 (secs d1))) (a2 : w.cell? ⟨a, 2, none⟩ = some (.pointer none))
    (b0 : w.cell? ⟨b, 0, none⟩ = some (.int .u64 (nanos d2))) (b1 : w.cell? ⟨b, 1, none⟩ = some (.int .i64 (secs d2))) (b2 : w.cell? ⟨b, 2, none⟩ = some (.pointer none)) :
    Calls Try.prog 13 #[.pointer (some ⟨a, 0, none⟩), .pointer (some ⟨b, 0, none⟩)] w fun e w' => e = .returned (.bool (d1 == d2)) ∧ Grown w w' := by
  have h1 := nanos_bd d1
  have h2 := nanos_bd d2
  go_enter Try.func13, Try.ntmps13
  go_wp2
  refine wp_region_held_drew (S := fun w' => w'.cell? ⟨a, 0, none⟩ = some (.int .u64 (nanos d1)) ∧ w'.cell? ⟨a, 1, none⟩ = some (.int .i64 (secs d1)) ∧ w'.cell? ⟨a, 2, none⟩ = some (.pointer none) ∧ w'.cell? ⟨b, 0, none⟩ = some (.int .u64 (nanos d2)) ∧ w'.cell? ⟨b, 1, none⟩ = some (.int .i64 (secs d2)) ∧ w'.cell? ⟨b, 2, none⟩ = some (.pointer none)) (by kernel_rfl) ⟨a0, a1, a2, b0, b1, b2⟩ (fun hS => ?_)
  refine take' 0 (some 5) (.pointer (some ⟨a, 0, none⟩)) rfl rfl (by kernel_rfl) (by kernel_rfl) (by kernel_rfl) (fun _ _ _ h => h) (.inl ⟨rfl, fun _ _ => rfl⟩) hS ?_
  simp only [Act.put, List.setIfInBounds_toArray, List.set_cons_zero, List.set_cons_succ]
  refine take' 1 (some 6) (.bool false) rfl rfl (by kernel_rfl) (by kernel_rfl) (by kernel_rfl) (fun _ _ _ h => h) (.inl ⟨rfl, fun _ _ => by go_simp⟩) hS ?_
  simp only [Act.put, List.setIfInBounds_toArray, List.set_cons_zero, List.set_cons_succ]
  refine take' 2 (some 7) (.bool false) rfl rfl (by kernel_rfl) (by kernel_rfl) (by kernel_rfl) (fun _ _ _ h => h) (.inl ⟨rfl, fun _ _ => rfl⟩) hS ?_
  simp only [Act.put, List.setIfInBounds_toArray, List.set_cons_zero, List.set_cons_succ]
  refine take' 3 (some 8) (undef) rfl rfl (by kernel_rfl) (by kernel_rfl) (by kernel_rfl) (fun _ _ _ h => h) (.inr ⟨rfl, rfl⟩) hS ?_
  simp only [Act.put, List.setIfInBounds_toArray, List.set_cons_zero, List.set_cons_succ]
  refine take' 4 (some 9) (undef) rfl rfl (by kernel_rfl) (by kernel_rfl) (by kernel_rfl) (fun _ _ _ h => h) (.inr ⟨rfl, rfl⟩) hS ?_
  simp only [Act.put, List.setIfInBounds_toArray, List.set_cons_zero, List.set_cons_succ]
  refine take' 5 (some 10) (.bool false) rfl rfl (by kernel_rfl) (by kernel_rfl) (by kernel_rfl) (fun _ _ _ h => h) (.inl ⟨rfl, fun _ _ => by go_simp⟩) hS ?_
  simp only [Act.put, List.setIfInBounds_toArray, List.set_cons_zero, List.set_cons_succ]
  refine take' 6 (some 11) (.bool false) rfl rfl (by kernel_rfl) (by kernel_rfl) (by kernel_rfl) (fun _ _ _ h => h) (.inl ⟨rfl, fun _ _ => rfl⟩) hS ?_
  simp only [Act.put, List.setIfInBounds_toArray, List.set_cons_zero, List.set_cons_succ]
  refine take' 7 (some 12) (.pointer (some ⟨a, 0, none⟩)) rfl rfl (by kernel_rfl) (by kernel_rfl) (by kernel_rfl) (fun _ _ _ h => h) (.inl ⟨rfl, fun _ _ => rfl⟩) hS ?_
  simp only [Act.put, List.setIfInBounds_toArray, List.set_cons_zero, List.set_cons_succ]
  refine take' 8 (some 13) (.bool true) rfl rfl (by kernel_rfl) (by kernel_rfl) (by kernel_rfl) (fun _ _ _ h => h) (.inl ⟨rfl, fun _ _ => by go_simp⟩) hS ?_
  simp only [Act.put, List.setIfInBounds_toArray, List.set_cons_zero, List.set_cons_succ]
  refine take' 9 (some 14) (.bool true) rfl rfl (by kernel_rfl) (by kernel_rfl) (by kernel_rfl) (fun _ _ _ h => h) (.inl ⟨rfl, fun _ _ => rfl⟩) hS ?_
  simp only [Act.put, List.setIfInBounds_toArray, List.set_cons_zero, List.set_cons_succ]
  refine take' 10 (some 15) (.pointer (some ⟨b, 0, none⟩)) rfl rfl (by kernel_rfl) (by kernel_rfl) (by kernel_rfl) (fun _ _ _ h => h) (.inl ⟨rfl, fun _ _ => rfl⟩) hS ?_
  simp only [Act.put, List.setIfInBounds_toArray, List.set_cons_zero, List.set_cons_succ]
  refine take' 11 (some 16) (.bool true) rfl rfl (by kernel_rfl) (by kernel_rfl) (by kernel_rfl) (fun _ _ _ h => h) (.inl ⟨rfl, fun _ _ => by go_simp⟩) hS ?_
  simp only [Act.put, List.setIfInBounds_toArray, List.set_cons_zero, List.set_cons_succ]
  refine take' 12 (some 17) (.bool true) rfl rfl (by kernel_rfl) (by kernel_rfl) (by kernel_rfl) (fun _ _ _ h => h) (.inl ⟨rfl, fun _ _ => by go_simp⟩) hS ?_
  simp only [Act.put, List.setIfInBounds_toArray, List.set_cons_zero, List.set_cons_succ]
  refine take' 13 (some 18) (.bool true) rfl rfl (by kernel_rfl) (by kernel_rfl) (by kernel_rfl) (fun _ _ _ h => h) (.inl ⟨rfl, fun _ _ => rfl⟩) hS ?_
  simp only [Act.put, List.setIfInBounds_toArray, List.set_cons_zero, List.set_cons_succ]
  refine take' 14 (some 19) (.pointer (some ⟨a, 0, none⟩)) rfl rfl (by kernel_rfl) (by kernel_rfl) (by kernel_rfl) (fun _ _ _ h => h) (.inl ⟨rfl, fun _ _ => rfl⟩) hS ?_
  simp only [Act.put, List.setIfInBounds_toArray, List.set_cons_zero, List.set_cons_succ]
  refine take' 15 (some 20) (.pointer (some ⟨a, 0, none⟩)) rfl rfl (by kernel_rfl) (by kernel_rfl) (by kernel_rfl) (fun _ _ _ h => h) (.inl ⟨rfl, fun _ _ => by go_simp⟩) hS ?_
  simp only [Act.put, List.setIfInBounds_toArray, List.set_cons_zero, List.set_cons_succ]
  refine take' 16 (some 21) (.agg #[.int .u64 (nanos d1), .int .i64 (secs d1), .pointer none]) rfl rfl (by kernel_rfl) (by kernel_rfl) (by kernel_rfl) (fun _ _ _ h => h) (.inl ⟨rfl, fun _ ⟨x0, x1, x2, y0, y1, y2⟩ => by go_simp⟩) hS ?_
  simp only [Act.put, List.setIfInBounds_toArray, List.set_cons_zero, List.set_cons_succ]
  refine take' 17 (some 22) (.pointer (some ⟨b, 0, none⟩)) rfl rfl (by kernel_rfl) (by kernel_rfl) (by kernel_rfl) (fun _ _ _ h => h) (.inl ⟨rfl, fun _ _ => rfl⟩) hS ?_
  simp only [Act.put, List.setIfInBounds_toArray, List.set_cons_zero, List.set_cons_succ]
  refine take' 18 (some 23) (.pointer (some ⟨b, 0, none⟩)) rfl rfl (by kernel_rfl) (by kernel_rfl) (by kernel_rfl) (fun _ _ _ h => h) (.inl ⟨rfl, fun _ _ => by go_simp⟩) hS ?_
  simp only [Act.put, List.setIfInBounds_toArray, List.set_cons_zero, List.set_cons_succ]
  refine take' 19 (some 24) (.agg #[.int .u64 (nanos d2), .int .i64 (secs d2), .pointer none]) rfl rfl (by kernel_rfl) (by kernel_rfl) (by kernel_rfl) (fun _ _ _ h => h) (.inl ⟨rfl, fun _ ⟨x0, x1, x2, y0, y1, y2⟩ => by go_simp⟩) hS ?_
  simp only [Act.put, List.setIfInBounds_toArray, List.set_cons_zero, List.set_cons_succ]
  refine call' 20 (some 25) 18 #[.agg #[.int .u64 (nanos d1), .int .i64 (secs d1), .pointer none], .agg #[.int .u64 (nanos d2), .int .i64 (secs d2), .pointer none]] rfl rfl (by kernel_rfl) rfl (by go_simp) ?_
  refine (equal_any (nanos d1) (secs d1) (nanos d2) (secs d2) _ h1.1 h1.2 h2.1 h2.2).mono ?_
  rintro e w1 ⟨rfl, rfl⟩
  have hB : (secs d1 == secs d2 && nanos d1 == nanos d2) = (d1 == d2) := same_iff d1 d2
  rw [hB]
  have hS' : (fun w' : World => w'.cell? ⟨a, 0, none⟩ = some (.int .u64 (nanos d1)) ∧ w'.cell? ⟨a, 1, none⟩ = some (.int .i64 (secs d1)) ∧ w'.cell? ⟨a, 2, none⟩ = some (.pointer none) ∧ w'.cell? ⟨b, 0, none⟩ = some (.int .u64 (nanos d2)) ∧ w'.cell? ⟨b, 1, none⟩ = some (.int .i64 (secs d2)) ∧ w'.cell? ⟨b, 2, none⟩ = some (.pointer none))
      ((w.drew.alloc (.cells #[.int .u64 (nanos d1), .int .i64 (secs d1), .pointer none] 37)).alloc (.cells #[.int .u64 (nanos d2), .int .i64 (secs d2), .pointer none] 37)) := by
    simp [*, World.cell?_alloc_some]
  refine ⟨_, rfl, hS', ?_⟩
  simp only [Act.put, List.setIfInBounds_toArray, List.set_cons_zero, List.set_cons_succ]
  refine take' 21 (some 26) (.bool (d1 == d2)) rfl rfl (by kernel_rfl) (by kernel_rfl) (by kernel_rfl) (fun _ _ _ h => h) (.inl ⟨rfl, fun _ _ => by go_simp⟩) hS' ?_
  simp only [Act.put, List.setIfInBounds_toArray, List.set_cons_zero, List.set_cons_succ]
  refine take' 22 (some 27) (.bool (d1 == d2)) rfl rfl (by kernel_rfl) (by kernel_rfl) (by kernel_rfl) (fun _ _ _ h => h) (.inl ⟨rfl, fun _ _ => by go_simp⟩) hS' ?_
  simp only [Act.put, List.setIfInBounds_toArray, List.set_cons_zero, List.set_cons_succ]
  refine take' 23 (some 4) (.bool (d1 == d2)) rfl rfl (by kernel_rfl) (by kernel_rfl) (by kernel_rfl) (fun _ _ _ h => h) (.inl ⟨rfl, fun _ _ => rfl⟩) hS' ?_
  simp only [Act.put, List.setIfInBounds_toArray, List.set_cons_zero, List.set_cons_succ]
  refine wpAnyH_done (by kernel_rfl) ?_ _
  go_wp2
  go_ret
  exact ⟨rfl, (((Grown.refl w).drew).alloc _ _).alloc _ _⟩
end Go.Proofs.Qxb6613623a.SameW
