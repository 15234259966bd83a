/-
  The walk of FnAvailableOrdersAsHoldsWhileInRange (3).
-/
import Derived.Test.Qxb6613623aParty
namespace Go.Proofs.Qxb6613623a.PartyWalk
open Go.RowKit Go.Proofs.Qxb6613623a.Party

theorem grown_drewN {W w' : World} (h : Grown W w') (q : Nat) : Grown W (w'.drewN q) := h

theorem tests {b h k a a2 : Int} (wb : (Lit.int .i64 b).wf = true) (wh : (Lit.int .i64 h).wf = true) (wk : (Lit.int .i64 k).wf = true) (hf : fitsB (b - h) = true) (hf2 : fitsB (b - k) = true)
    (ha : wrap64 (b - h) = a) (ha2 : wrap64 (b - k) = a2) :
    (wrap64 (a + h) == b) = true ∧ (decide (a ≤ b) == decide (0 ≤ h)) = true ∧ (decide (0 ≤ a) == decide (h ≤ b)) = true ∧ (decide (a2 ≤ a) == decide (h ≤ k)) = true := by
  have bb := bounds_i64 wb
  have bh := bounds_i64 wh
  have bk := bounds_i64 wk
  simp only [fitsB, Bool.and_eq_true, decide_eq_true_eq] at hf hf2
  rw [IntWalk.wrap64_in _ hf] at ha
  rw [IntWalk.wrap64_in _ hf2] at ha2
  subst ha ha2
  refine ⟨?_, ?_, ?_, ?_⟩
  · rw [IntWalk.wrap64_in _ (by omega)]; simp
  · rw [beq_iff_eq, Bool.eq_iff_iff, decide_eq_true_eq, decide_eq_true_eq]; omega
  · rw [beq_iff_eq, Bool.eq_iff_iff, decide_eq_true_eq, decide_eq_true_eq]; omega
  · rw [beq_iff_eq, Bool.eq_iff_iff, decide_eq_true_eq, decide_eq_true_eq]; omega

set_option maxHeartbeats 800000 in
theorem law_any (i : Int) (s t : ByteArray) (n : Bool) (b h k : Int) (hs : s.size ≤ maxLen) (ht : t.size ≤ maxLen) (wb : (Lit.int .i64 b).wf = true) (wh : (Lit.int .i64 h).wf = true) (wk : (Lit.int .i64 k).wf = true) (w : World) :
    Calls Try.prog 3 #[.int .i64 i, .string s, .string t, .bool n, .int .i64 b, .int .i64 h, .int .i64 k] w fun e w' => e = .returned (.bool true) ∧ Grown w w' := by
  go_enter Try.func3, Try.ntmps3
  go_wp2_with fail
  refine (zzSize i s t n b h k _ hs ht).mono ?_
  rintro e w0 ⟨⟨x, rfl⟩, rfl⟩
  cases x
  · go_wp2_with fail
    go_ret
    exact ⟨rfl, Grown.refl _⟩
  go_wp2_with fail
  · go_ret
    exact ⟨rfl, Grown.refl _⟩
  · go_ret
    exact ⟨rfl, Grown.refl _⟩
  refine (subFits_any b h _ wb wh).mono ?_
  rintro e w1 ⟨rfl, rfl⟩
  cases hf : fitsB (b - h)
  · go_wp2_with fail
    go_ret
    exact ⟨rfl, Grown.refl _⟩
  go_wp2_with fail
  refine (subFits_any b k _ wb wk).mono ?_
  rintro e w2 ⟨rfl, rfl⟩
  cases hf2 : fitsB (b - k)
  · go_wp2_with fail
    go_ret
    exact ⟨rfl, Grown.refl _⟩
  go_wp2_with fail
  refine (newParty i s t n b h _).mono ?_
  rintro e w3 ⟨rfl, rfl⟩
  go_wp2_with fail
  refine (newParty i s t n b k _).mono ?_
  rintro e w4 ⟨rfl, rfl⟩
  go_wp2_with fail
  refine (zzAvailable _ b h _ (by simp) (by simp)).mono ?_
  rintro e w5 ⟨rfl, q1, rfl⟩
  generalize hA : wrap64 (b - h) = a
  have HA : Hid (wrap64 (b - h) = a) := hA
  clear hA
  go_wp2_with fail
  refine (zzAvailable _ b k _ (by simp) (by simp)).mono ?_
  rintro e w6 ⟨rfl, q2, rfl⟩
  generalize hA2 : wrap64 (b - k) = a2
  have HA2 : Hid (wrap64 (b - k) = a2) := hA2
  clear hA2
  have T := tests wb wh wk hf hf2 HA.out HA2.out
  obtain ⟨t1, t2, t3, t4⟩ := T
  clear hf hf2
  go_wp2_with fail
  go_ret
  exact ⟨rfl, grown_drewN (grown_drewN (((Grown.refl _).alloc _ _).alloc _ _) q1) q2⟩
end Go.Proofs.Qxb6613623a.PartyWalk
