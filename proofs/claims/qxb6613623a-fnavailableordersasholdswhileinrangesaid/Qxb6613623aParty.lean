/-
  The contracts on the road of FnAvailableOrdersAsHoldsWhileInRange: subFits (6), ZZnewParty (7), available (11), ZZavailable (8), zzBytes (5).
-/
import Derived.Test.Qxb6613623aRows
import Derived.WalkKit
import Derived.ProofKit
import Derived.OpenShut
import Derived.Deep.QuietTactic
import Derived.BigQuiet
namespace Go.Proofs.Qxb6613623a.Party
open Go.RowKit

theorem ret_bool {a b : Bool} (h : a = b) : Ending.returned (.bool a) = .returned (.bool b) := by rw [h]
theorem ret_int {k : IntKind} {a b : Int} (h : a = b) : Ending.returned (.int k a) = .returned (.int k b) := by rw [h]

/-- Does an int64 hold 'x'? -/
def fitsB (x : Int) : Bool := decide (-9223372036854775808 ≤ x) && decide (x ≤ 9223372036854775807)

theorem subFits_any (b h : Int) (w : World) (wb : (Lit.int .i64 b).wf = true) (wh : (Lit.int .i64 h).wf = true) :
    Calls Try.prog 6 #[.int .i64 b, .int .i64 h] w fun e w' => e = .returned (.bool (fitsB (b - h))) ∧ w' = w := by
  have bb := bounds_i64 wb
  have bh := bounds_i64 wh
  by_cases h0 : 0 ≤ h
  · have HF : Hid (decide (-9223372036854775808 + h ≤ b) = fitsB (b - h)) := by
      unfold fitsB; rw [Hid, Bool.eq_iff_iff]; simp; omega
    go_enter Try.func6, Try.ntmps6
    go_wp2
    go_ret
    exact ⟨ret_bool HF.out, rfl⟩
  · have HF : Hid (decide (b ≤ 9223372036854775807 + h) = fitsB (b - h)) := by
      unfold fitsB; rw [Hid, Bool.eq_iff_iff]; simp; omega
    go_enter Try.func6, Try.ntmps6
    go_wp2
    go_ret
    exact ⟨ret_bool HF.out, rfl⟩

theorem newParty (i : Int) (s t : ByteArray) (n : Bool) (b h : Int) (w : World) :
    Calls Try.prog 7 #[.int .i64 i, .string s, .string t, .bool n, .int .i64 b, .int .i64 h] w fun e w' =>
      e = .returned (.pointer (some ⟨w.heap.size, 0, none⟩)) ∧ w.alloc (.cells #[.int .i64 i, .string s, .string t, .bool n, .int .i64 b, .int .i64 h] 32) = w' := by
  go_enter Try.func7, Try.ntmps7
  go_wp2
  go_ret
  exact ⟨rfl, rfl⟩

theorem available_any (g : Nat) (b h : Int) (w : World) (c4 : w.cell? ⟨g, 4, none⟩ = some (.int .i64 b)) (c5 : w.cell? ⟨g, 5, none⟩ = some (.int .i64 h)) :
    Calls Try.prog 11 #[.pointer (some ⟨g, 0, none⟩)] w fun e w' => e = .returned (.int .i64 (wrap64 (b - h))) ∧ ∃ q, w' = w.drewN q := by
  go_enter Try.func11, Try.ntmps11
  go_wp2
  go_quiet (fail)
  go_wp2
  go_ret
  exact ⟨rfl, _, rfl⟩

theorem zzAvailable (g : Nat) (b h : Int) (w : World) (c4 : w.cell? ⟨g, 4, none⟩ = some (.int .i64 b)) (c5 : w.cell? ⟨g, 5, none⟩ = some (.int .i64 h)) :
    Calls Try.prog 8 #[.pointer (some ⟨g, 0, none⟩)] w fun e w' => e = .returned (.int .i64 (wrap64 (b - h))) ∧ ∃ q, w' = w.drewN q := by
  go_enter Try.func8, Try.ntmps8
  go_wp2_with fail
  refine (available_any g b h _ c4 c5).mono ?_
  rintro e w1 ⟨rfl, q, rfl⟩
  go_wp2
  go_ret
  exact ⟨rfl, q, rfl⟩

theorem zzSize (i : Int) (s t : ByteArray) (n : Bool) (b h k : Int) (w : World) (hs : s.size ≤ maxLen) (ht : t.size ≤ maxLen) :
    Calls Try.prog 5 #[.int .i64 i, .string s, .string t, .bool n, .int .i64 b, .int .i64 h, .int .i64 k] w fun e w' => (∃ x, e = .returned (.bool x)) ∧ w' = w := by
  unfold maxLen at hs ht
  go_enter Try.func5, Try.ntmps5
  go_wp2
  all_goals
    go_ret
    exact ⟨⟨_, rfl⟩, rfl⟩
end Go.Proofs.Qxb6613623a.Party
