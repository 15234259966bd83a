/-
  The contracts of time.Time's methods on times without a monotonic reading: nsec (15), sec (19), addSec (16), Equal (18), Add (12).
-/
import Derived.Test.Qxb6613623aRows
import Derived.WalkKit
import Derived.ProofKit
import Derived.OpenShut
import Derived.Laws.BitsAllLaws
namespace Go.Proofs.Qxb6613623a.TimeW
open Go.RowKit

theorem and_high (n : Int) (h0 : 0 ≤ n) (h1 : n < 1073741824) : bits .and .u64 n 9223372036854775808 = 0 := by
  rw [u64_and n 9223372036854775808 h0 (by omega) (by omega) (by omega)]
  have e : n.toNat &&& (9223372036854775808 : Int).toNat = 0 := by
    show n.toNat &&& 2 ^ 63 = 0
    rw [nat_bit]
    have : n.toNat / 2 ^ 63 = 0 := Nat.div_eq_of_lt (by omega)
    rw [this]
  rw [e]; rfl
theorem and_low (n : Int) (h0 : 0 ≤ n) (h1 : n < 1073741824) : bits .and .u64 n 1073741823 = n := by
  rw [u64_and n 1073741823 h0 (by omega) (by omega) (by omega)]
  have e : n.toNat &&& (1073741823 : Int).toNat = n.toNat := by
    show n.toNat &&& (2 ^ 30 - 1) = n.toNat
    rw [Nat.and_two_pow_sub_one_eq_mod]
    exact Nat.mod_eq_of_lt (by omega)
  rw [e]; omega
theorem or_zero (n : Int) (h0 : 0 ≤ n) (h1 : n < 1073741824) : bits .or .u64 0 n = n := by
  rw [u64_or 0 n (by omega) (by omega) h0 (by omega)]
  have e : (0 : Int).toNat ||| n.toNat = n.toNat := by
    show 0 ||| n.toNat = n.toNat
    simp
  rw [e]; omega
theorem andNot_zero : bits .andNot .u64 0 1073741823 = 0 := by decide +kernel

theorem sec_any (b : Nat) (n s : Int) (w : World) (h0 : 0 ≤ n) (h1 : n < 1073741824) (c0 : w.cell? ⟨b, 0, none⟩ = some (.int .u64 n)) (c1 : w.cell? ⟨b, 1, none⟩ = some (.int .i64 s)) :
    Calls Try.prog 19 #[.pointer (some ⟨b, 0, none⟩)] w fun e w' => e = .returned (.int .i64 s) ∧ w' = w := by
  have a1 := and_high n h0 h1
  go_enter Try.func19, Try.ntmps19
  go_wp2
  go_ret
  exact ⟨rfl, rfl⟩
theorem nsec_any (b : Nat) (n : Int) (w : World) (h0 : 0 ≤ n) (h1 : n < 1073741824) (c0 : w.cell? ⟨b, 0, none⟩ = some (.int .u64 n)) :
    Calls Try.prog 15 #[.pointer (some ⟨b, 0, none⟩)] w fun e w' => e = .returned (.int .i32 n) ∧ w' = w := by
  have a1 := and_low n h0 h1
  go_enter Try.func15, Try.ntmps15
  go_wp2
  go_ret
  exact ⟨rfl, rfl⟩
theorem addSec_zero (b : Nat) (n d : Int) (w : World) (h0 : 0 ≤ n) (h1 : n < 1073741824) (d0 : -10000000000 ≤ d) (d1 : d ≤ 10000000000) (c0 : w.cell? ⟨b, 0, none⟩ = some (.int .u64 n)) (c1 : w.cell? ⟨b, 1, none⟩ = some (.int .i64 0))
    (f1 : w.frozen? ⟨b, 1, none⟩ = false) :
    Calls Try.prog 16 #[.pointer (some ⟨b, 0, none⟩), .int .i64 d] w fun e w' => e = .returned (.tuple #[]) ∧ w.setCell ⟨b, 1, none⟩ (.int .i64 d) = w' := by
  have a1 := and_high n h0 h1
  go_enter Try.func16, Try.ntmps16
  go_wp2
  go_end0
  exact ⟨rfl, rfl⟩

/-- The seconds and the nanoseconds of an instant 'd' nanoseconds after the zero time. -/
def secs (d : Int) : Int := d / 1000000000
def nanos (d : Int) : Int := d % 1000000000

set_option maxHeartbeats 800000 in
theorem add_pos (d : Int) (w : World) (h0 : 0 ≤ d) (h1 : d ≤ 9223372036854775807) :
    Calls Try.prog 12 #[.agg #[.int .u64 0, .int .i64 0, .pointer none], .int .i64 d] w fun e w' => e = .returned (.agg #[.int .u64 (nanos d), .int .i64 (secs d), .pointer none]) ∧
      (w.alloc (.cells #[.int .u64 (nanos d), .int .i64 (secs d), .pointer none] 37)).alloc (.cells #[.int .u64 (nanos d), .int .i64 (secs d), .pointer none] 37) = w' := by
  have q0 : 0 ≤ d / 1000000000 := by omega
  have q1 : d / 1000000000 ≤ 9223372037 := by omega
  have r0 : 0 ≤ d % 1000000000 := by omega
  have r1 : d % 1000000000 < 1000000000 := by omega
  have e1 := andNot_zero
  have e2 := or_zero (d % 1000000000) r0 (by omega)
  have e3 := and_high (d % 1000000000) r0 (by omega)
  go_enter Try.func12, Try.ntmps12
  go_wp2_with fail
  refine (nsec_any w.heap.size 0 _ (by omega) (by omega) (by simp)).mono ?_
  rintro e w1 ⟨rfl, rfl⟩
  go_wp2_with fail
  refine (addSec_zero w.heap.size (d % 1000000000) (d / 1000000000) _ r0 (by omega) (by omega) (by omega) (by simp) (by simp) (by simp)).mono ?_
  rintro e w1 ⟨rfl, rfl⟩
  go_wp2_with fail
  exact bodyPost_ret (v := .agg #[.int .u64 (d % 1000000000), .int .i64 (d / 1000000000), .pointer none]) (by simp [results, Try.results12, go_sem]) rfl ⟨rfl, rfl⟩

theorem tdiv_neg (d : Int) (h : d < 0) (h1 : -9223372036854775808 ≤ d) : (d.tmod 1000000000 = 0 ∧ d.tdiv 1000000000 = secs d ∧ nanos d = 0 ∨ d.tmod 1000000000 < 0 ∧ d.tdiv 1000000000 - 1 = secs d ∧ d.tmod 1000000000 + 1000000000 = nanos d) ∧
    -1000000000 < d.tmod 1000000000 ∧ d.tmod 1000000000 ≤ 0 ∧ -9223372037 ≤ d.tdiv 1000000000 ∧ d.tdiv 1000000000 ≤ 0 := by
  have e1 : d.tmod 1000000000 = -((-d) % 1000000000) := by
    have := Int.neg_tmod (-d) 1000000000
    rw [Int.neg_neg] at this
    rw [this, Int.tmod_eq_emod_of_nonneg (by omega)]
  have e2 : d.tdiv 1000000000 = -((-d) / 1000000000) := by
    have := Int.neg_tdiv (-d) 1000000000
    rw [Int.neg_neg] at this
    rw [this, Int.tdiv_eq_ediv_of_nonneg (by omega)]
  rw [e1, e2]
  unfold secs nanos
  omega

set_option maxHeartbeats 800000 in
theorem add_neg (d : Int) (w : World) (h0 : d < 0) (h1 : -9223372036854775808 ≤ d) :
    Calls Try.prog 12 #[.agg #[.int .u64 0, .int .i64 0, .pointer none], .int .i64 d] w fun e w' => e = .returned (.agg #[.int .u64 (nanos d), .int .i64 (secs d), .pointer none]) ∧
      (w.alloc (.cells #[.int .u64 (nanos d), .int .i64 (secs d), .pointer none] 37)).alloc (.cells #[.int .u64 (nanos d), .int .i64 (secs d), .pointer none] 37) = w' := by
  obtain ⟨hc, r0, r1, q0, q1⟩ := tdiv_neg d h0 h1
  have e1 := andNot_zero
  rcases hc with ⟨hr, hs, hn⟩ | ⟨hr, hs, hn⟩
  · have HS : Hid (d.tdiv 1000000000 = secs d) := hs
    have HN : Hid (nanos d = 0) := hn
    have e2 : bits .or .u64 0 0 = 0 := or_zero 0 (by omega) (by omega)
    have e3 : bits .and .u64 0 9223372036854775808 = 0 := and_high 0 (by omega) (by omega)
    clear hs hn
    go_enter Try.func12, Try.ntmps12
    go_wp2_with fail
    refine (nsec_any w.heap.size 0 _ (by omega) (by omega) (by simp)).mono ?_
    rintro e w1 ⟨rfl, rfl⟩
    go_wp2_with fail
    refine (addSec_zero w.heap.size 0 (d.tdiv 1000000000) _ (by omega) (by omega) (by omega) (by omega) (by simp) (by simp) (by simp)).mono ?_
    rintro e w1 ⟨rfl, rfl⟩
    go_wp2_with fail
    exact bodyPost_ret (v := .agg #[.int .u64 0, .int .i64 (d.tdiv 1000000000), .pointer none]) (by simp [results, Try.results12, go_sem]) rfl ⟨by rw [HN.out, HS.out], by rw [HN.out, ← HS.out]⟩
  · have HS : Hid (d.tdiv 1000000000 - 1 = secs d) := hs
    have HN : Hid (d.tmod 1000000000 + 1000000000 = nanos d) := hn
    have e2 := or_zero (d.tmod 1000000000 + 1000000000) (by omega) (by omega)
    have e3 := and_high (d.tmod 1000000000 + 1000000000) (by omega) (by omega)
    clear hs hn
    go_enter Try.func12, Try.ntmps12
    go_wp2_with fail
    refine (nsec_any w.heap.size 0 _ (by omega) (by omega) (by simp)).mono ?_
    rintro e w1 ⟨rfl, rfl⟩
    go_wp2_with fail
    refine (addSec_zero w.heap.size (d.tmod 1000000000 + 1000000000) (d.tdiv 1000000000 - 1) _ (by omega) (by omega) (by omega) (by omega) (by simp) (by simp) (by simp)).mono ?_
    rintro e w1 ⟨rfl, rfl⟩
    go_wp2_with fail
    exact bodyPost_ret (v := .agg #[.int .u64 (d.tmod 1000000000 + 1000000000), .int .i64 (d.tdiv 1000000000 - 1), .pointer none]) (by simp [results, Try.results12, go_sem]) rfl ⟨by rw [HN.out, HS.out], by rw [← HN.out, ← HS.out]⟩

theorem add_any (d : Int) (w : World) (h : (Lit.int .i64 d).wf = true) :
    Calls Try.prog 12 #[.agg #[.int .u64 0, .int .i64 0, .pointer none], .int .i64 d] w fun e w' => e = .returned (.agg #[.int .u64 (nanos d), .int .i64 (secs d), .pointer none]) ∧
      (w.alloc (.cells #[.int .u64 (nanos d), .int .i64 (secs d), .pointer none] 37)).alloc (.cells #[.int .u64 (nanos d), .int .i64 (secs d), .pointer none] 37) = w' := by
  have hb := bounds_i64 h
  by_cases h0 : 0 ≤ d
  · exact add_pos d w h0 hb.2
  · exact add_neg d w (by omega) hb.1

theorem nanos_bd (d : Int) : 0 ≤ nanos d ∧ nanos d < 1073741824 := by unfold nanos; omega
theorem and_bd (a b : Int) (ha : 0 ≤ a) (ha1 : a < 1073741824) (hb : 0 ≤ b) (hb1 : b < 1073741824) : 0 ≤ bits .and .u64 a b ∧ bits .and .u64 a b < 1073741824 := by
  rw [u64_and a b ha (by omega) hb (by omega)]
  have : a.toNat &&& b.toNat ≤ a.toNat := Nat.and_le_left
  omega
theorem same_iff (a b : Int) : ((secs a == secs b) && (nanos a == nanos b)) = (a == b) := by
  rw [Bool.eq_iff_iff]
  simp only [Bool.and_eq_true, beq_iff_eq, secs, nanos]
  omega

set_option maxHeartbeats 800000 in
theorem equal_any (n1 s1 n2 s2 : Int) (w : World) (h1 : 0 ≤ n1) (h2 : n1 < 1073741824) (h3 : 0 ≤ n2) (h4 : n2 < 1073741824) :
    Calls Try.prog 18 #[.agg #[.int .u64 n1, .int .i64 s1, .pointer none], .agg #[.int .u64 n2, .int .i64 s2, .pointer none]] w fun e w' => e = .returned (.bool ((s1 == s2) && (n1 == n2))) ∧
      (w.alloc (.cells #[.int .u64 n1, .int .i64 s1, .pointer none] 37)).alloc (.cells #[.int .u64 n2, .int .i64 s2, .pointer none] 37) = w' := by
  have hb := and_bd n1 n2 h1 h2 h3 h4
  have e1 := and_high (bits .and .u64 n1 n2) hb.1 hb.2
  clear hb
  cases hs : (s1 == s2)
  · go_enter Try.func18, Try.ntmps18
    go_wp2_with fail
    refine (sec_any w.heap.size n1 s1 _ h1 h2 (by simp) (by simp)).mono ?_
    rintro e w1 ⟨rfl, rfl⟩
    go_wp2_with fail
    refine (sec_any (w.heap.size + 1) n2 s2 _ h3 h4 (by simp) (by simp)).mono ?_
    rintro e w1 ⟨rfl, rfl⟩
    go_wp2_with fail
    go_ret
    exact ⟨rfl, rfl⟩
  · go_enter Try.func18, Try.ntmps18
    go_wp2_with fail
    refine (sec_any w.heap.size n1 s1 _ h1 h2 (by simp) (by simp)).mono ?_
    rintro e w1 ⟨rfl, rfl⟩
    go_wp2_with fail
    refine (sec_any (w.heap.size + 1) n2 s2 _ h3 h4 (by simp) (by simp)).mono ?_
    rintro e w1 ⟨rfl, rfl⟩
    go_wp2_with fail
    refine (nsec_any w.heap.size n1 _ h1 h2 (by simp)).mono ?_
    rintro e w1 ⟨rfl, rfl⟩
    go_wp2_with fail
    refine (nsec_any (w.heap.size + 1) n2 _ h3 h4 (by simp)).mono ?_
    rintro e w1 ⟨rfl, rfl⟩
    go_wp2_with fail
    go_ret
    exact ⟨rfl, rfl⟩
end Go.Proofs.Qxb6613623a.TimeW
