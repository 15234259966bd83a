/-
  The contracts of the character classes: isLetter (18), isDigit (19), isNameChar (17) and their exported twins (7, 8, 6).
-/
import Derived.Test.Qxb6608891aRows
import Derived.WalkKit
import Derived.ProofKit
namespace Go.Proofs.Qxb6608891a.Chars
open Go.RowKit

/-- Is 'c' an ASCII letter? -/
def letB (c : Int) : Bool := (decide (97 ≤ c) && decide (c ≤ 122)) || (decide (65 ≤ c) && decide (c ≤ 90))
/-- Is 'c' an ASCII digit? -/
def digB (c : Int) : Bool := decide (48 ≤ c) && decide (c ≤ 57)
/-- May 'c' stand in a name? -/
def namB (c : Int) : Bool := letB c || digB c || (c == 95)

theorem isLetter_any (c : Int) (w : World) :
    Calls Try.prog 18 #[.int .u8 c] w fun e w' => e = .returned (.bool (letB c)) ∧ w' = w := by
  by_cases h1 : 97 ≤ c
  · by_cases h2 : c ≤ 122
    · have HF : Hid (letB c = true) := by simp [Hid, letB, h1, h2]
      go_enter Try.func18, Try.ntmps18
      go_wp2
      go_ret
      exact ⟨by rw [HF.out]; rfl, rfl⟩
    · have HF : Hid (letB c = false) := by simp [Hid, letB]; omega
      have h3 : 65 ≤ c := by omega
      have h4 : ¬ c ≤ 90 := by omega
      go_enter Try.func18, Try.ntmps18
      go_wp2
      go_ret
      exact ⟨by rw [HF.out]; rfl, rfl⟩
  · by_cases h3 : 65 ≤ c
    · by_cases h4 : c ≤ 90
      · have HF : Hid (letB c = true) := by simp [Hid, letB, h3, h4]
        go_enter Try.func18, Try.ntmps18
        go_wp2
        go_ret
        exact ⟨by rw [HF.out]; rfl, rfl⟩
      · have HF : Hid (letB c = false) := by simp [Hid, letB]; omega
        go_enter Try.func18, Try.ntmps18
        go_wp2
        go_ret
        exact ⟨by rw [HF.out]; rfl, rfl⟩
    · have HF : Hid (letB c = false) := by simp [Hid, letB]; omega
      go_enter Try.func18, Try.ntmps18
      go_wp2
      go_ret
      exact ⟨by rw [HF.out]; rfl, rfl⟩

theorem isDigit_any (c : Int) (w : World) :
    Calls Try.prog 19 #[.int .u8 c] w fun e w' => e = .returned (.bool (digB c)) ∧ w' = w := by
  by_cases h1 : 48 ≤ c
  · by_cases h2 : c ≤ 57
    · have HF : Hid (digB c = true) := by simp [Hid, digB, h1, h2]
      go_enter Try.func19, Try.ntmps19
      go_wp2
      go_ret
      exact ⟨by rw [HF.out]; rfl, rfl⟩
    · have HF : Hid (digB c = false) := by simp [Hid, digB]; omega
      go_enter Try.func19, Try.ntmps19
      go_wp2
      go_ret
      exact ⟨by rw [HF.out]; rfl, rfl⟩
  · have HF : Hid (digB c = false) := by simp [Hid, digB]; omega
    go_enter Try.func19, Try.ntmps19
    go_wp2
    go_ret
    exact ⟨by rw [HF.out]; rfl, rfl⟩

theorem isNameChar_any (c : Int) (w : World) :
    Calls Try.prog 17 #[.int .u8 c] w fun e w' => e = .returned (.bool (namB c)) ∧ w' = w := by
  cases h1 : letB c
  · cases h2 : digB c
    · cases h3 : (c == 95)
      · have HF : Hid (namB c = false) := by simp [Hid, namB, h1, h2, h3]
        go_enter Try.func17, Try.ntmps17
        go_wp2_with (first | (go_at_call 18; refine (isLetter_any _ _).mono ?_; rintro e w' ⟨rfl, rfl⟩) | (go_at_call 19; refine (isDigit_any _ _).mono ?_; rintro e w' ⟨rfl, rfl⟩))
        go_ret
        exact ⟨by rw [HF.out]; rfl, rfl⟩
      · have HF : Hid (namB c = true) := by simp [Hid, namB, h1, h2, h3]
        go_enter Try.func17, Try.ntmps17
        go_wp2_with (first | (go_at_call 18; refine (isLetter_any _ _).mono ?_; rintro e w' ⟨rfl, rfl⟩) | (go_at_call 19; refine (isDigit_any _ _).mono ?_; rintro e w' ⟨rfl, rfl⟩))
        go_ret
        exact ⟨by rw [HF.out]; rfl, rfl⟩
    · have HF : Hid (namB c = true) := by simp [Hid, namB, h1, h2]
      go_enter Try.func17, Try.ntmps17
      go_wp2_with (first | (go_at_call 18; refine (isLetter_any _ _).mono ?_; rintro e w' ⟨rfl, rfl⟩) | (go_at_call 19; refine (isDigit_any _ _).mono ?_; rintro e w' ⟨rfl, rfl⟩))
      go_ret
      exact ⟨by rw [HF.out]; rfl, rfl⟩
  · have HF : Hid (namB c = true) := by simp [Hid, namB, h1]
    go_enter Try.func17, Try.ntmps17
    go_wp2_with (first | (go_at_call 18; refine (isLetter_any _ _).mono ?_; rintro e w' ⟨rfl, rfl⟩) | (go_at_call 19; refine (isDigit_any _ _).mono ?_; rintro e w' ⟨rfl, rfl⟩))
    go_ret
    exact ⟨by rw [HF.out]; rfl, rfl⟩

theorem zzLetter (c : Int) (w : World) :
    Calls Try.prog 7 #[.int .u8 c] w fun e w' => e = .returned (.bool (letB c)) ∧ w' = w := by
  go_enter Try.func7, Try.ntmps7
  go_wp2_with (go_at_call 18; refine (isLetter_any _ _).mono ?_; rintro e w' ⟨rfl, rfl⟩)
  go_ret
  exact ⟨rfl, rfl⟩
theorem zzDigit (c : Int) (w : World) :
    Calls Try.prog 8 #[.int .u8 c] w fun e w' => e = .returned (.bool (digB c)) ∧ w' = w := by
  go_enter Try.func8, Try.ntmps8
  go_wp2_with (go_at_call 19; refine (isDigit_any _ _).mono ?_; rintro e w' ⟨rfl, rfl⟩)
  go_ret
  exact ⟨rfl, rfl⟩
theorem zzName (c : Int) (w : World) :
    Calls Try.prog 6 #[.int .u8 c] w fun e w' => e = .returned (.bool (namB c)) ∧ w' = w := by
  go_enter Try.func6, Try.ntmps6
  go_wp2_with (go_at_call 17; refine (isNameChar_any _ _).mono ?_; rintro e w' ⟨rfl, rfl⟩)
  go_ret
  exact ⟨rfl, rfl⟩
end Go.Proofs.Qxb6608891a.Chars
