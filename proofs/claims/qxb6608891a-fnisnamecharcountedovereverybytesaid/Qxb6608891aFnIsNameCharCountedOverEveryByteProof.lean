/-
  The proof of 'Rows.FnIsNameCharCountedOverEveryByteSaid': the frame is the given shell's; the walk and the plain law are filled in.
-/
import Derived.Test.Qxb6608891aRows
import Derived.WalkKit
import Derived.ProofKit
import Derived.OpenShut
import Derived.ShutString
import Derived.Test.Qxb6608891aChars
namespace Go.Proofs.Qxb6608891a.fnIsNameCharCountedOverEveryByte
open Go.ChangeShapes Go.WideShapes Go.ChangeAt Go.RowKit
open Go.Proofs.Qxb6608891a.Chars
open Go.ChangeMaps (open_string shut_string)
set_option linter.unusedVariables false      -- a walk need not use every 'w<i>' (that an integer argument fits its kind)

theorem own : ownKnob Try.prog.godebug = none := by kernel_rfl

/-! ### THE PLAIN LAW: over the 256 bytes, no Go in sight -/
/-- How many of 0 .. k-1 fit 'f'. -/
def cnt (f : Int → Bool) : Nat → Int
  | 0 => 0
  | k + 1 => cnt f k + (if f (k : Int) then 1 else 0)
def othB (c : Int) : Bool := namB c && !letB c && !digB c
theorem cnt_bd (f : Int → Bool) : ∀ k : Nat, 0 ≤ cnt f k ∧ cnt f k ≤ k
  | 0 => by simp [cnt]
  | k + 1 => by have h := cnt_bd f k; simp only [cnt]; split <;> omega
theorem cnt_yes {f : Int → Bool} {k : Nat} (h : f (k : Int) = true) : cnt f (k + 1) = cnt f k + 1 := by simp [cnt, h]
theorem cnt_no {f : Int → Bool} {k : Nat} (h : f (k : Int) = false) : cnt f (k + 1) = cnt f k := by simp [cnt, h]
/-- A byte is a letter, a digit, '_' or no name character. -/
def Kinds (c : Int) : Prop :=
  (letB c = true ∧ digB c = false ∧ namB c = true ∧ letB (bits .xor .u8 c 32) = true ∧ namB (bits .xor .u8 c 32) = true) ∨
  (letB c = false ∧ digB c = true ∧ namB c = true) ∨ (letB c = false ∧ digB c = false ∧ namB c = true ∧ (c != 95) = false) ∨
  (letB c = false ∧ digB c = false ∧ namB c = false)
theorem kinds256 : ∀ n : Fin 256, 
    ((letB (n.val : Int) = true ∧ digB (n.val : Int) = false ∧ namB (n.val : Int) = true ∧ letB (bits .xor .u8 (n.val : Int) 32) = true ∧ namB (bits .xor .u8 (n.val : Int) 32) = true) ∨
  (letB (n.val : Int) = false ∧ digB (n.val : Int) = true ∧ namB (n.val : Int) = true) ∨ (letB (n.val : Int) = false ∧ digB (n.val : Int) = false ∧ namB (n.val : Int) = true ∧ ((n.val : Int) != 95) = false) ∨
  (letB (n.val : Int) = false ∧ digB (n.val : Int) = false ∧ namB (n.val : Int) = false)) := by
  decide +kernel
theorem kinds (k : Nat) (h : k < 256) : Kinds (k : Int) := kinds256 ⟨k, h⟩
theorem cntN : cnt namB 256 = 63 := by decide +kernel
theorem cntL : cnt letB 256 = 52 := by decide +kernel
theorem cntD : cnt digB 256 = 10 := by decide +kernel
theorem cntO : cnt othB 256 = 1 := by decide +kernel

/-! ### STEP 1: THE WALK: the Go text returns true. 'Grown w w'': the world has at most new blocks (Derived/RowKit3.lean). Part the cases AHEAD of 'go_enter' where a test parts the walk; take each callee by a contract of your own. -/
theorem walk  (w : World) :
    Calls Try.prog 3 #[] w fun e w' => e = .returned (.bool true) ∧ Grown w w' := by
  go_enter Try.func3, Try.ntmps3
  go_wp2
  go_loop [1, 2, 3, 4, 5] (fun n l d o i => ∃ k : Nat, k ≤ 256 ∧ i = .int .i64 k ∧ n = .int .i64 (cnt namB k) ∧ l = .int .i64 (cnt letB k) ∧ d = .int .i64 (cnt digB k) ∧ o = .int .i64 (cnt othB k)) (fun _ _ _ _ i => 256 - (intOf i).toNat)
  case atStart => exact ⟨0, by omega, rfl, rfl, rfl, rfl, rfl⟩
  case round =>
    obtain ⟨k, hk, rfl, rfl, rfl, rfl, rfl⟩ := hrel
    have bn := cnt_bd namB k
    have bl := cnt_bd letB k
    have bd := cnt_bd digB k
    have bo := cnt_bd othB k
    by_cases hlt : k < 256
    · have hz : (k : Int) < 256 := by omega
      have R := kinds k hlt
      rcases R with ⟨hL, hD, hN, hxL, hxN⟩ | ⟨hL, hD, hN⟩ | ⟨hL, hD, hN, hu⟩ | ⟨hL, hD, hN⟩
      · have SN : Hid (cnt namB (k + 1) = cnt namB k + 1) := cnt_yes hN
        have SL : Hid (cnt letB (k + 1) = cnt letB k + 1) := cnt_yes hL
        have SD : Hid (cnt digB (k + 1) = cnt digB k) := cnt_no hD
        have SO : Hid (cnt othB (k + 1) = cnt othB k) := cnt_no (by simp [othB, hL])
        go_wp2_with (first | (go_at_call 6; refine (zzName _ _).mono ?_; rintro e w' ⟨rfl, rfl⟩) | (go_at_call 7; refine (zzLetter _ _).mono ?_; rintro e w' ⟨rfl, rfl⟩) | (go_at_call 8; refine (zzDigit _ _).mono ?_; rintro e w' ⟨rfl, rfl⟩))
        go_round
        case rel => exact ⟨k + 1, by omega, by go_num, by rw [SN.out]; try go_num, by rw [SL.out]; try go_num, by rw [SD.out]; try go_num, by rw [SO.out]; try go_num⟩
        case measure => simp [intOf]; omega
      · have SN : Hid (cnt namB (k + 1) = cnt namB k + 1) := cnt_yes hN
        have SL : Hid (cnt letB (k + 1) = cnt letB k) := cnt_no hL
        have SD : Hid (cnt digB (k + 1) = cnt digB k + 1) := cnt_yes hD
        have SO : Hid (cnt othB (k + 1) = cnt othB k) := cnt_no (by simp [othB, hD])
        go_wp2_with (first | (go_at_call 6; refine (zzName _ _).mono ?_; rintro e w' ⟨rfl, rfl⟩) | (go_at_call 7; refine (zzLetter _ _).mono ?_; rintro e w' ⟨rfl, rfl⟩) | (go_at_call 8; refine (zzDigit _ _).mono ?_; rintro e w' ⟨rfl, rfl⟩))
        go_round
        case rel => exact ⟨k + 1, by omega, by go_num, by rw [SN.out]; try go_num, by rw [SL.out]; try go_num, by rw [SD.out]; try go_num, by rw [SO.out]; try go_num⟩
        case measure => simp [intOf]; omega
      · have SN : Hid (cnt namB (k + 1) = cnt namB k + 1) := cnt_yes hN
        have SL : Hid (cnt letB (k + 1) = cnt letB k) := cnt_no hL
        have SD : Hid (cnt digB (k + 1) = cnt digB k) := cnt_no hD
        have SO : Hid (cnt othB (k + 1) = cnt othB k + 1) := cnt_yes (by simp [othB, hN, hL, hD])
        go_wp2_with (first | (go_at_call 6; refine (zzName _ _).mono ?_; rintro e w' ⟨rfl, rfl⟩) | (go_at_call 7; refine (zzLetter _ _).mono ?_; rintro e w' ⟨rfl, rfl⟩) | (go_at_call 8; refine (zzDigit _ _).mono ?_; rintro e w' ⟨rfl, rfl⟩))
        go_round
        case rel => exact ⟨k + 1, by omega, by go_num, by rw [SN.out]; try go_num, by rw [SL.out]; try go_num, by rw [SD.out]; try go_num, by rw [SO.out]; try go_num⟩
        case measure => simp [intOf]; omega
      · have SN : Hid (cnt namB (k + 1) = cnt namB k) := cnt_no hN
        have SL : Hid (cnt letB (k + 1) = cnt letB k) := cnt_no hL
        have SD : Hid (cnt digB (k + 1) = cnt digB k) := cnt_no hD
        have SO : Hid (cnt othB (k + 1) = cnt othB k) := cnt_no (by simp [othB, hN])
        go_wp2_with (first | (go_at_call 6; refine (zzName _ _).mono ?_; rintro e w' ⟨rfl, rfl⟩) | (go_at_call 7; refine (zzLetter _ _).mono ?_; rintro e w' ⟨rfl, rfl⟩) | (go_at_call 8; refine (zzDigit _ _).mono ?_; rintro e w' ⟨rfl, rfl⟩))
        go_round
        case rel => exact ⟨k + 1, by omega, by go_num, by rw [SN.out]; try go_num, by rw [SL.out]; try go_num, by rw [SD.out]; try go_num, by rw [SO.out]; try go_num⟩
        case measure => simp [intOf]; omega
    · have he : k = 256 := by omega
      subst he
      rw [cntN, cntL, cntD, cntO]
      go_wp2
      go_ret
      exact ⟨rfl, Grown.refl _⟩

/-! ### THE ROW's STEP: WRITTEN OUT: LEAVE IT -/
set_option maxRecDepth 100000 in
theorem lifted (os : Os) (started : os.Started) (H : Type) (enc : TypeId × Value → H) :
    ReturnsInHanded {} Try.checked os 3 .any (Rows.fnIsNameCharCountedOverEveryByteSpec.pre6 enc Try.prog Try.f3 Rows.fnIsNameCharCountedOverEveryByteRow.domain false) (Rows.fnIsNameCharCountedOverEveryByteSpec.post enc Try.prog Try.f3 false true false false) := by
  refine returnsInHanded_of_change (C := Try.checked) own started (by kernel_rfl) Try.func3
    (ChangeSpec.witness6 (enc := enc) (C := Try.checked) false ⟨#[], #[], []⟩ 8 (by kernel_rfl) (by kernel_rfl) (by kernel_rfl) (by kernel_rfl)) ?_
  intro W base args ds gs before hval0 hW hcnd _
  have hval : ∀ (j : Nat) t v, Try.f3.params[j]? = some t → args[j]? = some v → Value.okWide Try.prog W .any base t v := hval0
  have hW' := hW
  obtain ⟨p, q, hA0, hV, rfl, hfz, hnd⟩ := hW
  have hA : DataW.TrodAll enc Try.prog W 0 (fun _ => true) true Try.f3.params.toList args.toList ds p := hA0
  rw [Try.params3] at hA hval
  obtain ⟨rfl, rfl, rfl⟩ := trodAll_none hA
  obtain ⟨rfl, rfl⟩ := trodVars_none hV
  clear hA0 hval0
  simp only [List.append_nil] at hW'
  refine (walk  W).mono fun e W' ⟨he, hg⟩ => ?_
  subst he
  exact ⟨_, rfl, post_of_same (pa := []) (pv := []) hW' (fun _ _ _ => (trodAll_cons_mk (shut_bool Try.underlying4 _) trodAll_mk0)) (fun sp _ => rfl) (fun _ _ => rfl) rfl
    (hg.frame _) hg.2.1 (ok_one (by kernel_rfl) rfl (okWide_bool_mk Try.underlying4 _))⟩

theorem over : Rows.fnIsNameCharCountedOverEveryByteRow.holds Try.pinned (OpenSpec.ofChange Rows.fnIsNameCharCountedOverEveryByteSpec) :=
  OpenClaim.holds_of_wide 3 Try.f3 rfl rfl rfl rfl rfl rfl rfl ⟨rfl, rfl, rfl, rfl, rfl⟩ rfl rfl rfl rfl rfl (by kernel_rfl) Try.func3 (by kernel_rfl)
    (of_decide_eq_true (by kernel_rfl)) (by unfold Func.isWrapper; first | (rw [if_pos (by decide +kernel)]; kernel_rfl) | (rw [if_neg (by decide +kernel)]; exact ⟨rfl, rfl⟩))
    (fun os started H enc _ => lifted os started H enc)

/-- ████ THE STATEMENT ████ -/
theorem proved : Rows.FnIsNameCharCountedOverEveryByteSaid :=
  over
#print axioms proved
end Go.Proofs.Qxb6608891a.fnIsNameCharCountedOverEveryByte
