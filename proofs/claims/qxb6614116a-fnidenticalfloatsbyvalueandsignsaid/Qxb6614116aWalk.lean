/-
  The walk of FnIdenticalFloatsByValueAndSign (3).
-/
import Derived.Test.Qxb6614116aIdent
import Derived.Test.Qxb6614116aPlain
namespace Go.Proofs.Qxb6614116a.Walk
open Go.RowKit Go.Proofs.Qxb6614116a.Ident

theorem grown_trans {a b c : World} (h : Grown a b) (k : Grown b c) : Grown a c :=
  ⟨World.keptBut_trans h.1 k.1, fun x => (k.2.1 x).trans (h.2.1 x), Nat.le_trans h.2.2 k.2.2⟩

theorem sgn_eq (x : Nat) (_h : x < 18446744073709551616) : sgn x = (x / Plain.S % 2 == 1) := by
  rw [Bool.eq_iff_iff]
  simp only [sgn, decide_eq_true_eq, beq_iff_eq, wrap64, Plain.S]
  omega
theorem eq_symm (x y : Nat) : eqB y x = eqB x y := by
  rw [Bool.eq_iff_iff]
  simp only [eqB, beq_iff_eq]
  exact ⟨fun h => Plain.order_symm h, fun h => Plain.order_symm h⟩
theorem id_symm (x y : Nat) : idB y x = idB x y := by
  unfold idB
  rw [eq_symm, Bool.beq_comm]
theorem id_self (x : Nat) : idB x x = eqB x x := by simp [idB]

set_option maxHeartbeats 800000 in
theorem law_any (x y : Nat) (hx : x < 18446744073709551616) (hy : y < 18446744073709551616) (w : World) :
    Calls Try.prog 3 #[.float .f64 x, .float .f64 y] w fun e w' => e = .returned (.bool true) ∧ Grown w w' := by
  have HS : Hid (idB y x = idB x y) := id_symm x y
  have HX : Hid (idB x x = (FloatKind.f64.format.order x x == some .eq)) := id_self x
  cases hb : (FloatKind.f64.format.order x y == some .eq)
  · have HI : Hid (idB x y = false) := by simp only [Hid, idB, eqB, hb, Bool.false_and]
    go_enter Try.func3, Try.ntmps3
    go_wp2_with fail
    refine (zz_any x y _).mono ?_
    rintro e w1 ⟨rfl, k1⟩
    go_wp2_with fail
    refine (zz_any y x _).mono ?_
    rintro e w2 ⟨rfl, k2⟩
    go_wp2_with fail
    refine (zz_any x x _).mono ?_
    rintro e w3 ⟨rfl, k3⟩
    rw [HS.out, HX.out, HI.out]
    go_wp2_with fail
    go_ret
    exact ⟨rfl, grown_trans (grown_trans k1 k2) k3⟩
  · obtain ⟨u, v, hu, hv, huv⟩ := Plain.recip (x := x) (y := y) (show FloatKind.f64.format.order x y = some .eq from beq_iff_eq.1 hb)
    have q1 := fun w => run_float_arith (P := Try.prog) w .quo 22 .f64 Plain.one x u hu
    have q2 := fun w => run_float_arith (P := Try.prog) w .quo 22 .f64 Plain.one y v hv
    unfold Plain.one at q1 q2
    have HI : Hid (idB x y = (FloatKind.f64.format.order u v == some .eq)) := by
      show idB x y = _
      rw [show (FloatKind.f64.format.order u v == some .eq) = (Ieee.double.order u v == some .eq) from rfl, huv, ← sgn_eq x hx, ← sgn_eq y hy]
      simp only [idB, eqB, hb, Bool.true_and]
    clear hu hv huv
    go_enter Try.func3, Try.ntmps3
    go_wp2_with fail
    refine (zz_any x y _).mono ?_
    rintro e w1 ⟨rfl, k1⟩
    go_wp2_with fail
    refine (zz_any y x _).mono ?_
    rintro e w2 ⟨rfl, k2⟩
    go_wp2_with fail
    refine (zz_any x x _).mono ?_
    rintro e w3 ⟨rfl, k3⟩
    rw [HS.out, HX.out, HI.out]
    go_wp2_with fail
    go_ret
    exact ⟨rfl, grown_trans (grown_trans k1 k2) k3⟩
end Go.Proofs.Qxb6614116a.Walk
