/-
  The contracts of math.Signbit (8), Identical's closure (7), alike (6), Identical (5), ZZIdenticalFloat64 (4) on two floats.
-/
import Derived.Test.Qxb6614116aRows
import Derived.WalkKit
import Derived.ProofKit
import Derived.OpenShut
import Derived.WalkLawsBesides
import Derived.Laws.FloatArith
namespace Go.Proofs.Qxb6614116a.Ident
open Go.RowKit

theorem run_bits (x : Nat) (w : World) : (callFunc 12 #[.float .f64 x]).run Try.prog w = .ok (.value (.int .u64 x)) w := by kernel_rfl
theorem run_not_list (x : Nat) (w : World) : (Instr.typeAssert (.iface 22 (.float .f64 x)) 20 28 true).run Try.prog w = .ok (.tuple #[.slice none 0 0, .bool false]) w := by kernel_rfl
theorem run_not_map (x : Nat) (w : World) : (Instr.typeAssert (.iface 22 (.float .f64 x)) 20 31 true).run Try.prog w = .ok (.tuple #[.map none, .bool false]) w := by kernel_rfl
theorem run_is_float (x : Nat) (w : World) : (Instr.typeAssert (.iface 22 (.float .f64 x)) 20 22 true).run Try.prog w = .ok (.tuple #[.float .f64 x, .bool true]) w := by kernel_rfl

/-- 'x == y' on float64, by their bits. -/
def eqB (x y : Nat) : Bool := FloatKind.f64.format.order x y == some .eq
/-- The sign bit, as math.Signbit reckons it. -/
def sgn (x : Nat) : Bool := decide (wrap64 (x : Int) < 0)
/-- What Identical says of two floats. -/
def idB (x y : Nat) : Bool := eqB x y && (sgn x == sgn y)

theorem signbit_any (x : Nat) (w : World) : Calls Try.prog 8 #[.float .f64 x] w fun e w' => e = .returned (.bool (sgn x)) ∧ w' = w := by
  have h1 := run_bits x
  go_enter Try.func8, Try.ntmps8
  go_wp2
  go_ret
  exact ⟨rfl, rfl⟩

theorem same_any (x y : Nat) (w : World) : Calls Try.prog 7 #[.iface 22 (.float .f64 x), .iface 22 (.float .f64 y)] w fun e w' => e = .returned (.bool (idB x y)) ∧ w' = w := by
  have h3 := run_is_float x
  have h4 := run_is_float y
  cases hb : (FloatKind.f64.format.order x y == some .eq)
  · have HI : Hid (idB x y = false) := by simp only [Hid, idB, eqB, hb, Bool.false_and]
    go_enter Try.func7, Try.ntmps7
    go_wp2_with fail
    go_ret
    exact ⟨by rw [HI.out]; rfl, rfl⟩
  · have HI : Hid (idB x y = (sgn x == sgn y)) := by simp only [Hid, idB, eqB, hb, Bool.true_and]
    go_enter Try.func7, Try.ntmps7
    go_wp2_with fail
    refine (signbit_any x _).mono ?_
    rintro e w1 ⟨rfl, rfl⟩
    go_wp2_with fail
    refine (signbit_any y _).mono ?_
    rintro e w1 ⟨rfl, rfl⟩
    go_wp2_with fail
    go_ret
    exact ⟨by rw [HI.out]; rfl, rfl⟩

theorem alike_any (x y : Nat) (w : World) : Calls Try.prog 6 #[.iface 22 (.float .f64 x), .iface 22 (.float .f64 y), .func (Fn.func 7) #[] #[]] w fun e w' => e = .returned (.bool (idB x y)) ∧ w.alloc (.cells #[.func (Fn.func 7) #[] #[]] 24) = w' := by
  have h1 := run_not_list x
  have h2 := run_not_map x
  go_enter Try.func6, Try.ntmps6
  go_wp2_with fail
  refine (same_any x y _).mono ?_
  rintro e w1 ⟨rfl, rfl⟩
  go_wp2_with fail
  go_ret
  exact ⟨rfl, rfl⟩

theorem identical_any (x y : Nat) (w : World) : Calls Try.prog 5 #[.iface 22 (.float .f64 x), .iface 22 (.float .f64 y)] w fun e w' => e = .returned (.bool (idB x y)) ∧ Grown w w' := by
  go_enter Try.func5, Try.ntmps5
  go_wp2_with fail
  refine (alike_any x y _).mono ?_
  rintro e w1 ⟨rfl, rfl⟩
  go_wp2_with fail
  go_ret
  exact ⟨rfl, (Grown.refl _).alloc _ _⟩

theorem zz_any (x y : Nat) (w : World) : Calls Try.prog 4 #[.float .f64 x, .float .f64 y] w fun e w' => e = .returned (.bool (idB x y)) ∧ Grown w w' := by
  go_enter Try.func4, Try.ntmps4
  go_wp2_with fail
  refine (identical_any x y _).mono ?_
  rintro e w1 ⟨rfl, hg⟩
  go_wp2_with fail
  go_ret
  exact ⟨rfl, hg⟩
end Go.Proofs.Qxb6614116a.Ident
