/-
  cmp.isNaN and cmp.Less at float64, at this dump.
-/
import Derived.Test.Qxb6630281aRows
import Derived.Test.Qxb6630281aFloat
import Derived.WalkKit
import Derived.Lib.Walk
import Derived.WalkLawsBesides
import Derived.Sort.Row
import Derived.Sort.AssemblyPlain
namespace Go.Proofs.Qxb6630281a.Own
open Go.RowKit

theorem ret_bool {a b : Bool} (h : a = b) : Ending.returned (.bool a) = .returned (.bool b) := by rw [h]
theorem hid {p : Prop} (h : p) : Hid p := h
theorem f64_double : FloatKind.f64.format = Ieee.double := rfl

set_option maxHeartbeats 1000000 in
theorem cmp_isNaN_flt (x : Nat) (w : World) : Calls Try.prog 35 #[.float .f64 x] w fun e w' => e = .returned (.bool (isNaNB x)) ∧ w' = w := by
  go_enter Try.func35, Try.ntmps35
  go_wp2
  go_ret
  refine ⟨?_, rfl⟩
  show Ending.returned (.bool (Ieee.double.order x x != some .eq)) = _
  rw [test_neq, eqB_self, Bool.not_not]

set_option maxHeartbeats 1000000 in
/-- cmp.Less[float64]: by rank. -/
theorem cmp_Less_flt (x y : Nat) (w : World) : Calls Try.prog 25 #[.float .f64 x, .float .f64 y] w fun e w' => e = .returned (.bool (ltF x y)) ∧ w' = w := by
  go_enter Try.func25, Try.ntmps25
  go_wp2_with (go_at_call 35; refine (cmp_isNaN_flt _ _).mono ?_; rintro e w' ⟨rfl, rfl⟩)
  all_goals
    have hl := less_eq x y
    simp only [*, Bool.true_and, Bool.false_and, Bool.not_true, Bool.not_false, Bool.false_or, Bool.true_or] at hl
    go_ret
    refine ⟨ret_bool ?_, rfl⟩
    first
      | exact (test_lss x y).trans hl
      | exact hl

/-- a store of a float (the walk's set has none) -/
theorem run_store_flt {P : Program} {w : World} {a : Addr} {m : Mode} (k : FloatKind) (n : Nat) : (store a (.float k n) m).run P w = stored P w a (.float k n) m := run_store P w a _ m rfl
theorem ltF_swo : Sort.SWO ltF := ⟨fun x => by simp [ltF], fun x y z => by simp only [ltF, decide_eq_true_eq]; omega, fun x y z => by simp only [ltF, decide_eq_false_iff_not]; omega⟩
end Go.Proofs.Qxb6630281a.Own
