import Derived.Test.Qxb6605308aModsSend
namespace Go.Proofs.Qxb6605308aMods.InShare
open Go.ChangeShapes Go.WideShapes Go.ChangeAt Go.RowKit
set_option linter.unusedVariables false

/-- 'x >= 0 && x <= 1' -/
def inS (x : Nat) : Bool := (Ieee.double.order x 0 == some .gt || Ieee.double.order x 0 == some .eq) && Flt.le Ieee.double x 4607182418800017408
theorem share_of_inS {x : Nat} (h : inS x = true) : PowN.Share x := by
  unfold inS at h
  rw [Bool.and_eq_true] at h
  exact PowN.share_of x h.1 h.2

theorem ret_bool {x y : Bool} (h : x = y) : Ending.returned (.bool x) = .returned (.bool y) := by rw [h]

theorem in_case (x : Nat) (o0 o1 : Option Ordering) (h0 : FloatKind.f64.format.order x 0 = o0) (h1 : FloatKind.f64.format.order x 4607182418800017408 = o1) (w : World) :
    Calls Trym.prog 6 #[.float .f64 x] w fun e w' => e = .returned (.bool (inS x)) ∧ w' = w := by
  have HX : Hid (inS x = ((o0 == some .gt || o0 == some .eq) && (o1 == some .lt || o1 == some .eq))) := by
    have h0' : Ieee.double.order x 0 = o0 := h0
    have h1' : Ieee.double.order x 4607182418800017408 = o1 := h1
    unfold Hid inS Flt.le
    rw [h0', h1']
  rcases o0 with _ | (_ | _ | _) <;> rcases o1 with _ | (_ | _ | _)
  all_goals
    go_enter Trym.func6, Trym.ntmps6
    go_wp2
    go_ret
    exact ⟨ret_bool HX.out.symm, rfl⟩

/-- 'inShareB1' -/
theorem in_any (x : Nat) (w : World) : Calls Trym.prog 6 #[.float .f64 x] w fun e w' => e = .returned (.bool (inS x)) ∧ w' = w :=
  in_case x _ _ rfl rfl w
theorem in_yes (x : Nat) (h : inS x = true) (w : World) : Calls Trym.prog 6 #[.float .f64 x] w fun e w' => e = .returned (.bool true) ∧ w' = w := by
  have := in_any x w
  rwa [h] at this
theorem in_no (x : Nat) (h : inS x = false) (w : World) : Calls Trym.prog 6 #[.float .f64 x] w fun e w' => e = .returned (.bool false) ∧ w' = w := by
  have := in_any x w
  rwa [h] at this
end Go.Proofs.Qxb6605308aMods.InShare
