import Derived.Test.Qxb6605308aModsRows
import Derived.Test.Qxb6605308aModsPow
import Derived.WalkKit
import Derived.ProofKit
import Derived.WalkLawsBesides
import Derived.Laws.FloatArith
namespace Go.Proofs.Qxb6605308aMods.Send
open Go.ChangeShapes Go.WideShapes Go.ChangeAt Go.RowKit
open PowN (C)
set_option linter.unusedVariables false

/-- What the two walks ask of a row of powers 'pw' and of its tests against 'm'. -/
structure Powers (pw : Nat → Nat) (m : Nat) (g : Nat → Bool) : Prop where
  mul : ∀ k w, (binOp .mul 22 (.float .f64 (pw k)) (.float .f64 (pw 0))).run Trym.prog w = .ok (.float .f64 (pw (k + 1))) w
  test : ∀ k, (FloatKind.f64.format.order (pw k) m == some .gt) = g k
  fall : ∀ k, g (k + 1) = true → g k = true

theorem ret_int {k : IntKind} {a b : Int} (h : a = b) : Ending.returned (.int k a) = .returned (.int k b) := by rw [h]

theorem send_any (pw : Nat → Nat) (m : Nat) (g : Nat → Bool) (hP : Powers pw m g) (w : World) :
    Calls Trym.prog 11 #[.float .f64 (pw 0), .float .f64 m] w fun e w' => e = .returned (.int .i64 ((1 + C g 7 : Nat) : Int)) ∧ w' = w := by
  go_enter Trym.func11, Trym.ntmps11
  go_wp2
  go_loop [5, 6] (fun n a => ∃ k : Nat, k ≤ 7 ∧ n = .int .i64 ((k + 1 : Nat) : Int) ∧ a = .float .f64 (pw k) ∧ Hid (C g k = k)) (fun n _ => 8 - (intOf n).toNat)
  case atStart => exact ⟨0, by omega, rfl, rfl, rfl⟩
  case round =>
    obtain ⟨k, hk, rfl, rfl, hC⟩ := hrel
    have hmul := hP.mul k
    cases hg : g k with
    | true =>
      have ht : (FloatKind.f64.format.order (pw k) m == some .gt) = true := (hP.test k).trans hg
      by_cases hlt : k < 7
      · have hC' : Hid (C g (k + 1) = k + 1) := (PowN.C_yes g k hg).trans (congrArg (· + 1) hC.out)
        clear hg hP
        go_wp2
        go_round
        case rel => exact ⟨k + 1, by omega, by go_num, rfl, hC'⟩
        case measure => simp [intOf]; omega
      · obtain rfl : k = 7 := by omega
        clear hg hP
        go_wp2
        go_ret
        exact ⟨ret_int (by have := hC.out; omega), rfl⟩
    | false =>
      have ht : (FloatKind.f64.format.order (pw k) m == some .gt) = false := (hP.test k).trans hg
      have hC' : Hid (C g 7 = k) := by
        have h := PowN.C_stop hP.fall hg (7 - k)
        rw [show k + (7 - k) = 7 from by omega] at h
        exact h.trans hC.out
      clear hg hP
      go_wp2
      go_ret
      exact ⟨ret_int (by have := hC'.out; omega), rfl⟩

theorem zz_any (pw : Nat → Nat) (m : Nat) (g : Nat → Bool) (hP : Powers pw m g) (w : World) :
    Calls Trym.prog 7 #[.float .f64 (pw 0), .float .f64 m] w fun e w' => e = .returned (.int .i64 ((1 + C g 7 : Nat) : Int)) ∧ w' = w := by
  go_enter Trym.func7, Trym.ntmps7
  go_wp2_with fail
  refine (send_any pw m g hP w).mono ?_
  rintro e w' ⟨rfl, rfl⟩
  go_wp2_with fail
  go_ret
  exact ⟨rfl, rfl⟩

theorem count_any (pw : Nat → Nat) (m : Nat) (g : Nat → Bool) (hP : Powers pw m g) (w : World) :
    Calls Trym.prog 8 #[.float .f64 (pw 0), .float .f64 m] w fun e w' => e = .returned (.int .i64 ((1 + C g 7 : Nat) : Int)) ∧ w' = w := by
  go_enter Trym.func8, Trym.ntmps8
  go_wp2
  go_loop [5, 6, 7] (fun c p i => ∃ k : Nat, k ≤ 7 ∧ i = .int .i64 ((k + 1 : Nat) : Int) ∧ p = .float .f64 (pw k) ∧ c = .int .i64 ((C g k : Nat) : Int)) (fun _ _ i => 8 - (intOf i).toNat)
  case atStart => exact ⟨0, by omega, rfl, rfl, rfl⟩
  case round =>
    obtain ⟨k, hk, rfl, rfl, rfl⟩ := hrel
    have hmul := hP.mul k
    have hCk := PowN.C_le g k
    by_cases hlt : k < 7
    · cases hg : g k with
      | true =>
        have ht : (FloatKind.f64.format.order (pw k) m == some .gt) = true := (hP.test k).trans hg
        have hC' : Hid (C g (k + 1) = C g k + 1) := PowN.C_yes g k hg
        clear hg hP
        go_wp2
        go_round
        case rel => exact ⟨k + 1, by omega, by go_num, rfl, by rw [hC'.out]; go_num⟩
        case measure => simp [intOf]; omega
      | false =>
        have ht : (FloatKind.f64.format.order (pw k) m == some .gt) = false := (hP.test k).trans hg
        have hC' : Hid (C g (k + 1) = C g k) := PowN.C_no g k hg
        clear hg hP
        go_wp2
        go_round
        case rel => exact ⟨k + 1, by omega, by go_num, rfl, by rw [hC'.out]⟩
        case measure => simp [intOf]; omega
    · obtain rfl : k = 7 := by omega
      clear hP
      go_wp2
      go_ret
      exact ⟨ret_int (by omega), rfl⟩

/-- A share's powers are such a row. -/
theorem powers_of {l : Nat} (h : PowN.Share l) (m : Nat) : Powers (PowN.pw l) m (PowN.g l m) :=
  ⟨fun k w => run_float_arith w .mul 22 .f64 _ _ _ (PowN.pw_mul h k), fun k => PowN.g_order h m k, fun k => PowN.g_fall h m k⟩
end Go.Proofs.Qxb6605308aMods.Send
