import Derived.Test.Qxb6605308aModsShare
namespace Go.Proofs.Qxb6605308aMods.Law4
open Go.ChangeShapes Go.WideShapes Go.ChangeAt Go.RowKit
open PowN (C)
set_option linter.unusedVariables false

theorem walk_case (pw : Nat → Nat) (ma mb : Nat) (ga gb : Nat → Bool) (hA : Send.Powers pw ma ga) (hB : Send.Powers pw mb gb) (hin : InShare.inS (pw 0) = true)
    (o : Option Ordering) (ho : FloatKind.f64.format.order ma mb = o) (hm : (o = some .lt ∨ o = some .eq) → C gb 7 ≤ C ga 7) (w : World) :
    Calls Trym.prog 4 #[.float .f64 (pw 0), .float .f64 ma, .float .f64 mb] w fun e w' => e = .returned (.bool true) ∧ w' = w := by
  rcases o with _ | (_ | _ | _)
  case some.lt =>
    have hle := hm (.inl rfl)
    clear hm
    go_enter Trym.func4, Trym.ntmps4
    go_wp2_with fail
    refine (InShare.in_yes (pw 0) hin w).mono ?_
    rintro e w' ⟨rfl, rfl⟩
    go_wp2_with fail
    refine (Send.zz_any pw ma ga hA _).mono ?_
    rintro e w' ⟨rfl, rfl⟩
    go_wp2_with fail
    refine (Send.zz_any pw mb gb hB _).mono ?_
    rintro e w' ⟨rfl, rfl⟩
    go_wp2_with fail
    refine (Send.count_any pw ma ga hA _).mono ?_
    rintro e w' ⟨rfl, rfl⟩
    go_wp2_with fail
    refine (Send.count_any pw mb gb hB _).mono ?_
    rintro e w' ⟨rfl, rfl⟩
    go_wp2_with fail
    go_ret
    exact ⟨rfl, rfl⟩
  case some.eq =>
    have hle := hm (.inr rfl)
    clear hm
    go_enter Trym.func4, Trym.ntmps4
    go_wp2_with fail
    refine (InShare.in_yes (pw 0) hin w).mono ?_
    rintro e w' ⟨rfl, rfl⟩
    go_wp2_with fail
    refine (Send.zz_any pw ma ga hA _).mono ?_
    rintro e w' ⟨rfl, rfl⟩
    go_wp2_with fail
    refine (Send.zz_any pw mb gb hB _).mono ?_
    rintro e w' ⟨rfl, rfl⟩
    go_wp2_with fail
    refine (Send.count_any pw ma ga hA _).mono ?_
    rintro e w' ⟨rfl, rfl⟩
    go_wp2_with fail
    refine (Send.count_any pw mb gb hB _).mono ?_
    rintro e w' ⟨rfl, rfl⟩
    go_wp2_with fail
    go_ret
    exact ⟨rfl, rfl⟩
  case none =>
    clear hm
    go_enter Trym.func4, Trym.ntmps4
    go_wp2_with fail
    refine (InShare.in_yes (pw 0) hin w).mono ?_
    rintro e w' ⟨rfl, rfl⟩
    go_wp2_with fail
    refine (Send.zz_any pw ma ga hA _).mono ?_
    rintro e w' ⟨rfl, rfl⟩
    go_wp2_with fail
    refine (Send.zz_any pw mb gb hB _).mono ?_
    rintro e w' ⟨rfl, rfl⟩
    go_wp2_with fail
    refine (Send.count_any pw ma ga hA _).mono ?_
    rintro e w' ⟨rfl, rfl⟩
    go_wp2_with fail
    refine (Send.count_any pw mb gb hB _).mono ?_
    rintro e w' ⟨rfl, rfl⟩
    go_wp2_with fail
    go_ret
    exact ⟨rfl, rfl⟩
  case some.gt =>
    clear hm
    go_enter Trym.func4, Trym.ntmps4
    go_wp2_with fail
    refine (InShare.in_yes (pw 0) hin w).mono ?_
    rintro e w' ⟨rfl, rfl⟩
    go_wp2_with fail
    refine (Send.zz_any pw ma ga hA _).mono ?_
    rintro e w' ⟨rfl, rfl⟩
    go_wp2_with fail
    refine (Send.zz_any pw mb gb hB _).mono ?_
    rintro e w' ⟨rfl, rfl⟩
    go_wp2_with fail
    refine (Send.count_any pw ma ga hA _).mono ?_
    rintro e w' ⟨rfl, rfl⟩
    go_wp2_with fail
    refine (Send.count_any pw mb gb hB _).mono ?_
    rintro e w' ⟨rfl, rfl⟩
    go_wp2_with fail
    go_ret
    exact ⟨rfl, rfl⟩

/-- the law at whatever three floats -/
theorem walk (l ma mb : Nat) (w : World) :
    Calls Trym.prog 4 #[.float .f64 l, .float .f64 ma, .float .f64 mb] w fun e w' => e = .returned (.bool true) ∧ w' = w := by
  cases hin : InShare.inS l with
  | false =>
    go_enter Trym.func4, Trym.ntmps4
    go_wp2_with fail
    refine (InShare.in_no l hin w).mono ?_
    rintro e w' ⟨rfl, rfl⟩
    go_wp2_with fail
    go_ret
    exact ⟨rfl, rfl⟩
  | true =>
    have hs := InShare.share_of_inS hin
    have hm : ∀ o, FloatKind.f64.format.order ma mb = o → (o = some .lt ∨ o = some .eq) → C (PowN.g l mb) 7 ≤ C (PowN.g l ma) 7 := by
      intro o ho hc
      refine PowN.C_mono (fun k hk => PowN.g_miss l ?_ k hk) 7
      have ho' : Ieee.double.order ma mb = o := ho
      unfold Flt.le
      rw [ho']
      rcases hc with rfl | rfl <;> rfl
    exact walk_case (PowN.pw l) ma mb (PowN.g l ma) (PowN.g l mb) (Send.powers_of hs ma) (Send.powers_of hs mb) hin _ rfl (hm _ rfl) w
end Go.Proofs.Qxb6605308aMods.Law4
