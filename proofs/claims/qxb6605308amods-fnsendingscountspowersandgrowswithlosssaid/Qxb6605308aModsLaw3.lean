import Derived.Test.Qxb6605308aModsShare
namespace Go.Proofs.Qxb6605308aMods.Law3
open Go.ChangeShapes Go.WideShapes Go.ChangeAt Go.RowKit
open PowN (C)
set_option linter.unusedVariables false

theorem walk_case (pa pb : Nat → Nat) (m : Nat) (ga gb : Nat → Bool) (hA : Send.Powers pa m ga) (hB : Send.Powers pb m gb) (hia : InShare.inS (pa 0) = true) (hib : InShare.inS (pb 0) = true)
    (o : Option Ordering) (ho : FloatKind.f64.format.order (pa 0) (pb 0) = o) (hm : (o = some .lt ∨ o = some .eq) → C ga 7 ≤ C gb 7) (w : World) :
    Calls Trym.prog 3 #[.float .f64 (pa 0), .float .f64 (pb 0), .float .f64 m] w fun e w' => e = .returned (.bool true) ∧ w' = w := by
  rcases o with _ | (_ | _ | _)
  case some.lt =>
    have hle := hm (.inl rfl)
    clear hm
    go_enter Trym.func3, Trym.ntmps3
    go_wp2_with fail
    refine (InShare.in_yes (pa 0) hia w).mono ?_
    rintro e w' ⟨rfl, rfl⟩
    go_wp2_with fail
    refine (InShare.in_yes (pb 0) hib _).mono ?_
    rintro e w' ⟨rfl, rfl⟩
    go_wp2_with fail
    refine (Send.zz_any pa m ga hA _).mono ?_
    rintro e w' ⟨rfl, rfl⟩
    go_wp2_with fail
    refine (Send.zz_any pb m gb hB _).mono ?_
    rintro e w' ⟨rfl, rfl⟩
    go_wp2_with fail
    refine (Send.count_any pa m ga hA _).mono ?_
    rintro e w' ⟨rfl, rfl⟩
    go_wp2_with fail
    refine (Send.count_any pb m gb hB _).mono ?_
    rintro e w' ⟨rfl, rfl⟩
    go_wp2_with fail
    go_ret
    exact ⟨rfl, rfl⟩
  case some.eq =>
    have hle := hm (.inr rfl)
    clear hm
    go_enter Trym.func3, Trym.ntmps3
    go_wp2_with fail
    refine (InShare.in_yes (pa 0) hia w).mono ?_
    rintro e w' ⟨rfl, rfl⟩
    go_wp2_with fail
    refine (InShare.in_yes (pb 0) hib _).mono ?_
    rintro e w' ⟨rfl, rfl⟩
    go_wp2_with fail
    refine (Send.zz_any pa m ga hA _).mono ?_
    rintro e w' ⟨rfl, rfl⟩
    go_wp2_with fail
    refine (Send.zz_any pb m gb hB _).mono ?_
    rintro e w' ⟨rfl, rfl⟩
    go_wp2_with fail
    refine (Send.count_any pa m ga hA _).mono ?_
    rintro e w' ⟨rfl, rfl⟩
    go_wp2_with fail
    refine (Send.count_any pb m gb hB _).mono ?_
    rintro e w' ⟨rfl, rfl⟩
    go_wp2_with fail
    go_ret
    exact ⟨rfl, rfl⟩
  case none =>
    clear hm
    go_enter Trym.func3, Trym.ntmps3
    go_wp2_with fail
    refine (InShare.in_yes (pa 0) hia w).mono ?_
    rintro e w' ⟨rfl, rfl⟩
    go_wp2_with fail
    refine (InShare.in_yes (pb 0) hib _).mono ?_
    rintro e w' ⟨rfl, rfl⟩
    go_wp2_with fail
    refine (Send.zz_any pa m ga hA _).mono ?_
    rintro e w' ⟨rfl, rfl⟩
    go_wp2_with fail
    refine (Send.zz_any pb m gb hB _).mono ?_
    rintro e w' ⟨rfl, rfl⟩
    go_wp2_with fail
    refine (Send.count_any pa m ga hA _).mono ?_
    rintro e w' ⟨rfl, rfl⟩
    go_wp2_with fail
    refine (Send.count_any pb m gb hB _).mono ?_
    rintro e w' ⟨rfl, rfl⟩
    go_wp2_with fail
    go_ret
    exact ⟨rfl, rfl⟩
  case some.gt =>
    clear hm
    go_enter Trym.func3, Trym.ntmps3
    go_wp2_with fail
    refine (InShare.in_yes (pa 0) hia w).mono ?_
    rintro e w' ⟨rfl, rfl⟩
    go_wp2_with fail
    refine (InShare.in_yes (pb 0) hib _).mono ?_
    rintro e w' ⟨rfl, rfl⟩
    go_wp2_with fail
    refine (Send.zz_any pa m ga hA _).mono ?_
    rintro e w' ⟨rfl, rfl⟩
    go_wp2_with fail
    refine (Send.zz_any pb m gb hB _).mono ?_
    rintro e w' ⟨rfl, rfl⟩
    go_wp2_with fail
    refine (Send.count_any pa m ga hA _).mono ?_
    rintro e w' ⟨rfl, rfl⟩
    go_wp2_with fail
    refine (Send.count_any pb m gb hB _).mono ?_
    rintro e w' ⟨rfl, rfl⟩
    go_wp2_with fail
    go_ret
    exact ⟨rfl, rfl⟩

/-- the law at whatever three floats -/
theorem walk (a b m : Nat) (w : World) :
    Calls Trym.prog 3 #[.float .f64 a, .float .f64 b, .float .f64 m] w fun e w' => e = .returned (.bool true) ∧ w' = w := by
  cases hia : InShare.inS a with
  | false =>
    go_enter Trym.func3, Trym.ntmps3
    go_wp2_with fail
    refine (InShare.in_no a hia w).mono ?_
    rintro e w' ⟨rfl, rfl⟩
    go_wp2_with fail
    go_ret
    exact ⟨rfl, rfl⟩
  | true =>
    cases hib : InShare.inS b with
    | false =>
      go_enter Trym.func3, Trym.ntmps3
      go_wp2_with fail
      refine (InShare.in_yes a hia w).mono ?_
      rintro e w' ⟨rfl, rfl⟩
      go_wp2_with fail
      refine (InShare.in_no b hib _).mono ?_
      rintro e w' ⟨rfl, rfl⟩
      go_wp2_with fail
      go_ret
      exact ⟨rfl, rfl⟩
    | true =>
      have ha := InShare.share_of_inS hia
      have hb := InShare.share_of_inS hib
      have hm : ∀ o, FloatKind.f64.format.order a b = o → (o = some .lt ∨ o = some .eq) → C (PowN.g a m) 7 ≤ C (PowN.g b m) 7 := by
        intro o ho hc
        refine PowN.C_mono (fun k hk => PowN.g_loss ha hb ?_ m k hk) 7
        have ho' : Ieee.double.order a b = o := ho
        unfold Flt.le
        rw [ho']
        rcases hc with rfl | rfl <;> rfl
      exact walk_case (PowN.pw a) (PowN.pw b) m (PowN.g a m) (PowN.g b m) (Send.powers_of ha m) (Send.powers_of hb m) hia hib _ rfl (hm _ rfl) w
end Go.Proofs.Qxb6605308aMods.Law3
