import Derived.Test.Qxb6604069aModsRows
import Derived.WalkKit
import Derived.ProofKit
import Derived.OpenShut
import Derived.ShutString
import Derived.Test.Qxb6604069aModsFnv
namespace Go.Proofs.Qxb6604069aMods.fnFnv1a32PublishedVectors
open Go.ChangeShapes Go.WideShapes Go.ChangeAt Go.RowKit
open Go.ChangeMaps (open_string shut_string)
set_option linter.unusedVariables false      -- a walk need not use every 'w<i>' (that an integer argument fits its kind)

theorem own : ownKnob Trym.prog.godebug = none := by kernel_rfl

/-! ### STEP 1: THE WALK: the Go text returns true. 'Grown w w'': the world has at most new blocks (Derived/RowKit3.lean). Part the cases AHEAD of 'go_enter' where a test parts the walk; take each callee by a contract of your own. -/
theorem vec0 : Fnv.fnvN [] = 2166136261 := by decide +kernel
theorem vec1 : Fnv.fnvN [97] = 3826002220 := by decide +kernel
theorem vec6 : Fnv.fnvN [102, 111, 111, 98, 97, 114] = 3214735720 := by decide +kernel
theorem call0 (w : World) : Calls Trym.prog 8 #[.string { data := #[] }] w fun e w' => e = .returned (.int .u32 2166136261) ∧ w' = w := by
  refine (Fnv.zz_any { data := #[] } w (by decide)).mono ?_
  rintro e w' ⟨he, hw⟩
  refine ⟨he.trans (Fnv.ret_int ?_), hw⟩
  exact congrArg Int.ofNat vec0
theorem call1 (w : World) : Calls Trym.prog 8 #[.string { data := #[97] }] w fun e w' => e = .returned (.int .u32 3826002220) ∧ w' = w := by
  refine (Fnv.zz_any { data := #[97] } w (by decide)).mono ?_
  rintro e w' ⟨he, hw⟩
  refine ⟨he.trans (Fnv.ret_int ?_), hw⟩
  exact congrArg Int.ofNat vec1
theorem call6 (w : World) : Calls Trym.prog 8 #[.string { data := #[102, 111, 111, 98, 97, 114] }] w fun e w' => e = .returned (.int .u32 3214735720) ∧ w' = w := by
  refine (Fnv.zz_any { data := #[102, 111, 111, 98, 97, 114] } w (by decide)).mono ?_
  rintro e w' ⟨he, hw⟩
  refine ⟨he.trans (Fnv.ret_int ?_), hw⟩
  exact congrArg Int.ofNat vec6

theorem walk  (w : World) :
    Calls Trym.prog 4 #[] w fun e w' => e = .returned (.bool true) ∧ Grown w w' := by
  go_enter Trym.func4, Trym.ntmps4
  go_wp2_with fail
  refine (call0 _).mono ?_
  rintro e w' ⟨rfl, rfl⟩
  go_wp2_with fail
  refine (call1 _).mono ?_
  rintro e w' ⟨rfl, rfl⟩
  go_wp2_with fail
  refine (call6 _).mono ?_
  rintro e w' ⟨rfl, rfl⟩
  go_wp2
  go_ret
  exact ⟨rfl, by repeat (first | exact Grown.refl _ | apply Grown.drew | apply Grown.alloc)⟩

/-! ### THE ROW's STEP: WRITTEN OUT: LEAVE IT -/
set_option maxRecDepth 100000 in
theorem lifted (os : Os) (started : os.Started) (H : Type) (enc : TypeId × Value → H) :
    ReturnsInHanded {} Trym.checked os 4 .any (Rows.fnFnv1a32PublishedVectorsSpec.pre6 enc Trym.prog Trym.f4 Rows.fnFnv1a32PublishedVectorsRow.domain false) (Rows.fnFnv1a32PublishedVectorsSpec.post enc Trym.prog Trym.f4 false true false false) := by
  refine returnsInHanded_of_change (C := Trym.checked) own started (by kernel_rfl) Trym.func4
    (ChangeSpec.witness6 (enc := enc) (C := Trym.checked) false ⟨#[], #[], []⟩ 8 (by kernel_rfl) (by kernel_rfl) (by kernel_rfl) (by kernel_rfl)) ?_
  intro W base args ds gs before hval0 hW hcnd _
  have hval : ∀ (j : Nat) t v, Trym.f4.params[j]? = some t → args[j]? = some v → Value.okWide Trym.prog W .any base t v := hval0
  have hW' := hW
  obtain ⟨p, q, hA0, hV, rfl, hfz, hnd⟩ := hW
  have hA : DataW.TrodAll enc Trym.prog W 0 (fun _ => true) true Trym.f4.params.toList args.toList ds p := hA0
  rw [Trym.params4] at hA hval
  obtain ⟨rfl, rfl, rfl⟩ := trodAll_none hA
  obtain ⟨rfl, rfl⟩ := trodVars_none hV
  clear hA0 hval0
  simp only [List.append_nil] at hW'
  refine (walk  W).mono fun e W' ⟨he, hg⟩ => ?_
  subst he
  exact ⟨_, rfl, post_of_same (pa := []) (pv := []) hW' (fun _ _ _ => (trodAll_cons_mk (shut_bool Trym.underlying4 _) trodAll_mk0)) (fun sp _ => rfl) (fun _ _ => rfl) rfl
    (hg.frame _) hg.2.1 (ok_one (by kernel_rfl) rfl (okWide_bool_mk Trym.underlying4 _))⟩

theorem over : Rows.fnFnv1a32PublishedVectorsRow.holds Trym.pinned (OpenSpec.ofChange Rows.fnFnv1a32PublishedVectorsSpec) :=
  OpenClaim.holds_of_wide 4 Trym.f4 rfl rfl rfl rfl rfl rfl rfl ⟨rfl, rfl, rfl, rfl, rfl⟩ rfl rfl rfl rfl rfl (by kernel_rfl) Trym.func4 (by kernel_rfl)
    (of_decide_eq_true (by kernel_rfl)) (by unfold Func.isWrapper; first | (rw [if_pos (by decide +kernel)]; kernel_rfl) | (rw [if_neg (by decide +kernel)]; exact ⟨rfl, rfl⟩))
    (fun os started H enc _ => lifted os started H enc)

/-- ████ THE STATEMENT ████ -/
theorem proved : Rows.FnFnv1a32PublishedVectorsSaid :=
  over
end Go.Proofs.Qxb6604069aMods.fnFnv1a32PublishedVectors
