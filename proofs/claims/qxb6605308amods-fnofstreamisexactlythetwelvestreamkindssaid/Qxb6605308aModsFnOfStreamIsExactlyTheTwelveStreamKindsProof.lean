import Derived.Test.Qxb6605308aModsRows
import Derived.WalkKit
import Derived.ProofKit
import Derived.OpenShut
import Derived.ShutString
import Derived.Laws.BitsAllLaws
namespace Go.Proofs.Qxb6605308aMods.fnOfStreamIsExactlyTheTwelveStreamKinds
open Go.ChangeShapes Go.WideShapes Go.ChangeAt Go.RowKit
open Go.ChangeMaps (open_string shut_string)
set_option linter.unusedVariables false      -- a walk need not use every 'w<i>' (that an integer argument fits its kind)

theorem own : ownKnob Trym.prog.godebug = none := by kernel_rfl

/-! ### STEP 1: THE WALK: the Go text returns true. 'Grown w w'': the world has at most new blocks (Derived/RowKit3.lean). Part the cases AHEAD of 'go_enter' where a test parts the walk; take each callee by a contract of your own. -/
/-- 'ofStream' of a byte whose other bits are x -/
def ofX (x : Int) : Bool := x == 4 || x == 5 || x == 8
/-- the table -/
def inTable (a : Int) : Bool := a == 4 || a == 5 || a == 8 || a == 20 || a == 21 || a == 24 || a == 68 || a == 69 || a == 72 || a == 84 || a == 85 || a == 88

/-- The plain law, byte by byte. -/
theorem same_nat : ∀ k : Fin 256, ofX ((k.val &&& 175 : Nat) : Int) = inTable ((k.val : Nat) : Int) := by decide +kernel
theorem same (a : Int) (h1 : 0 ≤ a) (h2 : a < 256) : ofX (bits BinOp.andNot IntKind.u8 a 80) = inTable a := by
  obtain ⟨k, rfl⟩ := Int.eq_ofNat_of_zero_le h1
  have hk : k < 256 := by omega
  have e := u8_andNot_nat k 80 hk (by omega)
  have s := same_nat ⟨k, hk⟩
  have e2 : bits BinOp.andNot IntKind.u8 (k : Int) 80 = ((k &&& 175 : Nat) : Int) := e
  rw [e2]
  exact s

theorem ret_bool {x y : Bool} (h : x = y) : Ending.returned (.bool x) = .returned (.bool y) := by rw [h]
theorem of_any (a : Int) (w : World) : Calls Trym.prog 12 #[.int .u8 a] w fun e w' => e = .returned (.bool (ofX (bits BinOp.andNot IntKind.u8 a 80))) ∧ w' = w := by
  cases h4 : bits BinOp.andNot IntKind.u8 a 80 == 4 with
  | true =>
    have HX : Hid (ofX (bits BinOp.andNot IntKind.u8 a 80) = true) := by unfold Hid ofX; rw [h4]; simp
    go_enter Trym.func12, Trym.ntmps12
    go_wp2
    go_ret
    exact ⟨ret_bool HX.out.symm, rfl⟩
  | false =>
    cases h5 : bits BinOp.andNot IntKind.u8 a 80 == 5 with
    | true =>
      have HX : Hid (ofX (bits BinOp.andNot IntKind.u8 a 80) = true) := by unfold Hid ofX; rw [h4, h5]; simp
      go_enter Trym.func12, Trym.ntmps12
      go_wp2
      go_ret
      exact ⟨ret_bool HX.out.symm, rfl⟩
    | false =>
      cases h8 : bits BinOp.andNot IntKind.u8 a 80 == 8 with
      | true =>
        have HX : Hid (ofX (bits BinOp.andNot IntKind.u8 a 80) = true) := by unfold Hid ofX; rw [h4, h5, h8]; simp
        go_enter Trym.func12, Trym.ntmps12
        go_wp2
        go_ret
        exact ⟨ret_bool HX.out.symm, rfl⟩
      | false =>
        have HX : Hid (ofX (bits BinOp.andNot IntKind.u8 a 80) = false) := by unfold Hid ofX; rw [h4, h5, h8]; simp
        go_enter Trym.func12, Trym.ntmps12
        go_wp2
        go_ret
        exact ⟨ret_bool HX.out.symm, rfl⟩

theorem zz_any (a : Int) (w : World) : Calls Trym.prog 9 #[.int .u8 a] w fun e w' => e = .returned (.bool (ofX (bits BinOp.andNot IntKind.u8 a 80))) ∧ w' = w := by
  go_enter Trym.func9, Trym.ntmps9
  go_wp2_with fail
  refine (of_any a w).mono ?_
  rintro e w' ⟨rfl, rfl⟩
  go_wp2_with fail
  go_ret
  exact ⟨rfl, rfl⟩

theorem table_any (a : Int) (w : World) : Calls Trym.prog 10 #[.int .u8 a] w fun e w' => e = .returned (.bool (inTable a)) ∧ w' = w := by
  go_enter Trym.func10, Trym.ntmps10
  go_wp2
  all_goals
    go_ret
    first
      | refine ⟨ret_bool (x := true) ?_, rfl⟩
      | refine ⟨ret_bool (x := false) ?_, rfl⟩
    simp [inTable, *]

theorem walk (a0 : Int) (w0 : (Lit.int .u8 a0).wf = true) (w : World) :
    Calls Trym.prog 5 #[.int .u8 a0] w fun e w' => e = .returned (.bool true) ∧ Grown w w' := by
  have hb := bounds_u8 w0
  have HS : Hid (ofX (bits BinOp.andNot IntKind.u8 a0 80) = inTable a0) := same a0 (by omega) (by omega)
  clear hb w0
  go_enter Trym.func5, Trym.ntmps5
  go_wp2_with fail
  refine (zz_any a0 w).mono ?_
  rintro e w' ⟨rfl, rfl⟩
  go_wp2_with fail
  refine (table_any a0 _).mono ?_
  rintro e w' ⟨rfl, rfl⟩
  go_wp2_with fail
  go_ret
  exact ⟨congrArg (fun b => Ending.returned (.bool b)) (beq_iff_eq.2 HS.out), Grown.refl _⟩

/-! ### THE ROW's STEP: WRITTEN OUT: LEAVE IT -/
set_option maxRecDepth 100000 in
theorem lifted (os : Os) (started : os.Started) (H : Type) (enc : TypeId × Value → H) :
    ReturnsInHanded {} Trym.checked os 5 .any (Rows.fnOfStreamIsExactlyTheTwelveStreamKindsSpec.pre6 enc Trym.prog Trym.f5 Rows.fnOfStreamIsExactlyTheTwelveStreamKindsRow.domain false) (Rows.fnOfStreamIsExactlyTheTwelveStreamKindsSpec.post enc Trym.prog Trym.f5 false true false false) := by
  refine returnsInHanded_of_change (C := Trym.checked) own started (by kernel_rfl) Trym.func5
    (ChangeSpec.witness6 (enc := enc) (C := Trym.checked) false ⟨#[], #[.int .u8 0], []⟩ 8 (by kernel_rfl) (by kernel_rfl) (by kernel_rfl) (by kernel_rfl)) ?_
  intro W base args ds gs before hval0 hW hcnd _
  have hval : ∀ (j : Nat) t v, Trym.f5.params[j]? = some t → args[j]? = some v → Value.okWide Trym.prog W .any base t v := hval0
  have hW' := hW
  obtain ⟨p, q, hA0, hV, rfl, hfz, hnd⟩ := hW
  have hA : DataW.TrodAll enc Trym.prog W 0 (fun _ => true) true Trym.f5.params.toList args.toList ds p := hA0
  rw [Trym.params5] at hA hval
  obtain ⟨v0, vs0, d0, ds0, p0, q0, hargs, rfl, rfl, h0, r0⟩ := trodAll_cons hA
  obtain ⟨rfl, rfl, rfl⟩ := trodAll_nil r0
  obtain rfl : args = #[v0] := by cases args; simp_all
  obtain ⟨rfl, rfl⟩ := trodVars_none hV
  obtain ⟨a0, rfl, rfl, rfl, w0⟩ := open_int Trym.underlying5 (hval 0 5 v0 rfl rfl) h0
  clear hA0 hval0
  simp only [List.append_nil] at hW'
  refine (walk a0 w0 W).mono fun e W' ⟨he, hg⟩ => ?_
  subst he
  exact ⟨_, rfl, post_of_same (pa := []) (pv := []) hW' (fun _ _ _ => (trodAll_cons_mk (shut_bool Trym.underlying4 _) trodAll_mk0)) (fun sp _ => (trodAll_cons_mk (shut_int Trym.underlying5 w0) trodAll_mk0)) (fun _ _ => rfl) rfl
    (hg.frame _) hg.2.1 (ok_one (by kernel_rfl) rfl (okWide_bool_mk Trym.underlying4 _))⟩

theorem over : Rows.fnOfStreamIsExactlyTheTwelveStreamKindsRow.holds Trym.pinned (OpenSpec.ofChange Rows.fnOfStreamIsExactlyTheTwelveStreamKindsSpec) :=
  OpenClaim.holds_of_wide 5 Trym.f5 rfl rfl rfl rfl rfl rfl rfl ⟨rfl, rfl, rfl, rfl, rfl⟩ rfl rfl rfl rfl rfl (by kernel_rfl) Trym.func5 (by kernel_rfl)
    (of_decide_eq_true (by kernel_rfl)) (by unfold Func.isWrapper; first | (rw [if_pos (by decide +kernel)]; kernel_rfl) | (rw [if_neg (by decide +kernel)]; exact ⟨rfl, rfl⟩))
    (fun os started H enc _ => lifted os started H enc)

/-- ████ THE STATEMENT ████ -/
theorem proved : Rows.FnOfStreamIsExactlyTheTwelveStreamKindsSaid :=
  over
end Go.Proofs.Qxb6605308aMods.fnOfStreamIsExactlyTheTwelveStreamKinds
