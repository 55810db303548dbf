import Derived.Test.Qxb6604069aModsRows
import Derived.WalkKit
import Derived.ProofKit
import Derived.OpenShut
import Derived.ShutString
import Derived.Test.Qxb6604069aModsFnv
namespace Go.Proofs.Qxb6604069aMods.fnFnv1a32UnwindsOneByteAtATime
open Go.ChangeShapes Go.WideShapes Go.ChangeAt Go.RowKit
open Go.ChangeMaps (open_string shut_string)
set_option linter.unusedVariables false      -- a walk need not use every 'w<i>' (that an integer argument fits its kind)

theorem own : ownKnob Trym.prog.godebug = none := by kernel_rfl

/-! ### STEP 1: THE WALK: the Go text returns true. 'Grown w w'': the world has at most new blocks (Derived/RowKit3.lean). Part the cases AHEAD of 'go_enter' where a test parts the walk; take each callee by a contract of your own. -/
theorem vec0 : Fnv.fnvN [] = 2166136261 := by decide +kernel
/-- The plain law: one round is undone by the prime's inverse and the byte. -/
theorem inv_mul (x : Nat) (hx : x < 4294967296) : x * 16777619 % 4294967296 * 899433627 % 4294967296 = x := by
  omega
theorem undo (h : Nat) (hh : h < 4294967296) (c : UInt8) :
    (Fnv.stepN h c * 899433627 % 4294967296) ^^^ c.toNat = h := by
  have hc := Fnv.byte_lt c
  have hx : h ^^^ c.toNat < 4294967296 := Nat.xor_lt_two_pow (n := 32) hh (by omega)
  have e : Fnv.stepN h c * 899433627 % 4294967296 = h ^^^ c.toNat := by
    unfold Fnv.stepN
    exact inv_mul _ hx
  rw [e, Nat.xor_assoc, Nat.xor_self, Nat.xor_zero]

theorem undo_walk (h : Nat) (hh : h < 4294967296) (c : UInt8) :
    bits BinOp.xor IntKind.u32 (((Fnv.stepN h c : Nat) : Int) * 899433627 % 4294967296) ((c.toNat : Int) % 4294967296) = (h : Int) := by
  have hc := Fnv.byte_lt c
  have e1 : ((c.toNat : Int) % 4294967296) = (c.toNat : Int) := by omega
  have e2 : (((Fnv.stepN h c : Nat) : Int) * 899433627 % 4294967296) = ((Fnv.stepN h c * 899433627 % 4294967296 : Nat) : Int) := by omega
  rw [e1, e2, u32_xor_nat _ _ (Nat.mod_lt _ (by omega)) (by omega), undo h hh c]
theorem last_walk (s : ByteArray) (h : s.size - 1 < s.size) :
    (bits BinOp.xor IntKind.u32 (((Fnv.fnvN s.data.toList : Nat) : Int) * 899433627 % 4294967296) ((s[s.size - 1].toNat : Int) % 4294967296) == ((Fnv.fnvN s.data.toList.dropLast : Nat) : Int)) = true := by
  have hsz : s.data.toList.length = s.size := by simp
  have e1 : s.data.toList.dropLast = s.data.toList.take (s.size - 1) := by rw [List.dropLast_eq_take, hsz]
  have e2 : s.data.toList = s.data.toList.take (s.size - 1) ++ [s[s.size - 1]] := by
    rw [← Fnv.take_snoc s (s.size - 1) h, List.take_of_length_le (by omega)]
  rw [e1]
  have e3 : Fnv.fnvN s.data.toList = Fnv.stepN (Fnv.fnvN (s.data.toList.take (s.size - 1))) s[s.size - 1] := by
    rw [← Fnv.fnvN_snoc, ← e2]
  rw [e3, undo_walk _ (Fnv.fnvN_lt _)]
  exact beq_self_eq_true _

theorem bytes_small (s : ByteArray) (hs : s.size ≤ 1048576) (w : World) :
    Calls Trym.prog 7 #[.string s] w fun e w' => e = .returned (.bool true) ∧ w' = w := by
  go_enter Trym.func7, Trym.ntmps7
  go_wp2
  go_ret
  exact ⟨rfl, rfl⟩
theorem bytes_big (s : ByteArray) (hs : 1048576 < s.size) (hm : s.size ≤ 2 ^ 63 - 1) (w : World) :
    Calls Trym.prog 7 #[.string s] w fun e w' => e = .returned (.bool false) ∧ w' = w := by
  go_enter Trym.func7, Trym.ntmps7
  go_wp2
  go_ret
  exact ⟨rfl, rfl⟩

theorem walk (a0 : ByteArray) (w0 : a0.size ≤ maxLen) (w : World) :
    Calls Trym.prog 3 #[.string a0] w fun e w' => e = .returned (.bool true) ∧ Grown w w' := by
  unfold maxLen at w0
  by_cases hb : 1048576 < a0.size
  · go_enter Trym.func3, Trym.ntmps3
    go_wp2_with (go_at_call 7; refine (bytes_big a0 hb w0 _).mono ?_; rintro e w' ⟨rfl, rfl⟩)
    go_ret
    exact ⟨rfl, by repeat (first | exact Grown.refl _ | apply Grown.drew | apply Grown.alloc)⟩
  · have hb' : a0.size ≤ 1048576 := by omega
    by_cases hz : a0.size = 0
    · have hzb : ((a0.size : Int) == 0) = true := beq_iff_eq.2 (by omega)
      have hd : a0.data.toList = [] := List.eq_nil_of_length_eq_zero (by simpa using hz)
      have HB : Hid ((((Fnv.fnvN a0.data.toList : Nat) : Int) == 2166136261) = true) := by rw [hd]; exact beq_iff_eq.2 (congrArg Int.ofNat vec0)
      clear hd hz
      go_enter Trym.func3, Trym.ntmps3
      go_wp2_with fail
      refine (bytes_small a0 hb' _).mono ?_
      rintro e w' ⟨rfl, rfl⟩
      go_wp2_with fail
      refine (Fnv.zz_any a0 _ w0).mono ?_
      rintro e w' ⟨rfl, rfl⟩
      go_wp2
      go_ret
      exact ⟨congrArg (fun b => Ending.returned (.bool b)) HB.out, Grown.refl _⟩
    · go_enter Trym.func3, Trym.ntmps3
      go_wp2_with fail
      refine (bytes_small a0 hb' _).mono ?_
      rintro e w' ⟨rfl, rfl⟩
      go_wp2_with fail
      refine (Fnv.zz_any a0 _ w0).mono ?_
      rintro e w' ⟨rfl, rfl⟩
      go_wp2_with fail
      refine (Fnv.zz_any (a0.extract 0 (a0.size - 1)) _ (by simp; unfold maxLen; omega)).mono ?_
      rintro e w' ⟨rfl, rfl⟩
      go_wp2
      go_ret
      exact ⟨congrArg (fun b => Ending.returned (.bool b)) (last_walk a0 (by omega)), Grown.refl _⟩

/-! ### THE ROW's STEP: WRITTEN OUT: LEAVE IT -/
set_option maxRecDepth 100000 in
theorem lifted (os : Os) (started : os.Started) (H : Type) (enc : TypeId × Value → H) :
    ReturnsInHanded {} Trym.checked os 3 .any (Rows.fnFnv1a32UnwindsOneByteAtATimeSpec.pre6 enc Trym.prog Trym.f3 Rows.fnFnv1a32UnwindsOneByteAtATimeRow.domain false) (Rows.fnFnv1a32UnwindsOneByteAtATimeSpec.post enc Trym.prog Trym.f3 false true false false) := by
  refine returnsInHanded_of_change (C := Trym.checked) own started (by kernel_rfl) Trym.func3
    (ChangeSpec.witness6 (enc := enc) (C := Trym.checked) false ⟨#[], #[.string ByteArray.empty], []⟩ 8 (by kernel_rfl) (by kernel_rfl) (by kernel_rfl) (by kernel_rfl)) ?_
  intro W base args ds gs before hval0 hW hcnd _
  have hval : ∀ (j : Nat) t v, Trym.f3.params[j]? = some t → args[j]? = some v → Value.okWide Trym.prog W .any base t v := hval0
  have hW' := hW
  obtain ⟨p, q, hA0, hV, rfl, hfz, hnd⟩ := hW
  have hA : DataW.TrodAll enc Trym.prog W 0 (fun _ => true) true Trym.f3.params.toList args.toList ds p := hA0
  rw [Trym.params3] at hA hval
  obtain ⟨v0, vs0, d0, ds0, p0, q0, hargs, rfl, rfl, h0, r0⟩ := trodAll_cons hA
  obtain ⟨rfl, rfl, rfl⟩ := trodAll_nil r0
  obtain rfl : args = #[v0] := by cases args; simp_all
  obtain ⟨rfl, rfl⟩ := trodVars_none hV
  obtain ⟨a0, rfl, rfl, rfl, w0⟩ := open_string Trym.underlying9 (hval 0 9 v0 rfl rfl) h0
  clear hA0 hval0
  simp only [List.append_nil] at hW'
  refine (walk a0 w0 W).mono fun e W' ⟨he, hg⟩ => ?_
  subst he
  exact ⟨_, rfl, post_of_same (pa := []) (pv := []) hW' (fun _ _ _ => (trodAll_cons_mk (shut_bool Trym.underlying4 _) trodAll_mk0)) (fun sp _ => (trodAll_cons_mk (shut_string Trym.underlying9 w0) trodAll_mk0)) (fun _ _ => rfl) rfl
    (hg.frame _) hg.2.1 (ok_one (by kernel_rfl) rfl (okWide_bool_mk Trym.underlying4 _))⟩

theorem over : Rows.fnFnv1a32UnwindsOneByteAtATimeRow.holds Trym.pinned (OpenSpec.ofChange Rows.fnFnv1a32UnwindsOneByteAtATimeSpec) :=
  OpenClaim.holds_of_wide 3 Trym.f3 rfl rfl rfl rfl rfl rfl rfl ⟨rfl, rfl, rfl, rfl, rfl⟩ rfl rfl rfl rfl rfl (by kernel_rfl) Trym.func3 (by kernel_rfl)
    (of_decide_eq_true (by kernel_rfl)) (by unfold Func.isWrapper; first | (rw [if_pos (by decide +kernel)]; kernel_rfl) | (rw [if_neg (by decide +kernel)]; exact ⟨rfl, rfl⟩))
    (fun os started H enc _ => lifted os started H enc)

/-- ████ THE STATEMENT ████ -/
theorem proved : Rows.FnFnv1a32UnwindsOneByteAtATimeSaid :=
  over
end Go.Proofs.Qxb6604069aMods.fnFnv1a32UnwindsOneByteAtATime
