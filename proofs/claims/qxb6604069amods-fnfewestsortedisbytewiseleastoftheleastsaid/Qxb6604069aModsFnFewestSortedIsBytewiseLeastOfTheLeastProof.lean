import Derived.Test.Qxb6604069aModsOpen
import Derived.Test.Qxb6604069aModsLaw6
import Derived.OpenShut
import Derived.ChangeOld
import Derived.Below
namespace Go.Proofs.Qxb6604069aMods.fnFewestSortedIsBytewiseLeastOfTheLeast
open Go.ChangeShapes Go.WideShapes Go.ChangeAt Go.RowKit
set_option linter.unusedVariables false

theorem own : ownKnob Trym.prog.godebug = none := by kernel_rfl
theorem laidOut : laidOutB Trym.prog = true := by kernel_rfl

/-! ### The walk over whatever two arguments came in -/
theorem walk (a : Option Addr) (len cap : Nat) (m : Option Nat) (f : Nat → ByteArray) (c : Nat → Int) (L : Int) (w : World)
    (hM : Opened.Members w a len f) (hC : Opened.Counts w m f c L) :
    Calls Trym.prog 6 #[.slice a len cap, .map m] w fun e w' => e = .returned (.bool true) ∧ Below w.heap.size w w' := by
  obtain ⟨hrow, hshort⟩ := hM
  obtain ⟨hlook, hlen⟩ := hC
  rcases hrow with rfl | ⟨h0, b, off, rfl, hm, hb, hcell⟩
  · exact Law6.walk_none a cap m L w hlen
  · exact Law6.walk_some b off len cap m f c L w h0 hm hb hcell hshort hlook hlen

/-! ### The row's step -/
set_option maxRecDepth 100000 in
theorem lifted (os : Os) (started : os.Started) (H : Type) (enc : TypeId × Value → H) :
    ReturnsInHanded {} Trym.checked os 6 .any (Rows.fnFewestSortedIsBytewiseLeastOfTheLeastSpec.pre6 enc Trym.prog Trym.f6 Rows.fnFewestSortedIsBytewiseLeastOfTheLeastRow.domain false) (Rows.fnFewestSortedIsBytewiseLeastOfTheLeastSpec.post enc Trym.prog Trym.f6 false true false false) := by
  refine returnsInHanded_of_change (C := Trym.checked) own started (by kernel_rfl) Trym.func6
    (ChangeSpec.witness6 (enc := enc) (C := Trym.checked) false ⟨#[], #[.slice none 0 0, .map none], []⟩ 8 (by kernel_rfl) (by kernel_rfl) (by kernel_rfl) (by kernel_rfl)) ?_
  intro W base args ds gs before hval0 hW hcnd _
  have hval : ∀ (j : Nat) t v, Trym.f6.params[j]? = some t → args[j]? = some v → Value.okWide Trym.prog W .any base t v := hval0
  have hW' := hW
  obtain ⟨p, q, hA0, hV, rfl, hfz, hnd⟩ := hW
  have hA : DataW.TrodAll enc Trym.prog W 0 (fun _ => true) true Trym.f6.params.toList args.toList ds p := hA0
  rw [Trym.params6] at hA hval
  obtain ⟨v0, vs0, d0, ds0, p0, q0, hargs, rfl, rfl, h0, r0⟩ := trodAll_cons hA
  obtain ⟨v1, vs1, d1, ds1, p1, q1, rfl, rfl, rfl, h1, r1⟩ := trodAll_cons r0
  obtain ⟨rfl, rfl, rfl⟩ := trodAll_nil r1
  obtain rfl : args = #[v0, v1] := by cases args; simp_all
  obtain ⟨rfl, rfl⟩ := trodVars_none hV
  obtain ⟨a0, len0, cap0, rfl⟩ := okWide_slice Trym.underlying26 (hval 0 26 v0 rfl rfl)
  obtain ⟨m0, rfl⟩ := okWide_map Trym.underlying27 (hval 1 27 v1 rfl rfl)
  have k0 := h0
  have k1 := h1
  have lt0 : ∀ x ∈ p0, x.block < W.heap.size := by obtain ⟨m, hm⟩ := k0; exact DataW.trod_lt m _ _ _ hm
  have lt1 : ∀ x ∈ p1, x.block < W.heap.size := by obtain ⟨m, hm⟩ := k1; exact DataW.trod_lt m _ _ _ hm
  obtain ⟨f, hM⟩ : ∃ f, Opened.Members W a0 len0 f := by
    obtain ⟨fuel, hf⟩ := h0
    exact Opened.members (by simpa [Value.cells] using hf)
  obtain ⟨c, L, hC⟩ : ∃ c L, Opened.Counts W m0 f c L := by
    obtain ⟨fuel, hf⟩ := h1
    exact Opened.counts f hM.short (by simpa [Value.cells] using hf)
  clear hA0 hval0
  refine (walk a0 len0 cap0 m0 f c L W hM hC).mono fun e W' ⟨he, bel⟩ => ?_
  subst he
  exact ⟨_, rfl, _, _, _, [], _, [], hW', trodAll_mk1 (shut_bool Trym.underlying4 _), (trodAll_cons_mk (Below.trod laidOut (by kernel_rfl) (of_decide_eq_true (by kernel_rfl)) k0 bel lt0) (trodAll_cons_mk (Below.trod laidOut (by kernel_rfl) (of_decide_eq_true (by kernel_rfl)) k1 bel lt1) trodAll_mk0)), rfl, bel.frame _, fun h => by cases h⟩

theorem over : Rows.fnFewestSortedIsBytewiseLeastOfTheLeastRow.holds Trym.pinned (OpenSpec.ofChange Rows.fnFewestSortedIsBytewiseLeastOfTheLeastSpec) :=
  OpenClaim.holds_of_wide 6 Trym.f6 rfl rfl rfl rfl rfl rfl rfl ⟨rfl, rfl, rfl, rfl, rfl⟩ rfl rfl rfl rfl rfl (by kernel_rfl) Trym.func6 (by kernel_rfl)
    (of_decide_eq_true (by kernel_rfl)) (by unfold Func.isWrapper; first | (rw [if_pos (by decide +kernel)]; kernel_rfl) | (rw [if_neg (by decide +kernel)]; exact ⟨rfl, rfl⟩))
    (fun os started H enc _ => lifted os started H enc)

/-- THE STATEMENT -/
theorem proved : Rows.FnFewestSortedIsBytewiseLeastOfTheLeastSaid :=
  over
end Go.Proofs.Qxb6604069aMods.fnFewestSortedIsBytewiseLeastOfTheLeast
