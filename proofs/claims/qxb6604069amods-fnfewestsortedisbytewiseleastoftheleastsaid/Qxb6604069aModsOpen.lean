import Derived.Test.Qxb6604069aModsRows
import Derived.WalkKit
import Derived.ProofKit
import Derived.WalkLawsBesides
import Derived.Maps.OwnSet
import Derived.SliceStrings
/-! What the walks are told of the two arguments: a slice of strings and a map from strings to integers that came in. -/
namespace Go.Proofs.Qxb6604069aMods.Opened
open Go.ChangeShapes Go.WideShapes Go.ChangeAt Go.RowKit Go.WideElems Go.Maps Go.WideMaps
set_option linter.unusedVariables false

theorem cells9 : Trym.prog.cellsOf 9 = 1 := by kernel_rfl
theorem zero3 (w : World) : (zeroValue 3).run Trym.prog w = .ok (.int .i64 0) w := by kernel_rfl
theorem law9 : Keyed Trym.prog 9 := string_keyed Trym.underlying9

/-- The members: none, or a row of strings f. -/
structure Members (W : World) (a : Option Addr) (len : Nat) (f : Nat → ByteArray) : Prop where
  row : len = 0 ∨ (0 < len ∧ ∃ b off, a = some ⟨b, off, none⟩ ∧ len ≤ 2 ^ 63 - 1 ∧ b < W.heap.size ∧ ∀ j, j < len → W.cell? ⟨b, off + j, none⟩ = some (.string (f j)))
  short : ∀ j, (f j).size ≤ 2 ^ 63 - 1

/-- The map answers c j at f j, now and wherever nothing old has turned; its length is L. -/
structure Counts (W : World) (m : Option Nat) (f : Nat → ByteArray) (c : Nat → Int) (L : Int) : Prop where
  look : ∀ wx, Below W.heap.size W wx → ∀ j, (Instr.lookup 27 (.map m) (.string (f j)) false).run Trym.prog wx = .ok (.int .i64 (c j)) wx
  len : ∀ ty, (Builtin.len_ #[27] ty #[.map m]).run Trym.prog W = .ok (.int .i64 L) W

variable {H : Type} {enc : TypeId × Value → H} {W : World}

theorem members {a : Option Addr} {len cap fuel : Nat} {x : DataW H × List MemPlace}
    (h : DataW.trod enc Trym.prog W 0 (fun _ => true) true fuel 26 [.slice a len cap] = some x) : ∃ f, Members W a len f := by
  rcases open_strings Trym.underlying26 Trym.underlying9 cells9 h with ⟨hcs, _⟩ | ⟨ad, l, cp, ss, hcs, _, hl, hm, hz, _, hcell, hws⟩
  · simp at hcs
    obtain ⟨rfl, rfl, rfl⟩ := hcs
    exact ⟨fun _ => ByteArray.empty, .inl rfl, fun _ => by decide⟩
  · simp at hcs
    obtain ⟨rfl, rfl, rfl⟩ := hcs
    simp only [if_true] at hz
    unfold maxLen at hm hws
    refine ⟨fun j => ss.getD j ByteArray.empty, ?_, fun j => ?_⟩
    · by_cases h0 : len = 0
      · exact .inl h0
      · right
        obtain ⟨b, off, spot⟩ := ad
        have hspot : spot = none := by simpa [Addr.add] using World.cell?_spot (hcell 0 (by omega))
        subst hspot
        have hc : ∀ j, j < len → W.cell? ⟨b, off + j, none⟩ = some (.string (ss.getD j ByteArray.empty)) := fun j hj => by rw [← add_plain]; exact hcell j (by omega)
        refine ⟨by omega, b, off, rfl, by omega, ?_, hc⟩
        have h1 := hc 0 (by omega)
        apply Classical.byContradiction
        intro hn
        have hnone : W.heap[b]? = none := Array.getElem?_eq_none (by omega)
        simp [World.cell?, hnone] at h1
    · by_cases hj : j < ss.length
      · have : ss.getD j ByteArray.empty ∈ ss := by
          rw [List.getD_eq_getElem?_getD, List.getElem?_eq_getElem hj]
          exact List.getElem_mem hj
        exact hws _ this
      · have : ss.getD j ByteArray.empty = ByteArray.empty := by
          rw [List.getD_eq_getElem?_getD, List.getElem?_eq_none (by omega)]; rfl
        rw [this]
        decide

theorem counts {m : Option Nat} {fuel : Nat} {x : DataW H × List MemPlace} (f : Nat → ByteArray) (hf : ∀ j, (f j).size ≤ 2 ^ 63 - 1)
    (h : DataW.trod enc Trym.prog W 0 (fun _ => true) true fuel 27 [.map m] = some x) : ∃ c L, Counts W m f c L := by
  have hkey : ∀ j, ∃ kl, keyOf Trym.prog 9 (.string (f j)) = some kl := fun j => ⟨_, keyOf_string_mk Trym.underlying9 (by unfold maxLen; exact hf j)⟩
  rcases open_map Trym.underlying27 h with ⟨hcs, _⟩ | ⟨bm, es, clock, n, rfl, hcs, hb, _, F, _⟩
  · simp at hcs
    subst hcs
    refine ⟨fun _ => 0, 0, fun wx _ j => ?_, fun ty => Maps.len_nil Trym.underlying27 ty⟩
    obtain ⟨kl, hk⟩ := hkey j
    simpa using Maps.look_nil (w := wx) false law9 Trym.underlying27 (zero3 wx) hk
  · simp at hcs
    subst hcs
    have hlt : bm < W.heap.size := (Array.getElem?_eq_some_iff.1 hb).1
    have hown : ∀ wx, Below W.heap.size W wx → wx.ownsMap Trym.prog 9 (plainElem Trym.prog 3) bm es.size (.map ((es.toList.map (rg Trym.prog 9 (elemAt enc Trym.prog W 0 (fun _ => true) true n 3))).foldr DataW.insert [])) :=
      fun wx hbel => World.ownsMap_of_fit (R := plainElem Trym.prog 3) ((hbel.block bm hlt).trans hb) F (fun x _ z hz => elemAt_plainElem_int Trym.underlying3 hz)
    have hat : ∀ j, ∃ c : Int, ∀ wx, Below W.heap.size W wx → (Instr.lookup 27 (.map (some bm)) (.string (f j)) false).run Trym.prog wx = .ok (.int .i64 c) wx := by
      intro j
      obtain ⟨kl, hk⟩ := hkey j
      obtain ⟨c, _, h2, _⟩ := (hown W (Below.refl _ _)).lookup_int law9 Trym.underlying27 Trym.underlying3 (zero3 _) hk
      refine ⟨c, fun wx hbel => ?_⟩
      obtain ⟨c', h1', h2', _⟩ := (hown wx hbel).lookup_int law9 Trym.underlying27 Trym.underlying3 (zero3 _) hk
      rw [h2] at h2'
      simp at h2'
      rw [h2']
      exact h1'
    refine ⟨fun j => Classical.choose (hat j), _, fun wx hbel j => Classical.choose_spec (hat j) wx hbel, fun ty => (hown W (Below.refl _ _)).len Trym.underlying27 ty⟩
end Go.Proofs.Qxb6604069aMods.Opened
