import Derived.Test.Qxb6604069aModsTooBig
import Derived.Test.Qxb6604069aModsCopy
import Derived.Test.Qxb6604069aModsFew
namespace Go.Proofs.Qxb6604069aMods.Law5
open Go.ChangeShapes Go.WideShapes Go.ChangeAt Go.RowKit
open Best (best)
set_option linter.unusedVariables false

theorem few_at (b n k : Nat) (m : Option Nat) (f : Nat → ByteArray) (c : Nat → Int) (w : World) (hk : k + 1 = n) (hn : n ≤ 65536)
    (hcell : ∀ j, j < n → w.cell? ⟨b, j, none⟩ = some (.string (f j)))
    (hlook : ∀ j, (Instr.lookup 27 (.map m) (.string (f j)) false).run Trym.prog w = .ok (.int .i64 (c j)) w) :
    Calls Trym.prog 11 #[.slice (some ⟨b, 0, none⟩) n n, .map m] w fun e w' => e = .returned (.string (f (best c k))) ∧ w' = w := by
  have h := Few.zz_any b n m f c w (by omega) hn hcell hlook
  rwa [show n - 1 = k from by omega] at h

/-- no members -/
theorem walk_none (a : Option Addr) (cp : Nat) (m : Option Nat) (L : Int) (w : World)
    (hlen : ∀ ty, (Builtin.len_ #[27] ty #[.map m]).run Trym.prog w = .ok (.int .i64 L) w) :
    Calls Trym.prog 5 #[.slice a 0 cp, .map m] w fun e w' => e = .returned (.bool true) ∧ Below w.heap.size w w' := by
  by_cases hL : 65536 < L
  · go_enter Trym.func5, Trym.ntmps5
    go_wp2_with fail
    refine (TooBig.too_none a cp w).mono ?_
    rintro e w' ⟨rfl, rfl⟩
    go_wp2_with fail
    go_ret
    exact ⟨rfl, Below.refl _ _⟩
  · go_enter Trym.func5, Trym.ntmps5
    go_wp2_with fail
    refine (TooBig.too_none a cp w).mono ?_
    rintro e w' ⟨rfl, rfl⟩
    go_wp2_with fail
    go_ret
    exact ⟨rfl, Below.refl _ _⟩

theorem walk_some (b off n cp : Nat) (m : Option Nat) (f : Nat → ByteArray) (c : Nat → Int) (L : Int) (w : World) (hn0 : 0 < n) (hm : n ≤ 2 ^ 63 - 1) (hbB : b < w.heap.size)
    (hcell : ∀ j, j < n → w.cell? ⟨b, off + j, none⟩ = some (.string (f j))) (hsz : ∀ j, (f j).size ≤ 2 ^ 63 - 1)
    (hlook : Hid (∀ wx, Below w.heap.size w wx → ∀ j, (Instr.lookup 27 (.map m) (.string (f j)) false).run Trym.prog wx = .ok (.int .i64 (c j)) wx))
    (hlen : ∀ ty, (Builtin.len_ #[27] ty #[.map m]).run Trym.prog w = .ok (.int .i64 L) w) :
    Calls Trym.prog 5 #[.slice (some ⟨b, off, none⟩) n cp, .map m] w fun e w' => e = .returned (.bool true) ∧ Below w.heap.size w w' := by
  have hz : ((n : Int) == 0) = false := beq_eq_false_iff_ne.2 (by omega)
  go_enter Trym.func5, Trym.ntmps5
  go_wp2_with fail
  refine (TooBig.too_any b off n cp f w hm hcell hsz).mono ?_
  rintro e w' ⟨rfl | ⟨rfl, hn⟩, rfl⟩
  · go_wp2_with fail
    go_ret
    exact ⟨rfl, Below.refl _ _⟩
  by_cases hL : 65536 < L
  · go_wp2_with fail
    go_ret
    exact ⟨rfl, Below.refl _ _⟩
  go_wp2_with fail
  refine (Copy.copy_any b off n cp f w' hn hbB hcell).mono ?_
  rintro e w1 ⟨rfl, hrow, hbel⟩
  have hlk := hlook.out w1 hbel
  have hc1 : ∀ j, j < n → w1.cell? ⟨w'.heap.size, j, none⟩ = some (.string (f j)) := fun j hj => hrow.cell hj
  have hc0 := hc1 0 hn0
  clear hcell hlen hL
  go_wp2_with fail
  clear hc0
  go_loop [5, 6] (fun s i => ∃ k : Nat, k < n ∧ i = .int .i64 ((k + 1 : Nat) : Int) ∧ s = .int .i64 (c (best c k))) (fun _ i => n - (intOf i).toNat)
  case atStart => exact ⟨0, hn0, rfl, rfl⟩
  case round =>
    obtain ⟨k, hk, rfl, rfl⟩ := hrel
    by_cases hlt : k + 1 < n
    · have hc := hc1 (k + 1) hlt
      by_cases hb : c (k + 1) < c (best c k)
      · have HB : Hid (best c (k + 1) = k + 1) := Best.best_yes c k hb
        go_wp2_with fail
        go_round
        case rel => exact ⟨k + 1, by omega, by go_num, by rw [HB.out]⟩
        case measure => simp [intOf]; omega
      · have HB : Hid (best c (k + 1) = best c k) := Best.best_no c k hb
        go_wp2_with fail
        go_round
        case rel => exact ⟨k + 1, by omega, by go_num, by rw [HB.out]⟩
        case measure => simp [intOf]; omega
    · have hkn : k + 1 = n := by omega
      clear hlt hk
      go_wp2_with fail
      have hble := Best.best_le c k
      go_loop [8, 9] (fun _ i => ∃ j : Nat, j ≤ best c k ∧ i = .int .i64 j) (fun _ i => n - (intOf i).toNat)
      case atStart => exact ⟨0, Nat.zero_le _, rfl⟩
      case round =>
        obtain ⟨j, hj, rfl⟩ := hrel
        by_cases hlt : j < best c k
        · have hc := hc1 j (by omega)
          have hfst := Best.best_first c k j hlt
          have hne : (c j == c (best c k)) = false := beq_eq_false_iff_ne.2 (by omega)
          clear hfst
          go_wp2_with fail
          go_round
          case rel => exact ⟨j + 1, by omega, by go_num⟩
          case measure => simp [intOf]; omega
        · obtain rfl : j = best c k := by omega
          have hc := hc1 (best c k) (by omega)
          go_wp2_with fail
          refine (few_at w'.heap.size n k m f c w1 hkn hn hc1 hlk).mono ?_
          rintro e w2 ⟨rfl, rfl⟩
          go_wp2_with fail
          go_ret
          exact ⟨by simp, hbel⟩
end Go.Proofs.Qxb6604069aMods.Law5
