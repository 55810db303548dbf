import Derived.Test.Qxb6604069aModsRows
import Derived.Test.Qxb6604069aModsBest
import Derived.WalkKit
import Derived.ProofKit
import Derived.WalkLawsBesides
import Derived.Maps.OwnSet
namespace Go.Proofs.Qxb6604069aMods.Few
open Go.ChangeShapes Go.WideShapes Go.ChangeAt Go.RowKit
open Best (best)
set_option linter.unusedVariables false

theorem ret_str {a b : ByteArray} (h : a = b) : Ending.returned (.string a) = .returned (.string b) := by rw [h]

/-- 'fewest' over one string. -/
theorem few_one (b : Nat) (m : Option Nat) (f : Nat → ByteArray) (w : World) (h0 : w.cell? ⟨b, 0, none⟩ = some (.string (f 0))) :
    Calls Trym.prog 13 #[.slice (some ⟨b, 0, none⟩) 1 1, .map m] w fun e w' => e = .returned (.string (f 0)) ∧ w' = w := by
  go_enter Trym.func13, Trym.ntmps13
  go_wp2
  refine wp_loop_rounds 1 ?_
  rw [rounds_succ]
  go_wp2
  go_ret
  exact ⟨rfl, rfl⟩

/-- 'fewest' over two strings or more. -/
theorem few_more (b q : Nat) (m : Option Nat) (f : Nat → ByteArray) (c : Nat → Int) (w : World) (hn : q + 2 ≤ 65536)
    (hcell : ∀ j, j < q + 2 → w.cell? ⟨b, j, none⟩ = some (.string (f j)))
    (hlook : ∀ j, (Instr.lookup 27 (.map m) (.string (f j)) false).run Trym.prog w = .ok (.int .i64 (c j)) w) :
    Calls Trym.prog 13 #[.slice (some ⟨b, 0, none⟩) (q + 2) (q + 2), .map m] w fun e w' => e = .returned (.string (f (best c (q + 1)))) ∧ w' = w := by
  have h0 := hcell 0 (by omega)
  go_enter Trym.func13, Trym.ntmps13
  go_wp2
  clear h0
  go_loop [5, 14] (fun s i => ∃ k : Nat, k ≤ q + 1 ∧ i = .int .i64 k ∧ s = .string (f (best c k))) (fun _ i => q + 1 - (intOf i).toNat)
  case atStart => exact ⟨0, Nat.zero_le _, rfl, rfl⟩
  case round =>
    obtain ⟨k, hk, rfl, rfl⟩ := hrel
    by_cases hlt : k < q + 1
    · have hc : w.cell? ⟨b, 1 + k, none⟩ = some (.string (f (k + 1))) := by rw [Nat.add_comm]; exact hcell (k + 1) (by omega)
      by_cases hb : c (k + 1) < c (best c k)
      · have HB : Hid (best c (k + 1) = k + 1) := Best.best_yes c k hb
        go_wp2
        go_round
        case rel => exact ⟨k + 1, by omega, by go_num, by rw [HB.out]⟩
        case measure => simp [intOf]; omega
      · have HB : Hid (best c (k + 1) = best c k) := Best.best_no c k hb
        go_wp2
        go_round
        case rel => exact ⟨k + 1, by omega, by go_num, by rw [HB.out]⟩
        case measure => simp [intOf]; omega
    · obtain rfl : k = q + 1 := by omega
      go_wp2
      go_ret
      exact ⟨rfl, rfl⟩

/-- 'fewest': over a row of strings f and a map that answers c j at f j. -/
theorem few_any (b n : Nat) (m : Option Nat) (f : Nat → ByteArray) (c : Nat → Int) (w : World) (hn0 : 0 < n) (hn : n ≤ 65536)
    (hcell : ∀ j, j < n → w.cell? ⟨b, j, none⟩ = some (.string (f j)))
    (hlook : ∀ j, (Instr.lookup 27 (.map m) (.string (f j)) false).run Trym.prog w = .ok (.int .i64 (c j)) w) :
    Calls Trym.prog 13 #[.slice (some ⟨b, 0, none⟩) n n, .map m] w fun e w' => e = .returned (.string (f (best c (n - 1)))) ∧ w' = w := by
  by_cases h1 : n = 1
  · subst h1
    exact few_one b m f w (hcell 0 hn0)
  · obtain ⟨q, rfl⟩ : ∃ q, n = q + 2 := ⟨n - 2, by omega⟩
    exact few_more b q m f c w hn hcell hlook

/-- 'ZZfewest' hands on. -/
theorem zz_any (b n : Nat) (m : Option Nat) (f : Nat → ByteArray) (c : Nat → Int) (w : World) (hn0 : 0 < n) (hn : n ≤ 65536)
    (hcell : ∀ j, j < n → w.cell? ⟨b, j, none⟩ = some (.string (f j)))
    (hlook : ∀ j, (Instr.lookup 27 (.map m) (.string (f j)) false).run Trym.prog w = .ok (.int .i64 (c j)) w) :
    Calls Trym.prog 11 #[.slice (some ⟨b, 0, none⟩) n n, .map m] w fun e w' => e = .returned (.string (f (best c (n - 1)))) ∧ w' = w := by
  go_enter Trym.func11, Trym.ntmps11
  go_wp2_with fail
  refine (few_any b n m f c w hn0 hn hcell hlook).mono ?_
  rintro e w' ⟨rfl, rfl⟩
  go_wp2
  go_ret
  exact ⟨rfl, rfl⟩
end Go.Proofs.Qxb6604069aMods.Few
