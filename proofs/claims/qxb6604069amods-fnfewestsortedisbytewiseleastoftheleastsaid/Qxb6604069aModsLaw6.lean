import Derived.Test.Qxb6604069aModsTooBig
import Derived.Test.Qxb6604069aModsCopy
import Derived.Test.Qxb6604069aModsFew
import Derived.Test.Qxb6604069aModsOrder
import Derived.Deep.QuietTactic
import Derived.BigQuiet
import Derived.WalkSmall
namespace Go.Proofs.Qxb6604069aMods.Law6
open Go.ChangeShapes Go.WideShapes Go.ChangeAt Go.RowKit
open Best (best)
set_option linter.unusedVariables false

theorem few_at (b n k : Nat) (m : Option Nat) (f : Nat → ByteArray) (c : Nat → Int) (w : World) (hk : k + 1 = n) (hn : n ≤ 65536)
    (hcell : ∀ j, j < n → w.cell? ⟨b, j, none⟩ = some (.string (f j)))
    (hlook : ∀ j, (Instr.lookup 27 (.map m) (.string (f j)) false).run Trym.prog w = .ok (.int .i64 (c j)) w) :
    Calls Trym.prog 11 #[.slice (some ⟨b, 0, none⟩) n n, .map m] w fun e w' => e = .returned (.string (f (best c k))) ∧ w' = w := by
  have h := Few.zz_any b n m f c w (by omega) hn hcell hlook
  rwa [show n - 1 = k from by omega] at h

theorem chain_step {f : Nat → ByteArray} {k : Nat} (h : Hid (∀ j, j + 1 < k + 1 → Order.le (f j).toList (f (j + 1)).toList)) (hk : Order.le (f k).toList (f (k + 1)).toList) :
    Hid (∀ j, j + 1 < k + 1 + 1 → Order.le (f j).toList (f (j + 1)).toList) := by
  intro j hj
  by_cases e : j = k
  · subst e; exact hk
  · exact h.out j (by omega)

/-- no members -/
theorem walk_none (a : Option Addr) (cp : Nat) (m : Option Nat) (L : Int) (w : World)
    (hlen : ∀ ty, (Builtin.len_ #[27] ty #[.map m]).run Trym.prog w = .ok (.int .i64 L) w) :
    Calls Trym.prog 6 #[.slice a 0 cp, .map m] w fun e w' => e = .returned (.bool true) ∧ Below w.heap.size w w' := by
  by_cases hL : 65536 < L
  · go_enter Trym.func6, Trym.ntmps6
    go_wp2_with fail
    refine (TooBig.too_none a cp w).mono ?_
    rintro e w' ⟨rfl, rfl⟩
    go_wp2_with fail
    go_ret
    exact ⟨rfl, Below.refl _ _⟩
  · go_enter Trym.func6, Trym.ntmps6
    go_wp2_with fail
    refine (TooBig.too_none a cp w).mono ?_
    rintro e w' ⟨rfl, rfl⟩
    go_wp2_with fail
    go_ret
    exact ⟨rfl, Below.refl _ _⟩

theorem walk_some (b off n cp : Nat) (m : Option Nat) (f : Nat → ByteArray) (c : Nat → Int) (L : Int) (w : World) (hn0 : 0 < n) (hm : n ≤ 2 ^ 63 - 1) (hbB : b < w.heap.size)
    (hcell : ∀ j, j < n → w.cell? ⟨b, off + j, none⟩ = some (.string (f j))) (hsz : ∀ j, (f j).size ≤ 2 ^ 63 - 1)
    (hlook : Hid (∀ wx, Below w.heap.size w wx → ∀ j, (Instr.lookup 27 (.map m) (.string (f j)) false).run Trym.prog wx = .ok (.int .i64 (c j)) wx))
    (hlen : ∀ ty, (Builtin.len_ #[27] ty #[.map m]).run Trym.prog w = .ok (.int .i64 L) w) :
    Calls Trym.prog 6 #[.slice (some ⟨b, off, none⟩) n cp, .map m] w fun e w' => e = .returned (.bool true) ∧ Below w.heap.size w w' := by
  have hz : ((n : Int) == 0) = false := beq_eq_false_iff_ne.2 (by omega)
  go_enter Trym.func6, Trym.ntmps6
  go_wp2_with fail
  refine (TooBig.too_any b off n cp f w hm hcell hsz).mono ?_
  rintro e w' ⟨rfl | ⟨rfl, hn⟩, rfl⟩
  · go_wp2_with fail
    go_ret
    exact ⟨rfl, Below.refl _ _⟩
  by_cases hL : 65536 < L
  · go_wp2_with fail
    go_ret
    exact ⟨rfl, Below.refl _ _⟩
  have HC : Hid (∀ j, j < n → w'.cell? ⟨b, off + j, none⟩ = some (.string (f j))) := hcell
  go_wp2_with fail
  clear hcell hlen hL hsz
  go_loopw [5] (fun i wr => ∃ k : Nat, k < n ∧ i = .int .i64 ((k + 1 : Nat) : Int) ∧ Hid (∀ j, j + 1 < k + 1 → Order.le (f j).toList (f (j + 1)).toList) ∧ Below w'.heap.size w' wr) (fun i _ => n - (intOf i).toNat)
  case atStart => exact ⟨0, hn0, rfl, fun j hj => absurd hj (by omega), Below.refl _ _⟩
  case round =>
    obtain ⟨k, hk, rfl, hch, hbel⟩ := hrel
    by_cases hlt : k + 1 < n
    · have g0 : wr.cell? ⟨b, off + k, none⟩ = some (.string (f k)) := (hbel.cell (by exact hbB)).trans (HC.out k hk)
      have g1 : wr.cell? ⟨b, off + (k + 1), none⟩ = some (.string (f (k + 1))) := (hbel.cell (by exact hbB)).trans (HC.out (k + 1) hlt)
      cases hl : Op.bytesLess (f k).toList (f (k + 1)).toList with
      | true =>
        have hch' : Hid (∀ j, j + 1 < k + 1 + 1 → Order.le (f j).toList (f (j + 1)).toList) := chain_step hch (.inl hl)
        go_wp2_with fail
        go_quiet (fail)
        go_wp2_with fail
        go_roundw
        case rel => exact ⟨k + 1, hlt, by go_num, hch', below_drewN hbel _⟩
        case measure => simp [intOf]; omega
      | false =>
        cases he : (f k).toList == (f (k + 1)).toList with
        | true =>
          have hch' : Hid (∀ j, j + 1 < k + 1 + 1 → Order.le (f j).toList (f (j + 1)).toList) := chain_step hch (.inr (by simpa using he))
          go_wp2_with fail
          go_quiet (fail)
          go_wp2_with fail
          go_roundw
          case rel => exact ⟨k + 1, hlt, by go_num, hch', below_drewN hbel _⟩
          case measure => simp [intOf]; omega
        | false =>
          go_wp2_with fail
          go_quiet (fail)
          go_wp2_with fail
          go_ret
          exact ⟨rfl, below_drewN hbel _⟩
    · have hkn : k + 1 = n := by omega
      rw [hkn] at hch
      have hcr : ∀ j, j < n → wr.cell? ⟨b, off + j, none⟩ = some (.string (f j)) := fun j hj => (hbel.cell (by exact hbB)).trans (HC.out j hj)
      have hbr : b < wr.heap.size := Nat.lt_of_lt_of_le hbB hbel.size
      clear hlt hk HC
      go_wp2_with fail
      refine (Copy.copy_any b off n cp f wr hn hbr hcr).mono ?_
      rintro e w1 ⟨rfl, hrow, hbel1⟩
      have hbel2 : Below w'.heap.size w' w1 := hbel.trans (hbel1.mono hbel.size)
      have hlk := hlook.out w1 hbel2
      have hc1 : ∀ j, j < n → w1.cell? ⟨wr.heap.size, j, none⟩ = some (.string (f j)) := fun j hj => hrow.cell hj
      clear hcr hbr hrow hbel1 hbel hlook
      go_wp2_with fail
      refine (few_at wr.heap.size n k m f c w1 hkn hn hc1 hlk).mono ?_
      rintro e w2 ⟨rfl, rfl⟩
      go_wp2_with fail
      have hble := Best.best_le c k
      go_loop [7, 8] (fun fd i => ∃ (j : Nat) (fb : Bool), j ≤ n ∧ i = .int .i64 j ∧ fd = .bool fb ∧ Hid (best c k < j → fb = true)) (fun _ i => n - (intOf i).toNat)
      case atStart => exact ⟨0, false, Nat.zero_le _, rfl, rfl, fun h => absurd h (by omega)⟩
      case round =>
        obtain ⟨j, fb, hj, rfl, rfl, hfb⟩ := hrel
        by_cases hlt : j < n
        · have hc := hc1 j hlt
          have hmin : ¬ c j < c (best c k) := by have := Best.best_min c k j (by omega); omega
          by_cases hjb : j < best c k
          · have hne : (c j == c (best c k)) = false := beq_eq_false_iff_ne.2 (by have := Best.best_first c k j hjb; omega)
            cases he : (f j).toList == (f (best c k)).toList with
            | true =>
              go_wp2_with fail
              go_round
              case rel => exact ⟨j + 1, true, by omega, by go_num, rfl, fun _ => rfl⟩
              case measure => simp [intOf]; omega
            | false =>
              go_wp2_with fail
              go_round
              case rel => exact ⟨j + 1, fb, by omega, by go_num, rfl, fun h => absurd h (by omega)⟩
              case measure => simp [intOf]; omega
          · by_cases hje : j = best c k
            · subst hje
              have hirr := Order.less_irr (f (best c k)).toList
              go_wp2_with fail
              go_round
              case rel => exact ⟨best c k + 1, true, by omega, by go_num, rfl, fun _ => rfl⟩
              case measure => simp [intOf]; omega
            · obtain rfl : fb = true := hfb.out (by omega)
              have hnl := Order.not_less_of_chain (fun j => (f j).toList) n hch.out (best c k) j (by omega) hlt
              cases hce : c j == c (best c k) with
              | true =>
                cases he : (f j).toList == (f (best c k)).toList with
                | true =>
                  go_wp2_with fail
                  go_round
                  case rel => exact ⟨j + 1, true, by omega, by go_num, rfl, fun _ => rfl⟩
                  case measure => simp [intOf]; omega
                | false =>
                  go_wp2_with fail
                  go_round
                  case rel => exact ⟨j + 1, true, by omega, by go_num, rfl, fun _ => rfl⟩
                  case measure => simp [intOf]; omega
              | false =>
                cases he : (f j).toList == (f (best c k)).toList with
                | true =>
                  go_wp2_with fail
                  go_round
                  case rel => exact ⟨j + 1, true, by omega, by go_num, rfl, fun _ => rfl⟩
                  case measure => simp [intOf]; omega
                | false =>
                  go_wp2_with fail
                  go_round
                  case rel => exact ⟨j + 1, true, by omega, by go_num, rfl, fun _ => rfl⟩
                  case measure => simp [intOf]; omega
        · obtain rfl : fb = true := hfb.out (by omega)
          go_wp2_with fail
          go_ret
          exact ⟨rfl, hbel2⟩
end Go.Proofs.Qxb6604069aMods.Law6
