import Derived.Test.Qxb6604069aModsRows
import Derived.WalkKit
import Derived.ProofKit
import Derived.WalkLawsBesides
namespace Go.Proofs.Qxb6604069aMods.TooBig
open Go.ChangeShapes Go.WideShapes Go.ChangeAt Go.RowKit
set_option linter.unusedVariables false

/-- What is left behind the call. -/
def Post (n : Nat) (w : World) (e : Ending) (w' : World) : Prop := ((e = .returned (.bool true)) ∨ (e = .returned (.bool false) ∧ n ≤ 65536)) ∧ w' = w
theorem Post.yes {n : Nat} {w : World} : Post n w (.returned (.bool true)) w := ⟨.inl rfl, rfl⟩
theorem Post.no {n : Nat} {w : World} (h : n ≤ 65536) : Post n w (.returned (.bool false)) w := ⟨.inr ⟨rfl, h⟩, rfl⟩

/-- 'zzB1TooBig(members, 0)' answers something, turns nothing, and says no only where there are at most 1<<16 members. -/
theorem too_any (b off n c : Nat) (f : Nat → ByteArray) (w : World) (hm : n ≤ 2 ^ 63 - 1)
    (hcell : ∀ j, j < n → w.cell? ⟨b, off + j, none⟩ = some (.string (f j))) (hsz : ∀ j, (f j).size ≤ 2 ^ 63 - 1) :
    Calls Trym.prog 9 #[.slice (some ⟨b, off, none⟩) n c, .int .i64 0] w fun e w' => Post n w e w' := by
  by_cases hb : 65536 < n
  · go_enter Trym.func9, Trym.ntmps9
    go_wp2
    go_ret
    exact Post.yes
  · go_enter Trym.func9, Trym.ntmps9
    go_wp2
    go_loop [5, 6] (fun s i => ∃ k t : Nat, k ≤ n ∧ t ≤ 1048576 ∧ i = .int .i64 k ∧ s = .int .i64 t) (fun _ i => n - (intOf i).toNat)
    case atStart => exact ⟨0, 16 * n, Nat.zero_le _, by omega, rfl, by go_num⟩
    case round =>
      obtain ⟨k, t, hk, ht, rfl, rfl⟩ := hrel
      have hs := hsz k
      by_cases hlt : k < n
      · have hc := hcell k hlt
        go_wp2
        · go_ret
          exact Post.yes
        · go_ret
          exact Post.yes
        · go_round
          case rel => exact ⟨k + 1, t + (f k).size, by omega, by omega, by go_num, by go_num⟩
          case measure => simp [intOf]; omega
      · go_wp2
        go_ret
        exact Post.no (by omega)
/-- .. and at no members it says no. -/
theorem too_none (a : Option Addr) (c : Nat) (w : World) : Calls Trym.prog 9 #[.slice a 0 c, .int .i64 0] w fun e w' => e = .returned (.bool false) ∧ w' = w := by
  go_enter Trym.func9, Trym.ntmps9
  go_wp2
  refine wp_loop_rounds 1 ?_
  rw [rounds_succ]
  go_wp2
  go_ret
  exact ⟨rfl, rfl⟩
end Go.Proofs.Qxb6604069aMods.TooBig
