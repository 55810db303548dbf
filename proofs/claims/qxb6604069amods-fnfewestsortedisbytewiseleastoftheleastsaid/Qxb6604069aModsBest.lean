import Derived.KernelRfl
/-! The plain part: the first index of the least of c 0 .. c k. No Go in sight. -/
namespace Go.Proofs.Qxb6604069aMods.Best

def best (c : Nat → Int) : Nat → Nat
  | 0 => 0
  | k + 1 => if c (k + 1) < c (best c k) then k + 1 else best c k

theorem best_le (c : Nat → Int) : ∀ k, best c k ≤ k
  | 0 => Nat.le_refl _
  | k + 1 => by
    have := best_le c k
    unfold best
    split <;> omega
theorem best_yes (c : Nat → Int) (k : Nat) (h : c (k + 1) < c (best c k)) : best c (k + 1) = k + 1 := by
  conv => lhs; unfold best
  rw [if_pos h]
theorem best_no (c : Nat → Int) (k : Nat) (h : ¬ c (k + 1) < c (best c k)) : best c (k + 1) = best c k := by
  conv => lhs; unfold best
  rw [if_neg h]
/-- none is less -/
theorem best_min (c : Nat → Int) : ∀ k j, j ≤ k → c (best c k) ≤ c j
  | 0, j, h => by
    obtain rfl : j = 0 := by omega
    exact Int.le_refl _
  | k + 1, j, h => by
    by_cases hc : c (k + 1) < c (best c k)
    · rw [best_yes c k hc]
      by_cases e : j = k + 1
      · subst e; exact Int.le_refl _
      · have := best_min c k j (by omega)
        omega
    · rw [best_no c k hc]
      by_cases e : j = k + 1
      · subst e; omega
      · exact best_min c k j (by omega)
/-- all ahead of it are greater -/
theorem best_first (c : Nat → Int) : ∀ k j, j < best c k → c (best c k) < c j
  | 0, j, h => by
    have := best_le c 0
    omega
  | k + 1, j, h => by
    by_cases hc : c (k + 1) < c (best c k)
    · rw [best_yes c k hc] at h ⊢
      have := best_min c k j (by omega)
      omega
    · rw [best_no c k hc] at h ⊢
      exact best_first c k j h
end Go.Proofs.Qxb6604069aMods.Best
