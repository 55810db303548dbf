import GoSem.Op.String
/-! The bytes' order, plainly. -/
namespace Go.Proofs.Qxb6604069aMods.Order

theorem less_irr : ∀ x : List UInt8, Op.bytesLess x x = false
  | [] => rfl
  | a :: x => by
    rw [Op.bytesLess, less_irr x]
    simp
theorem u8_trans {a b c : UInt8} (h : a < b) (k : b < c) : a < c := by
  rw [UInt8.lt_iff_toNat_lt] at h k ⊢
  omega
theorem less_trans : ∀ x y z : List UInt8, Op.bytesLess x y = true → Op.bytesLess y z = true → Op.bytesLess x z = true
  | _, [], _, h, _ => by simp [Op.bytesLess] at h
  | _, _ :: _, [], _, k => by simp [Op.bytesLess] at k
  | [], _ :: _, _ :: _, _, _ => by simp [Op.bytesLess]
  | a :: x, b :: y, c :: z, h, k => by
    simp only [Op.bytesLess, Bool.or_eq_true, Bool.and_eq_true, decide_eq_true_eq, beq_iff_eq] at h k ⊢
    rcases h with h | ⟨rfl, h⟩
    · rcases k with k | ⟨rfl, k⟩
      · exact .inl (u8_trans h k)
      · exact .inl h
    · rcases k with k | ⟨rfl, k⟩
      · exact .inl k
      · exact .inr ⟨rfl, less_trans x y z h k⟩

/-- no greater -/
def le (x y : List UInt8) : Prop := Op.bytesLess x y = true ∨ x = y
theorem le_trans {x y z : List UInt8} (h : le x y) (k : le y z) : le x z := by
  rcases h with h | rfl
  · rcases k with k | rfl
    · exact .inl (less_trans _ _ _ h k)
    · exact .inl h
  · exact k
theorem not_less {x y : List UInt8} (h : le x y) : Op.bytesLess y x = false := by
  rcases h with h | rfl
  · cases hb : Op.bytesLess y x with
    | false => rfl
    | true =>
      have := less_trans _ _ _ h hb
      rw [less_irr] at this
      cases this
  · exact less_irr _
/-- a list that rises step by step rises throughout -/
theorem le_chain (g : Nat → List UInt8) (n : Nat) (h : ∀ j, j + 1 < n → le (g j) (g (j + 1))) (i : Nat) : ∀ d, i + d < n → le (g i) (g (i + d))
  | 0, _ => .inr rfl
  | d + 1, hd => le_trans (le_chain g n h i d (by omega)) (h (i + d) (by omega))
theorem not_less_of_chain (g : Nat → List UInt8) (n : Nat) (h : ∀ j, j + 1 < n → le (g j) (g (j + 1))) (i j : Nat) (hij : i ≤ j) (hj : j < n) : Op.bytesLess (g j) (g i) = false := by
  obtain ⟨d, rfl⟩ : ∃ d, j = i + d := ⟨j - i, by omega⟩
  exact not_less (le_chain g n h i d hj)
end Go.Proofs.Qxb6604069aMods.Order
