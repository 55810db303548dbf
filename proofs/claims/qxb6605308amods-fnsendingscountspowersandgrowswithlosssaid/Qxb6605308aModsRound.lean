import Derived.Laws.FloatBits
/-! Rounding to nearest, ties to even, plainly: no Go in sight. -/
namespace Go.Proofs.Qxb6605308aMods.Rnd
open Ieee

/-- n / g to the nearest whole number, between two the even one -/
def rne (n g : Nat) : Nat := n / g + (if g < 2 * (n % g) ∨ (g = 2 * (n % g) ∧ n / g % 2 = 1) then 1 else 0)

theorem rne_scale (n g c : Nat) (hc : 0 < c) : rne (n * c) (g * c) = rne n g := by
  unfold rne
  rw [Nat.mul_div_mul_right _ _ hc, Nat.mul_mod_mul_right]
  have h1 : (g * c < 2 * (n % g * c)) ↔ g < 2 * (n % g) := by
    rw [← Nat.mul_assoc]
    exact Nat.mul_lt_mul_right hc
  have h2 : (g * c = 2 * (n % g * c)) ↔ g = 2 * (n % g) := by
    rw [← Nat.mul_assoc]
    exact Nat.mul_right_cancel_iff hc
  simp only [h1, h2]

theorem rne_mono (g n1 n2 : Nat) (h : n1 ≤ n2) : rne n1 g ≤ rne n2 g := by
  have hd : n1 / g ≤ n2 / g := Nat.div_le_div_right h
  by_cases he : n1 / g = n2 / g
  · have h1 := Nat.div_add_mod n1 g
    have h2 := Nat.div_add_mod n2 g
    rw [he] at h1
    have hr : n1 % g ≤ n2 % g := by omega
    unfold rne
    rw [he]
    by_cases hc : g < 2 * (n1 % g) ∨ (g = 2 * (n1 % g) ∧ n2 / g % 2 = 1)
    · rw [if_pos hc, if_pos (by omega)]
      exact Nat.le_refl _
    · rw [if_neg hc]
      omega
  · have hlt : n1 / g + 1 ≤ n2 / g := by omega
    unfold rne
    split <;> split <;> omega

theorem rne_mul (m g : Nat) (hg : 0 < g) : rne (m * g) g = m := by
  unfold rne
  rw [Nat.mul_div_cancel _ hg, Nat.mul_mod_left]
  rw [if_neg (by omega)]
  omega

theorem rne_le (n g k : Nat) (hg : 0 < g) (h : n < k * g) : rne n g ≤ k := by
  have : n / g < k := (Nat.div_lt_iff_lt_mul hg).2 h
  unfold rne
  split <;> omega

theorem le_rne (n g k : Nat) (hg : 0 < g) (h : k * g ≤ n) : k ≤ rne n g := by
  have : k ≤ n / g := (Nat.le_div_iff_mul_le hg).2 h
  unfold rne
  omega

theorem rne_small (n g : Nat) (h : 2 * n < g) : rne n g = 0 := by
  unfold rne
  rw [Nat.div_eq_of_lt (by omega), Nat.mod_eq_of_lt (by omega), if_neg (by omega)]

/-- The model's cut is that rounding. -/
theorem cut_eq (neg : Bool) (n drop : Nat) : Toward.even.cut neg n drop = rne n (2 ^ drop) := by
  have core : ∀ gap : Nat, n / gap + (decide (gap < 2 * (n % gap)) || (gap == 2 * (n % gap) && n / gap % 2 == 1)).toNat = rne n gap := by
    intro gap
    unfold rne
    congr 1
    by_cases h : gap < 2 * (n % gap) ∨ (gap = 2 * (n % gap) ∧ n / gap % 2 = 1)
    · rw [if_pos h]
      have : (decide (gap < 2 * (n % gap)) || (gap == 2 * (n % gap) && n / gap % 2 == 1)) = true := by
        simpa using h
      rw [this]; rfl
    · rw [if_neg h]
      have : (decide (gap < 2 * (n % gap)) || (gap == 2 * (n % gap) && n / gap % 2 == 1)) = false := by
        rw [Bool.eq_false_iff]
        intro hc
        exact h (by simpa using hc)
      rw [this]; rfl
  show n / (1 <<< min drop (n.log2 + 2)) + _ = _
  by_cases hd : drop ≤ n.log2 + 2
  · rw [Nat.min_eq_left hd, Nat.one_shiftLeft]
    exact core _
  · rw [Nat.min_eq_right (by omega), Nat.one_shiftLeft]
    refine (core _).trans ?_
    have hlt : n < 2 ^ (n.log2 + 1) := Nat.lt_log2_self
    have hp : 2 ^ (n.log2 + 2) = 2 * 2 ^ (n.log2 + 1) := by rw [Nat.pow_succ 2 (n.log2 + 1)]; omega
    have hp2 : 2 ^ (n.log2 + 2) ≤ 2 ^ drop := Nat.pow_le_pow_right (by omega) (by omega)
    rw [rne_small _ _ (by omega), rne_small _ _ (by omega)]

/-- The rung of the number N / 2^(2S), in a format of F fraction bits whose least place is -S. -/
def rungN (F S N : Nat) : Nat := (N.log2 - (F + S)) * 2 ^ F + rne N (2 ^ (S + (N.log2 - (F + S))))

theorem rungN_lo (F S N : Nat) (hN : N ≠ 0) (hq : 0 < N.log2 - (F + S)) : 2 ^ F ≤ rne N (2 ^ (S + (N.log2 - (F + S)))) := by
  refine le_rne _ _ _ (Nat.two_pow_pos _) ?_
  rw [← Nat.pow_add]
  have h := Nat.log2_self_le hN
  have e : F + (S + (N.log2 - (F + S))) = N.log2 := by omega
  rw [e]
  exact h

theorem rungN_hi (F S N : Nat) : rne N (2 ^ (S + (N.log2 - (F + S)))) ≤ 2 * 2 ^ F := by
  refine rne_le _ _ _ (Nat.two_pow_pos _) ?_
  have h : N < 2 ^ (N.log2 + 1) := Nat.lt_log2_self
  have e : 2 * 2 ^ F * 2 ^ (S + (N.log2 - (F + S))) = 2 ^ (F + 1 + (S + (N.log2 - (F + S)))) := by
    rw [Nat.pow_add 2 (F + 1), Nat.pow_succ 2 F, Nat.mul_comm 2 (2 ^ F)]
  rw [e]
  exact Nat.lt_of_lt_of_le h (Nat.pow_le_pow_right (by omega) (by omega))

theorem log2_mono {a b : Nat} (h : a ≤ b) : a.log2 ≤ b.log2 := by
  by_cases ha : a = 0
  · subst ha; simp
  · exact (Nat.le_log2 (by omega)).2 (Nat.le_trans (Nat.log2_self_le ha) h)

theorem rungN_mono (F S N1 N2 : Nat) (h : N1 ≤ N2) : rungN F S N1 ≤ rungN F S N2 := by
  by_cases h0 : N1 = 0
  · subst h0
    unfold rungN
    simp [rne]
  have hl := log2_mono h
  by_cases he : N1.log2 - (F + S) = N2.log2 - (F + S)
  · unfold rungN
    rw [he]
    have := rne_mono (2 ^ (S + (N2.log2 - (F + S)))) N1 N2 h
    omega
  · have hlt : N1.log2 - (F + S) + 1 ≤ N2.log2 - (F + S) := by omega
    have h1 := rungN_hi F S N1
    have h2 := rungN_lo F S N2 (by omega) (by omega)
    unfold rungN
    have h3 := Nat.mul_le_mul_right (2 ^ F) hlt
    rw [Nat.add_mul] at h3
    omega

/-- What the rung r is worth, in units of the least place. -/
def V (F r : Nat) : Nat := if r < 2 ^ F then r else (2 ^ F + r % 2 ^ F) * 2 ^ (r / 2 ^ F - 1)

theorem log2_of {n k : Nat} (h1 : 2 ^ k ≤ n) (h2 : n < 2 ^ (k + 1)) : n.log2 = k := by
  have hn : n ≠ 0 := by have := Nat.two_pow_pos k; omega
  have a : k ≤ n.log2 := (Nat.le_log2 hn).2 h1
  have b : n.log2 < k + 1 := (Nat.log2_lt hn).2 h2
  omega

/-- Every rung's value rounds to that rung. -/
theorem rungN_V (F S r : Nat) : rungN F S (V F r * 2 ^ S) = r := by
  have hB := Nat.two_pow_pos F
  unfold V
  by_cases hr : r < 2 ^ F
  · rw [if_pos hr]
    have hq : (r * 2 ^ S).log2 - (F + S) = 0 := by
      by_cases h0 : r = 0
      · subst h0; simp
      · have hn : r * 2 ^ S ≠ 0 := Nat.mul_ne_zero h0 (Nat.pos_iff_ne_zero.1 (Nat.two_pow_pos _))
        have : (r * 2 ^ S).log2 < F + S := by
          refine (Nat.log2_lt hn).2 ?_
          rw [Nat.pow_add]
          exact Nat.mul_lt_mul_of_pos_right hr (Nat.two_pow_pos _)
        omega
    unfold rungN
    rw [hq]
    simp only [Nat.zero_mul, Nat.add_zero, Nat.zero_add]
    exact rne_mul _ _ (Nat.two_pow_pos _)
  · rw [if_neg hr]
    have hm : r % 2 ^ F < 2 ^ F := Nat.mod_lt _ hB
    have hd : 1 ≤ r / 2 ^ F := (Nat.le_div_iff_mul_le hB).2 (by omega)
    have eN : (2 ^ F + r % 2 ^ F) * 2 ^ (r / 2 ^ F - 1) * 2 ^ S = (2 ^ F + r % 2 ^ F) * 2 ^ (S + (r / 2 ^ F - 1)) := by
      rw [Nat.mul_assoc, ← Nat.pow_add, Nat.add_comm S]
    rw [eN]
    have hl : ((2 ^ F + r % 2 ^ F) * 2 ^ (S + (r / 2 ^ F - 1))).log2 = F + S + (r / 2 ^ F - 1) := by
      apply log2_of
      · rw [Nat.add_assoc, Nat.pow_add]
        exact Nat.mul_le_mul_right _ (by omega)
      · have e : F + S + (r / 2 ^ F - 1) + 1 = (F + 1) + (S + (r / 2 ^ F - 1)) := by omega
        rw [e, Nat.pow_add 2 (F + 1)]
        refine Nat.mul_lt_mul_of_pos_right ?_ (Nat.two_pow_pos _)
        rw [Nat.pow_succ]
        omega
    unfold rungN
    rw [hl]
    have eq : F + S + (r / 2 ^ F - 1) - (F + S) = r / 2 ^ F - 1 := by omega
    rw [eq, rne_mul _ _ (Nat.two_pow_pos _)]
    have hdm := Nat.div_add_mod r (2 ^ F)
    have e3 : (r / 2 ^ F - 1) * 2 ^ F + 2 ^ F = 2 ^ F * (r / 2 ^ F) := by
      have : r / 2 ^ F = (r / 2 ^ F - 1) + 1 := by omega
      conv => rhs; rw [this]
      rw [Nat.mul_add, Nat.mul_comm, Nat.mul_one]
    omega

theorem V_mono (F : Nat) {r1 r2 : Nat} (h : r1 ≤ r2) : V F r1 ≤ V F r2 := by
  apply Classical.byContradiction
  intro hn
  have h1 := rungN_mono F 0 _ _ (Nat.mul_le_mul_right (2 ^ 0) (Nat.le_of_lt (Nat.lt_of_not_le hn)))
  rw [rungN_V, rungN_V] at h1
  have e : r1 = r2 := by omega
  subst e
  exact hn (Nat.le_refl _)

theorem V_zero (F : Nat) : V F 0 = 0 := by
  have := Nat.two_pow_pos F
  unfold V
  rw [if_pos this]
theorem V_pos (F : Nat) {r : Nat} (h : r ≠ 0) : V F r ≠ 0 := by
  intro e
  have h1 := rungN_V F 0 r
  have h2 := rungN_V F 0 0
  rw [e] at h1
  rw [V_zero] at h2
  omega
end Go.Proofs.Qxb6605308aMods.Rnd
