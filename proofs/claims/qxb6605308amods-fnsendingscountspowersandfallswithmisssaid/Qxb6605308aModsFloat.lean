import Derived.Test.Qxb6605308aModsRound
import Derived.Laws.FloatBits
/-! Words of a binary format: what they are worth, how they multiply, how they compare. No Go in sight. -/
namespace Go.Proofs.Qxb6605308aMods.Flt
open Ieee
open Rnd (rne rungN V)

/-! ### the nearest word -/
theorem log2_shift (mag k : Nat) (hm : mag ≠ 0) : (mag * 2 ^ k).log2 = mag.log2 + k := by
  apply Rnd.log2_of
  · rw [Nat.pow_add]
    exact Nat.mul_le_mul_right _ (Nat.log2_self_le hm)
  · have e : mag.log2 + k + 1 = (mag.log2 + 1) + k := by omega
    rw [e, Nat.pow_add 2 (mag.log2 + 1)]
    exact Nat.mul_lt_mul_of_pos_right Nat.lt_log2_self (Nat.two_pow_pos _)

theorem rne_shift (mag k d : Nat) : rne (mag * 2 ^ (k - d)) (2 ^ (d - k)) = rne (mag * 2 ^ k) (2 ^ d) := by
  rw [← Rnd.rne_scale _ _ (2 ^ min k d) (Nat.two_pow_pos _), Nat.mul_assoc, ← Nat.pow_add, ← Nat.pow_add]
  have e1 : k - d + min k d = k := by omega
  have e2 : d - k + min k d = d := by omega
  rw [e1, e2]

theorem nearest_eq (f : Format) (S : Nat) (hS : f.leastPlace = -(S : Int)) (neg : Bool) (mag k : Nat) (hm : mag ≠ 0) :
    f.nearest neg mag ((k : Int) - 2 * S) = f.word neg (min (rungN f.fractionBits S (mag * 2 ^ k)) f.infRung) := by
  have hl := log2_shift mag k hm
  generalize hq : (mag * 2 ^ k).log2 - (f.fractionBits + S) = q
  have hlast : max ((k : Int) - 2 * S + (mag.log2 : Int) - f.fractionBits) f.leastPlace = (q : Int) - S := by
    rw [hS]
    omega
  have e1 : ((k : Int) - 2 * S - ((q : Int) - S)).toNat = k - (S + q) := by omega
  have e2 : ((q : Int) - S - ((k : Int) - 2 * S)).toNat = (S + q) - k := by omega
  have e3 : ((q : Int) - S - f.leastPlace).toNat = q := by rw [hS]; omega
  unfold Format.nearest
  rw [if_neg hm]
  dsimp only
  rw [hlast, e1, e2, e3, Rnd.cut_eq, Nat.shiftLeft_eq, rne_shift]
  unfold rungN
  rw [hq]
  rfl

/-! ### what a word is worth -/
/-- a finite word that is not below zero (it may be the negative zero) -/
def Good (f : Format) (x : Nat) : Prop := x % f.signWeight < f.infRung ∧ (x / f.signWeight % 2 = 1 → x % f.signWeight = 0)
/-- its worth in units of the least place -/
def val (f : Format) (x : Nat) : Nat := V f.fractionBits (x % f.signWeight)

theorem read_fin (f : Format) (S : Nat) (hS : f.leastPlace = -(S : Int)) (x : Nat) (h : x % f.signWeight < f.infRung) :
    ∃ m k : Nat, f.read x = .number (x / f.signWeight % 2 == 1) m ((k : Int) - S) ∧ m * 2 ^ k = val f x := by
  unfold Format.read val V
  dsimp only
  by_cases hr : x % f.signWeight < f.binade
  · refine ⟨x % f.signWeight, 0, ?_, ?_⟩
    · rw [if_pos hr, hS]
      congr 1
      omega
    · rw [if_pos (show x % f.signWeight < 2 ^ f.fractionBits from hr)]
      simp
  · refine ⟨f.binade + x % f.signWeight % f.binade, x % f.signWeight / f.binade - 1, ?_, ?_⟩
    · rw [if_neg hr, if_pos h, hS]
      congr 1
      omega
    · rw [if_neg (show ¬ x % f.signWeight < 2 ^ f.fractionBits from hr)]
      rfl

theorem binade_le_inf (f : Format) (hE : 1 ≤ f.exponentBits) : f.binade ≤ f.infRung := by
  unfold Format.infRung
  have h : 2 ^ 1 ≤ 2 ^ f.exponentBits := Nat.pow_le_pow_right (by omega) hE
  have h1 : 1 * f.binade ≤ (2 ^ f.exponentBits - 1) * f.binade := Nat.mul_le_mul_right _ (by omega)
  omega

theorem read_number_fin (f : Format) (hE : 1 ≤ f.exponentBits) (x : Nat) {s : Bool} {m : Nat} {e : Int} (h : f.read x = .number s m e) : x % f.signWeight < f.infRung := by
  unfold Format.read at h
  dsimp only at h
  have hb := binade_le_inf f hE
  by_cases hr : x % f.signWeight < f.binade
  · omega
  · rw [if_neg hr] at h
    by_cases hi : x % f.signWeight < f.infRung
    · exact hi
    · rw [if_neg hi] at h
      split at h <;> cases h

theorem read_good (f : Format) (S : Nat) (hS : f.leastPlace = -(S : Int)) (x : Nat) (h : Good f x) :
    ∃ (s : Bool) (m k : Nat), f.read x = .number s m ((k : Int) - S) ∧ m * 2 ^ k = val f x ∧ (s = true → m = 0) := by
  obtain ⟨m, k, hr, hv⟩ := read_fin f S hS x h.1
  refine ⟨_, m, k, hr, hv, fun hs => ?_⟩
  have h0 := h.2 (by simpa using hs)
  have hv0 : m * 2 ^ k = 0 := by rw [hv]; unfold val; rw [h0, Rnd.V_zero]
  rcases Nat.mul_eq_zero.1 hv0 with h | h
  · exact h
  · have := Nat.two_pow_pos k; omega

/-! ### products -/
theorem word_good (f : Format) (R : Nat) (hR : R < f.infRung) : Good f R ∧ R % f.signWeight = R := by
  have hw := f.infRung_lt
  have e : R % f.signWeight = R := Nat.mod_eq_of_lt (by omega)
  have d : R / f.signWeight = 0 := Nat.div_eq_of_lt (by omega)
  refine ⟨⟨by rw [e]; exact hR, fun h => ?_⟩, e⟩
  rw [d] at h
  simp at h

theorem zero_good (f : Format) (hE : 1 ≤ f.exponentBits) (neg : Bool) : Good f (f.word neg 0) ∧ f.word neg 0 % f.signWeight = 0 := by
  have hb := binade_le_inf f hE
  have hp : 0 < f.binade := Nat.two_pow_pos _
  have e : f.word neg 0 % f.signWeight = 0 := by
    unfold Format.word
    split <;> simp
  exact ⟨⟨by rw [e]; omega, fun _ => e⟩, e⟩

theorem mul_good (f : Format) (S : Nat) (hS : f.leastPlace = -(S : Int)) (hE : 1 ≤ f.exponentBits) (p l : Nat) (hp : Good f p) (hl : Good f l) (h1 : val f l ≤ 2 ^ S) :
    ∃ r, f.mul p l = some r ∧ Good f r ∧ r % f.signWeight = rungN f.fractionBits S (val f p * val f l) ∧ val f r ≤ val f p := by
  obtain ⟨s, m, k, hrp, hvp, hs⟩ := read_good f S hS p hp
  obtain ⟨t, n, j, hrl, hvl, ht⟩ := read_good f S hS l hl
  have hN : m * n * 2 ^ (k + j) = val f p * val f l := by
    rw [← hvp, ← hvl, Nat.pow_add]
    rw [Nat.mul_mul_mul_comm]
  have hle : rungN f.fractionBits S (val f p * val f l) ≤ p % f.signWeight := by
    have := Rnd.rungN_mono f.fractionBits S _ _ (Nat.mul_le_mul_left (val f p) h1)
    unfold val at this ⊢
    rwa [Rnd.rungN_V] at this
  have hmul : f.mul p l = some (f.nearest (s ^^ t) (m * n) (((k + j : Nat) : Int) - 2 * S)) := by
    unfold Format.mul
    rw [hrp, hrl]
    show some (f.nearest (s ^^ t) (m * n) ((k : Int) - S + ((j : Int) - S))) = _
    have e : (k : Int) - S + ((j : Int) - S) = ((k + j : Nat) : Int) - 2 * S := by omega
    rw [e]
  rw [hmul]
  refine ⟨_, rfl, ?_⟩
  have fin : ∀ r, Good f r → r % f.signWeight = rungN f.fractionBits S (val f p * val f l) → Good f r ∧ r % f.signWeight = rungN f.fractionBits S (val f p * val f l) ∧ val f r ≤ val f p := by
    intro r hg he
    refine ⟨hg, he, ?_⟩
    have : V f.fractionBits (r % f.signWeight) ≤ V f.fractionBits (p % f.signWeight) := Rnd.V_mono _ (by rw [he]; exact hle)
    exact this
  by_cases h0 : m * n = 0
  · have e : f.nearest (s ^^ t) (m * n) (((k + j : Nat) : Int) - 2 * S) = f.word (s ^^ t) 0 := by
      unfold Format.nearest
      rw [if_pos h0]
    rw [e]
    have hz := zero_good f hE (s ^^ t)
    refine fin _ hz.1 ?_
    rw [hz.2, ← hN, h0]
    simp [rungN, rne]
  · have hs' : s = false := by
      cases s with
      | false => rfl
      | true => exact absurd (by rw [hs rfl]; simp) h0
    have ht' : t = false := by
      cases t with
      | false => rfl
      | true => exact absurd (by rw [ht rfl]; simp) h0
    subst hs'
    subst ht'
    rw [nearest_eq f S hS _ _ _ h0, hN]
    have hlt : rungN f.fractionBits S (val f p * val f l) < f.infRung := Nat.lt_of_le_of_lt hle hp.1
    rw [Nat.min_eq_left (Nat.le_of_lt hlt)]
    have hw := word_good f _ hlt
    exact fin _ hw.1 hw.2

theorem mul_mono (f : Format) (S : Nat) {pa a pb b ra rb : Nat} (ha : ra % f.signWeight = rungN f.fractionBits S (val f pa * val f a)) (hb : rb % f.signWeight = rungN f.fractionBits S (val f pb * val f b))
    (h1 : val f pa ≤ val f pb) (h2 : val f a ≤ val f b) : val f ra ≤ val f rb := by
  unfold val
  rw [ha, hb]
  exact Rnd.V_mono _ (Rnd.rungN_mono _ _ _ _ (Nat.mul_le_mul h1 h2))

/-! ### comparisons -/
def sg (b : Bool) (v : Nat) : Int := if b then -(v : Int) else (v : Int)

theorem compare_scale (a b c : Int) (hc : 0 < c) : compare (a * c) (b * c) = compare a b := by
  rcases Int.lt_trichotomy a b with h | h | h
  · rw [Int.compare_eq_lt.2 h, Int.compare_eq_lt.2 (Int.mul_lt_mul_of_pos_right h hc)]
  · subst h
    rw [Int.compare_eq_eq.2 rfl, Int.compare_eq_eq.2 rfl]
  · rw [Int.compare_eq_gt.2 h, Int.compare_eq_gt.2 (Int.mul_lt_mul_of_pos_right h hc)]

theorem signed_sg (s : Bool) (m u : Nat) : signed s m u = sg s (m * 2 ^ u) := by
  unfold signed sg
  rw [Nat.shiftLeft_eq]

theorem sg_scale (s : Bool) (v c : Nat) : sg s (v * c) = sg s v * (c : Int) := by
  unfold sg
  cases s <;> simp [Int.natCast_mul, Int.neg_mul]

theorem order_numbers (S : Nat) (s t : Bool) (m n k l : Nat) :
    Datum.order (.number s m ((k : Int) - S)) (.number t n ((l : Int) - S)) = some (compare (sg s (m * 2 ^ k)) (sg t (n * 2 ^ l))) := by
  have e1 : ((k : Int) - S - min ((k : Int) - S) ((l : Int) - S)).toNat = k - min k l := by omega
  have e2 : ((l : Int) - S - min ((k : Int) - S) ((l : Int) - S)).toNat = l - min k l := by omega
  show some (compare (signed s m ((k : Int) - S - min ((k : Int) - S) ((l : Int) - S)).toNat) (signed t n ((l : Int) - S - min ((k : Int) - S) ((l : Int) - S)).toNat)) = _
  rw [e1, e2, signed_sg, signed_sg]
  have h1 : m * 2 ^ k = m * 2 ^ (k - min k l) * 2 ^ min k l := by
    rw [Nat.mul_assoc, ← Nat.pow_add]
    congr 2
    omega
  have h2 : n * 2 ^ l = n * 2 ^ (l - min k l) * 2 ^ min k l := by
    rw [Nat.mul_assoc, ← Nat.pow_add]
    congr 2
    omega
  rw [h1, h2, sg_scale s (m * 2 ^ (k - min k l)) (2 ^ min k l), sg_scale t (n * 2 ^ (l - min k l)) (2 ^ min k l), compare_scale]
  have := Nat.two_pow_pos (min k l)
  omega

/-- 'a number worth v is greater than the word y' -/
def gtV (f : Format) (S v y : Nat) : Bool := match f.read y with
  | .nan _ _ => false
  | .infinity t => t
  | .number t n e => decide (sg t (n * 2 ^ (e + S).toNat) < (v : Int))

theorem order_gt (f : Format) (S : Nat) (hS : f.leastPlace = -(S : Int)) (hE : 1 ≤ f.exponentBits) (p y : Nat) (hp : Good f p) :
    (f.order p y == some .gt) = gtV f S (val f p) y := by
  obtain ⟨s, m, k, hrp, hvp, hs⟩ := read_good f S hS p hp
  have hsg : sg s (m * 2 ^ k) = (val f p : Int) := by
    rw [← hvp]
    cases s with
    | false => rfl
    | true => rw [hs rfl]; simp [sg]
  unfold Format.order gtV
  rw [hrp]
  cases hy : f.read y with
  | nan a b => rfl
  | infinity t => cases t <;> rfl
  | number t n e =>
    obtain ⟨n', l, hr, _⟩ := read_fin f S hS y (read_number_fin f hE y hy)
    rw [hy] at hr
    simp only [Datum.number.injEq] at hr
    obtain ⟨_, rfl, rfl⟩ := hr
    rw [order_numbers, hsg]
    have e1 : ((l : Int) - S + S).toNat = l := by omega
    simp only [e1]
    by_cases h : sg t (n * 2 ^ l) < (val f p : Int)
    · rw [Int.compare_eq_gt.2 h, decide_eq_true h]
      rfl
    · rw [decide_eq_false h]
      rw [beq_eq_false_iff_ne]
      intro hc
      exact h (Int.compare_eq_gt.1 (by simpa using hc))

theorem gtV_mono (f : Format) (S : Nat) {v v' : Nat} (h : v ≤ v') (y : Nat) (hg : gtV f S v y = true) : gtV f S v' y = true := by
  unfold gtV at hg ⊢
  split at hg
  · cases hg
  · exact hg
  · simp only [decide_eq_true_eq] at hg ⊢
    omega

/-- 'x <= y' -/
def le (f : Format) (x y : Nat) : Bool := f.order x y == some .lt || f.order x y == some .eq
theorem le_cases {f : Format} {x y : Nat} (h : le f x y = true) : f.order x y = some .lt ∨ f.order x y = some .eq := by
  unfold le at h
  simpa using h

theorem gtV_anti (f : Format) (S : Nat) (hS : f.leastPlace = -(S : Int)) (hE : 1 ≤ f.exponentBits) (v a b : Nat) (h : le f a b = true) (hg : gtV f S v b = true) : gtV f S v a = true := by
  have hc := le_cases h
  unfold Format.order at hc
  unfold gtV at hg ⊢
  cases ha : f.read a with
  | nan s t =>
    rw [ha] at hc
    rcases hc with hc | hc <;> cases hc
  | infinity s =>
    rw [ha] at hc
    cases s with
    | true => rfl
    | false =>
      cases hb : f.read b with
      | nan s t => rw [hb] at hc; rcases hc with hc | hc <;> cases hc
      | infinity t =>
        rw [hb] at hc hg
        cases t with
        | true => rcases hc with hc | hc <;> cases hc
        | false => cases hg
      | number t n e => rw [hb] at hc; rcases hc with hc | hc <;> cases hc
  | number s m e =>
    rw [ha] at hc
    obtain ⟨m', k, hr, _⟩ := read_fin f S hS a (read_number_fin f hE a ha)
    rw [ha] at hr
    simp only [Datum.number.injEq] at hr
    obtain ⟨_, rfl, rfl⟩ := hr
    cases hb : f.read b with
    | nan s t => rw [hb] at hc; rcases hc with hc | hc <;> cases hc
    | infinity t =>
      rw [hb] at hc hg
      cases t with
      | true => rcases hc with hc | hc <;> cases hc
      | false => cases hg
    | number t n e =>
      rw [hb] at hc hg
      obtain ⟨n', l, hr, _⟩ := read_fin f S hS b (read_number_fin f hE b hb)
      rw [hb] at hr
      simp only [Datum.number.injEq] at hr
      obtain ⟨_, rfl, rfl⟩ := hr
      rw [order_numbers] at hc
      have e1 : ((l : Int) - S + S).toNat = l := by omega
      have e2 : ((k : Int) - S + S).toNat = k := by omega
      simp only [e1, e2, decide_eq_true_eq, Option.some.injEq] at hg hc ⊢
      rcases hc with hc | hc
      · have := Int.compare_eq_lt.1 hc
        omega
      · have := Int.compare_eq_eq.1 hc
        omega

theorem val_le (f : Format) (S : Nat) (hS : f.leastPlace = -(S : Int)) (a b : Nat) (ha : Good f a) (hb : Good f b) (h : le f a b = true) : val f a ≤ val f b := by
  obtain ⟨s, m, k, hra, hva, hs⟩ := read_good f S hS a ha
  obtain ⟨t, n, l, hrb, hvb, ht⟩ := read_good f S hS b hb
  have hsa : sg s (m * 2 ^ k) = (val f a : Int) := by
    rw [← hva]
    cases s with
    | false => rfl
    | true => rw [hs rfl]; simp [sg]
  have hsb : sg t (n * 2 ^ l) = (val f b : Int) := by
    rw [← hvb]
    cases t with
    | false => rfl
    | true => rw [ht rfl]; simp [sg]
  have hc := le_cases h
  unfold Format.order at hc
  rw [hra, hrb, order_numbers, hsa, hsb] at hc
  simp only [Option.some.injEq] at hc
  rcases hc with hc | hc
  · have := Int.compare_eq_lt.1 hc
    omega
  · have := Int.compare_eq_eq.1 hc
    omega

/-- 'x >= 0 && x <= 1': a good word of worth at most one -/
theorem share_good (f : Format) (S : Nat) (hS : f.leastPlace = -(S : Int)) (hE : 1 ≤ f.exponentBits) (one : Nat) (h1 : Good f one) (hv1 : val f one = 2 ^ S) (h0 : Good f 0) (hv0 : val f 0 = 0) (x : Nat)
    (hge : (f.order x 0 == some .gt || f.order x 0 == some .eq) = true) (hle : le f x one = true) : Good f x ∧ val f x ≤ 2 ^ S := by
  have hc0 : f.order x 0 = some .gt ∨ f.order x 0 = some .eq := by simpa using hge
  have hc1 := le_cases hle
  obtain ⟨s0, m0, k0, hr0, hvv0, hs0⟩ := read_good f S hS 0 h0
  obtain ⟨s1, m1, k1, hr1, hvv1, hs1⟩ := read_good f S hS one h1
  have e0 : sg s0 (m0 * 2 ^ k0) = 0 := by
    rw [hvv0, hv0]
    cases s0 <;> rfl
  unfold Format.order at hc0 hc1
  rw [hr0] at hc0
  rw [hr1] at hc1
  cases hx : f.read x with
  | nan s t => rw [hx] at hc0; rcases hc0 with h | h <;> cases h
  | infinity s =>
    rw [hx] at hc0 hc1
    cases s with
    | true => rcases hc0 with h | h <;> cases h
    | false => rcases hc1 with h | h <;> cases h
  | number s m e =>
    have hfin := read_number_fin f hE x hx
    obtain ⟨m', k, hr, hv⟩ := read_fin f S hS x hfin
    rw [hx] at hr hc0
    simp only [Datum.number.injEq] at hr
    obtain ⟨hsx, rfl, rfl⟩ := hr
    rw [order_numbers, e0] at hc0
    simp only [Option.some.injEq] at hc0
    have hnn : 0 ≤ sg s (m * 2 ^ k) := by
      rcases hc0 with h | h
      · have := Int.compare_eq_gt.1 h
        omega
      · have := Int.compare_eq_eq.1 h
        omega
    have hg : Good f x := by
      refine ⟨hfin, fun hneg => ?_⟩
      have hst : s = true := by rw [hsx]; simpa using hneg
      subst hst
      rw [hv] at hnn
      have hz : val f x = 0 := by
        unfold sg at hnn
        simp at hnn
        omega
      apply Classical.byContradiction
      intro hne
      exact Rnd.V_pos f.fractionBits hne hz
    refine ⟨hg, ?_⟩
    rw [← hv1]
    exact val_le f S hS x one hg h1 hle
end Go.Proofs.Qxb6605308aMods.Flt
