import Derived.Test.Qxb6605308aModsFloat
/-! The powers of a share as words, and how many of them exceed a miss. No Go in sight. -/
namespace Go.Proofs.Qxb6605308aMods.PowN
open Ieee
open Flt (Good val gtV)

theorem lp : double.leastPlace = -((1074 : Nat) : Int) := by decide
theorem hE : 1 ≤ double.exponentBits := by decide
theorem one_good : Good double 4607182418800017408 := by
  unfold Good
  exact ⟨by decide +kernel, by decide +kernel⟩
theorem one_val : val double 4607182418800017408 = 2 ^ 1074 := by decide +kernel
theorem nil_good : Good double 0 := by
  unfold Good
  exact ⟨by decide +kernel, by decide +kernel⟩
theorem nil_val : val double 0 = 0 := by decide +kernel

/-- a share: a word from 0 to 1 -/
def Share (l : Nat) : Prop := Good double l ∧ val double l ≤ 2 ^ 1074

theorem share_of (x : Nat) (hge : (double.order x 0 == some .gt || double.order x 0 == some .eq) = true) (hle : Flt.le double x 4607182418800017408 = true) : Share x :=
  Flt.share_good double 1074 lp hE _ one_good one_val nil_good nil_val x hge hle

/-- the (k + 1)-th power, rounded at each step -/
def pw (l : Nat) : Nat → Nat
  | 0 => l
  | k + 1 => (double.mul (pw l k) l).getD 0

theorem pw_step {l : Nat} (h : Share l) (k : Nat) (hg : Good double (pw l k)) :
    double.mul (pw l k) l = some (pw l (k + 1)) ∧ Good double (pw l (k + 1)) ∧ pw l (k + 1) % double.signWeight = Rnd.rungN double.fractionBits 1074 (val double (pw l k) * val double l) ∧ val double (pw l (k + 1)) ≤ val double (pw l k) := by
  obtain ⟨r, hr, h1, h2, h3⟩ := Flt.mul_good double 1074 lp hE (pw l k) l hg h.1 h.2
  have e : pw l (k + 1) = r := by
    show (double.mul (pw l k) l).getD 0 = r
    rw [hr]
    rfl
  rw [e]
  exact ⟨hr, h1, h2, h3⟩

theorem pw_good {l : Nat} (h : Share l) : ∀ k, Good double (pw l k)
  | 0 => h.1
  | k + 1 => (pw_step h k (pw_good h k)).2.1

theorem pw_mul {l : Nat} (h : Share l) (k : Nat) : double.mul (pw l k) l = some (pw l (k + 1)) := (pw_step h k (pw_good h k)).1
theorem pw_fall {l : Nat} (h : Share l) (k : Nat) : val double (pw l (k + 1)) ≤ val double (pw l k) := (pw_step h k (pw_good h k)).2.2.2
theorem pw_grow {a b : Nat} (ha : Share a) (hb : Share b) (hab : val double a ≤ val double b) : ∀ k, val double (pw a k) ≤ val double (pw b k)
  | 0 => hab
  | k + 1 => Flt.mul_mono double 1074 (pw_step ha k (pw_good ha k)).2.2.1 (pw_step hb k (pw_good hb k)).2.2.1 (pw_grow ha hb hab k) hab

/-- does the (k + 1)-th power exceed the miss? -/
def g (l m k : Nat) : Bool := gtV double 1074 (val double (pw l k)) m
theorem g_order {l : Nat} (h : Share l) (m k : Nat) : (double.order (pw l k) m == some .gt) = g l m k := Flt.order_gt double 1074 lp hE _ _ (pw_good h k)
theorem g_fall {l : Nat} (h : Share l) (m k : Nat) (hg : g l m (k + 1) = true) : g l m k = true := Flt.gtV_mono double 1074 (pw_fall h k) m hg
theorem g_loss {a b : Nat} (ha : Share a) (hb : Share b) (hab : Flt.le double a b = true) (m k : Nat) (hg : g a m k = true) : g b m k = true :=
  Flt.gtV_mono double 1074 (pw_grow ha hb (Flt.val_le double 1074 lp a b ha.1 hb.1 hab) k) m hg
theorem g_miss (l : Nat) {m n : Nat} (h : Flt.le double m n = true) (k : Nat) (hg : g l n k = true) : g l m k = true :=
  Flt.gtV_anti double 1074 lp hE _ m n h hg

/-- how many of g 0 .. g (n - 1) say yes -/
def C (g : Nat → Bool) : Nat → Nat
  | 0 => 0
  | n + 1 => C g n + (g n).toNat
theorem toNat_le (b : Bool) : b.toNat ≤ 1 := by cases b <;> decide
theorem C_le (g : Nat → Bool) : ∀ n, C g n ≤ n
  | 0 => Nat.le_refl _
  | n + 1 => by
    have := C_le g n
    have := toNat_le (g n)
    show C g n + (g n).toNat ≤ n + 1
    omega
theorem C_yes (g : Nat → Bool) (n : Nat) (h : g n = true) : C g (n + 1) = C g n + 1 := by
  show C g n + (g n).toNat = _
  rw [h]; rfl
theorem C_no (g : Nat → Bool) (n : Nat) (h : g n = false) : C g (n + 1) = C g n := by
  show C g n + (g n).toNat = _
  rw [h]; rfl
theorem C_mono {g h : Nat → Bool} (e : ∀ k, g k = true → h k = true) : ∀ n, C g n ≤ C h n
  | 0 => Nat.le_refl _
  | n + 1 => by
    have := C_mono e n
    have hb : (g n).toNat ≤ (h n).toNat := by
      cases hg : g n with
      | false => exact Nat.zero_le _
      | true => rw [e n hg]; exact Nat.le_refl _
    show C g n + (g n).toNat ≤ C h n + (h n).toNat
    omega
/-- where they fall, none comes behind the first no -/
theorem no_after {g : Nat → Bool} (hf : ∀ k, g (k + 1) = true → g k = true) {k : Nat} (h : g k = false) : ∀ d, g (k + d) = false
  | 0 => h
  | d + 1 => by
    cases hb : g (k + (d + 1)) with
    | false => rfl
    | true =>
      have := hf (k + d) hb
      rw [no_after hf h d] at this
      cases this
theorem C_stop {g : Nat → Bool} (hf : ∀ k, g (k + 1) = true → g k = true) {k : Nat} (h : g k = false) : ∀ d, C g (k + d) = C g k
  | 0 => rfl
  | d + 1 => by
    show C g (k + d + 1) = _
    rw [C_no g (k + d) (no_after hf h d)]
    exact C_stop hf h d
end Go.Proofs.Qxb6605308aMods.PowN
