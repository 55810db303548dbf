import Derived.Test.Qxb6604069aModsRows
import Derived.WalkKit
import Derived.ProofKit
import Derived.WalkLawsBesides
import Derived.Laws.BitsAllLaws
namespace Go.Proofs.Qxb6604069aMods.Fnv
open Go.ChangeShapes Go.WideShapes Go.ChangeAt Go.RowKit
set_option linter.unusedVariables false

/-! ### THE PLAIN FUNCTION: 32-bit FNV-1a over a list of bytes -/
def stepN (h : Nat) (c : UInt8) : Nat := (h ^^^ c.toNat) * 16777619 % 4294967296
def fnvN (l : List UInt8) : Nat := l.foldl stepN 2166136261

theorem stepN_lt (h : Nat) (c : UInt8) : stepN h c < 4294967296 := Nat.mod_lt _ (by omega)
theorem foldl_lt (l : List UInt8) (h : Nat) (hh : h < 4294967296) : l.foldl stepN h < 4294967296 := by
  induction l generalizing h with
  | nil => exact hh
  | cons c r ih => exact ih _ (stepN_lt h c)
theorem basis_lt : 2166136261 < 4294967296 := by decide
theorem fnvN_lt (l : List UInt8) : fnvN l < 4294967296 := by
  unfold fnvN
  exact foldl_lt l 2166136261 basis_lt
theorem foldl_snoc {A B : Type} (f : A → B → A) (a : A) (l : List B) (c : B) : (l ++ [c]).foldl f a = f (l.foldl f a) c := by simp
theorem fnvN_snoc (l : List UInt8) (c : UInt8) : fnvN (l ++ [c]) = stepN (fnvN l) c := by
  unfold fnvN
  exact foldl_snoc stepN 2166136261 l c
theorem byte_lt (c : UInt8) : c.toNat < 256 := c.toBitVec.isLt

/-- The walk's own spelling of one round is 'stepN'. -/
theorem step_walk (h : Nat) (hh : h < 4294967296) (c : UInt8) :
    bits BinOp.xor IntKind.u32 (h : Int) ((c.toNat : Int) % 4294967296) * 16777619 % 4294967296 = ((stepN h c : Nat) : Int) := by
  have hc := byte_lt c
  have e : ((c.toNat : Int) % 4294967296) = (c.toNat : Int) := by omega
  rw [e, u32_xor_nat h c.toNat hh (by omega)]
  unfold stepN
  omega

theorem take_snoc (s : ByteArray) (k : Nat) (h : k < s.size) : s.data.toList.take (k + 1) = s.data.toList.take k ++ [s[k]] := by
  rw [List.take_succ_eq_append_getElem (by simpa using h)]; rfl

theorem ret_int {k : IntKind} {a b : Int} (h : a = b) : Ending.returned (.int k a) = .returned (.int k b) := by rw [h]

/-- 'fnv1a32' -/
theorem fnv_any (s : ByteArray) (w : World) (hs : s.size ≤ maxLen) :
    Calls Trym.prog 12 #[.string s] w fun e w' => e = .returned (.int .u32 ((fnvN s.data.toList : Nat) : Int)) ∧ w' = w := by
  unfold maxLen at hs
  go_enter Trym.func12, Trym.ntmps12
  go_wp2
  go_loop [3, 4] (fun n i => ∃ (k : Nat), k ≤ s.size ∧ i = .int .i64 k ∧ n = .int .u32 ((fnvN (s.data.toList.take k) : Nat) : Int)) (fun _ i => s.size - (intOf i).toNat)
  case atStart => exact ⟨0, Nat.zero_le _, rfl, rfl⟩
  case round =>
    obtain ⟨k, hk, rfl, rfl⟩ := hrel
    by_cases hlt : k < s.size
    · have HS : Hid (bits BinOp.xor IntKind.u32 ((fnvN (s.data.toList.take k) : Nat) : Int) ((s[k].toNat : Int) % 4294967296) * 16777619 % 4294967296 = ((fnvN (s.data.toList.take (k + 1)) : Nat) : Int)) := by
        rw [take_snoc s k hlt, fnvN_snoc]; exact step_walk _ (fnvN_lt _) _
      go_wp2
      go_round
      case rel => exact ⟨k + 1, by omega, by go_num, by rw [HS.out]⟩
      case measure => simp [intOf]; omega
    · go_wp2
      go_ret
      exact ⟨ret_int (by rw [List.take_of_length_le (by simp; omega)]), rfl⟩

/-- 'ZZfnv1a32' hands on. -/
theorem zz_any (s : ByteArray) (w : World) (hs : s.size ≤ maxLen) :
    Calls Trym.prog 8 #[.string s] w fun e w' => e = .returned (.int .u32 ((fnvN s.data.toList : Nat) : Int)) ∧ w' = w := by
  go_enter Trym.func8, Trym.ntmps8
  go_wp2_with (go_at_call 12; refine (fnv_any _ _ hs).mono ?_; rintro e w' ⟨rfl, rfl⟩)
  go_ret
  exact ⟨rfl, rfl⟩
end Go.Proofs.Qxb6604069aMods.Fnv
