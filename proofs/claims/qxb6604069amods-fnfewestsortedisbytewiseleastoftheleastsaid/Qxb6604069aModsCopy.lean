import Derived.Test.Qxb6604069aModsRows
import Derived.WalkKit
import Derived.ProofKit
import Derived.WalkLawsBesides
import Derived.Deep.OwnRows
namespace Go.Proofs.Qxb6604069aMods.Copy
open Go.ChangeShapes Go.WideShapes Go.ChangeAt Go.RowKit
set_option linter.unusedVariables false

theorem info9 : (Trym.prog.info? 9).map (fun i => (i.zero, i.size, i.bytes)) = some (some (.string ByteArray.empty), 1, 16) := by kernel_rfl

/-- The new row after k rounds. -/
def part (f : Nat → ByteArray) (k j : Nat) : Value := if j < k then .string (f j) else .string ByteArray.empty
theorem part_zero (f : Nat → ByteArray) (j : Nat) : part f 0 j = .string ByteArray.empty := by simp [part]
theorem part_lt (f : Nat → ByteArray) (k j : Nat) (h : j < k) : part f k j = .string (f j) := by simp [part, h]
theorem part_step (f : Nat → ByteArray) (k j : Nat) : (if j = k then Value.string (f k) else part f k j) = part f (k + 1) j := by
  unfold part
  by_cases h : j = k
  · subst h; simp
  · rw [if_neg h]
    by_cases h2 : j < k
    · rw [if_pos h2, if_pos (by omega)]
    · rw [if_neg h2, if_neg (by omega)]
/-- One store more. -/
theorem row_step {wr : World} {B n : Nat} {f : Nat → ByteArray} {k : Nat} (h : wr.rowIs B 9 n (part f k)) :
    (wr.setCell ⟨B, k, none⟩ (.string (f k))).rowIs B 9 n (part f (k + 1)) :=
  (h.set k (.string (f k))).congr (fun i _ => part_step f k i)

/-- 'zzB1CopyMembers' hands back a row of its own that holds the same strings; nothing that was there has turned. -/
theorem copy_any (b off n c : Nat) (f : Nat → ByteArray) (w : World) (hn : n ≤ 65536) (hbB : b < w.heap.size)
    (hcell : ∀ j, j < n → w.cell? ⟨b, off + j, none⟩ = some (.string (f j))) :
    Calls Trym.prog 10 #[.slice (some ⟨b, off, none⟩) n c] w fun e w' => e = .returned (.slice (some ⟨w.heap.size, 0, none⟩) n n) ∧
      w'.rowIs w.heap.size 9 n (fun j => .string (f j)) ∧ Below w.heap.size w w' := by
  have hmk := run_make_row' (P := Trym.prog) 26 9 (.string ByteArray.empty) 16 Trym.underlying26 info9 rfl .i64 .i64 n (by omega) (by omega)
  go_enter Trym.func10, Trym.ntmps10
  go_wp2
  clear hmk
  go_loopw [4] (fun i wr => ∃ k : Nat, k ≤ n ∧ i = .int .i64 k ∧ wr.rowIs w.heap.size 9 n (part f k) ∧ Below w.heap.size w wr) (fun i _ => n - (intOf i).toNat)
  case atStart =>
    exact ⟨0, Nat.zero_le _, rfl, (World.rowIs_made w (.string ByteArray.empty) n 9).congr (fun i _ => (part_zero f i).symm), (Below.refl _ _).alloc (Nat.le_refl _) _⟩
  case round =>
    obtain ⟨k, hk, rfl, hrow, hbel⟩ := hrel
    by_cases hlt : k < n
    · have hc : wr.cell? ⟨b, off + k, none⟩ = some (.string (f k)) := (hbel.cell (by exact hbB)).trans (hcell k hlt)
      have hd : wr.cell? ⟨w.heap.size, k, none⟩ = some (part f k k) := hrow.cell hlt
      have hf : wr.frozen? ⟨w.heap.size, k, none⟩ = false := hrow.frozen k
      go_wp2
      go_roundw
      case rel => exact ⟨k + 1, by omega, by go_num, row_step hrow, hbel.setCell (Nat.le_refl _) _⟩
      case measure => simp [intOf]; omega
    · obtain rfl : k = n := by omega
      go_wp2
      go_ret
      exact ⟨rfl, hrow.congr (fun i hi => part_lt f k i hi), hbel⟩
end Go.Proofs.Qxb6604069aMods.Copy
