/- FnUnescapeInfo: runs of at most m bytes; against whole runs. -/
import Derived.Test.YtkogokjlpgnmlaaI7
set_option linter.unusedVariables false
set_option linter.unusedSimpArgs false
namespace Go.Proofs.Ytkogokjlpgnmlaa
open Go.RowKit

/-- Where a run of a class, of at most m bytes, ends. -/
def runM (p : UInt8 → Bool) : Bs → Nat → Nat → Nat
  | [], k, _ => k
  | _ :: _, k, 0 => k
  | c :: r, k, m + 1 => if p c = true then runM p r (k + 1) m else k

theorem runM_same (p : UInt8 → Bool) : ∀ (l : Bs) (k m : Nat), runB p l k ≤ k + m → runM p l k m = runB p l k
  | [], k, m, _ => by rw [runM, runB]
  | c :: r, k, 0, h => by
    rw [runB] at h ⊢
    rw [runM]
    split
    · rename_i hc
      rw [if_pos hc] at h
      have := (runB_ge p r (k + 1)).1
      omega
    · rfl
  | c :: r, k, m + 1, h => by
    rw [runB] at h ⊢
    rw [runM]
    split
    · rename_i hc
      rw [if_pos hc] at h
      exact runM_same p r (k + 1) m (by omega)
    · rfl
/-- Where the whole run is longer, the byte behind m of them is of the class. -/
theorem runM_long (p : UInt8 → Bool) : ∀ (l : Bs) (k m : Nat), k + m < runB p l k → runM p l k m = k + m ∧ p (l.getD m 0) = true ∧ m < l.length
  | [], k, m, h => by rw [runB] at h; omega
  | c :: r, k, 0, h => by
    rw [runB] at h
    rw [runM]
    split at h
    · rename_i hc
      exact ⟨rfl, by simpa using hc, by simp⟩
    · omega
  | c :: r, k, m + 1, h => by
    rw [runB] at h
    rw [runM]
    split at h
    · rename_i hc
      rw [if_pos hc]
      obtain ⟨q1, q2, q3⟩ := runM_long p r (k + 1) m (by omega)
      exact ⟨by rw [q1]; omega, by simpa using q2, by simp; omega⟩
    · omega
end Go.Proofs.Ytkogokjlpgnmlaa
