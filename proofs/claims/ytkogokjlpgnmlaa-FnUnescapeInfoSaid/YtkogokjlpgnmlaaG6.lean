/- What escaping writes: the plain law. -/
import Derived.Test.YtkogokjlpgnmlaaG5
set_option linter.unusedVariables false
set_option linter.unusedSimpArgs false
namespace Go.Proofs.Ytkogokjlpgnmlaa
open Go.RowKit

/-- Escaping from e on; keep: valid entities stay. -/
noncomputable def esc (keep : Bool) (l : Bs) (e : Nat) : Bs :=
  if h : e < l.length then
    if isE (l.getD e 0) = true then
      if hk : keep = true ∧ e < (nodeT l e).getD 0 then
        (l.drop e).take ((nodeT l e).getD 0 + 1 - e) ++ esc keep l ((nodeT l e).getD 0 + 1)
      else escOf (l.getD e 0) ++ esc keep l (e + 1)
    else l.getD e 0 :: esc keep l (e + 1)
  else []
termination_by l.length - e
decreasing_by all_goals omega

theorem nieF_some : ∀ (t nm : Bs) (k j : Nat), nieF nm t k = some j → k ≤ j ∧ j < k + t.length ∧ isEnt (nm ++ t.take (j + 1 - k)) = true
  | [], nm, k, j, h => by simp [nieF] at h
  | c :: r, nm, k, j, h => by
    rw [nieF] at h
    split at h
    · rename_i hc
      cases h
      refine ⟨Nat.le_refl _, by simp, ?_⟩
      rw [show k + 1 - k = 1 by omega]
      simpa using hc.2
    · split at h
      · obtain ⟨h1, h2, h3⟩ := nieF_some r (nm ++ [c]) (k + 1) j h
        refine ⟨by omega, by simp; omega, ?_⟩
        rw [show j + 1 - k = (j + 1 - (k + 1)) + 1 by omega, List.take_succ_cons]
        simpa using h3
      · cases h
theorem nodeT_some {l : Bs} {e k : Nat} (h : nodeT l e = some k) : e < k ∧ (e < l.length → k < l.length) ∧ ∀ i, e < i → i ≤ k → i < l.length → isE (l.getD i 0) = false := by
  unfold nodeT at h
  split at h
  · obtain ⟨h1, h2, h3⟩ := nieF_some _ _ _ _ h
    refine ⟨by omega, fun he => by rw [List.length_drop] at h2; omega, fun i hi1 hi2 hi3 => ?_⟩
    rw [List.nil_append] at h3
    have := isEnt_names _ h3 (i - (e + 1)) (by simp; omega)
    rw [List.getElem_take, List.getElem_drop] at this
    rw [List.getD_eq_getElem?_getD, List.getElem?_eq_getElem hi3]
    simpa [show e + 1 + (i - (e + 1)) = i by omega] using this
  · cases h

theorem esc_end_ (keep : Bool) (l : Bs) (e : Nat) (h : l.length ≤ e) : esc keep l e = [] := by
  rw [esc, dif_neg (by omega)]
theorem esc_plain (keep : Bool) (l : Bs) (e : Nat) (h : e < l.length) (hc : isE (l.getD e 0) = false) : esc keep l e = l.getD e 0 :: esc keep l (e + 1) := by
  rw [esc, dif_pos h, if_neg (by rw [hc]; decide)]
theorem esc_esc (keep : Bool) (l : Bs) (e : Nat) (h : e < l.length) (hc : isE (l.getD e 0) = true) (hk : keep = false ∨ nodeT l e = none) : esc keep l e = escOf (l.getD e 0) ++ esc keep l (e + 1) := by
  rw [esc, dif_pos h, if_pos hc, dif_neg]
  rintro ⟨h1, h2⟩
  rcases hk with h | h
  · rw [h] at h1; cases h1
  · rw [h] at h2; simp at h2
theorem esc_ent (keep : Bool) (l : Bs) (e k : Nat) (h : e < l.length) (hc : isE (l.getD e 0) = true) (h1 : keep = true) (hk : nodeT l e = some k) : esc keep l e = (l.drop e).take (k + 1 - e) ++ esc keep l (k + 1) := by
  have := (nodeT_some hk).1
  rw [esc, dif_pos h, if_pos hc, dif_pos ⟨h1, by rw [hk]; exact this⟩, hk]
  rfl

/-- The loop's relation: B is written, st and e are the two places. -/
def EscInv (keep : Bool) (l B : Bs) (st e : Nat) : Prop :=
  (st ≤ e ∧ e ≤ l.length ∧ esc keep l 0 = B ++ (l.drop st).take (e - st) ++ esc keep l e) ∨
  (e < st ∧ st ≤ l.length ∧ (∀ i, e ≤ i → i < st → isE (l.getD i 0) = false) ∧ esc keep l 0 = B ++ esc keep l st)
theorem take_getD_succ (l : Bs) (st e : Nat) (h1 : st ≤ e) (h2 : e < l.length) : (l.drop st).take (e + 1 - st) = (l.drop st).take (e - st) ++ [l.getD e 0] := (take_succ_getD l st e h1 h2).symm
theorem take_take_drop (l : Bs) (st e k : Nat) (h1 : st ≤ e) (h2 : e ≤ k) : (l.drop st).take (e - st) ++ (l.drop e).take (k - e) = (l.drop st).take (k - st) := by
  have : l.drop e = (l.drop st).drop (e - st) := by rw [List.drop_drop]; congr 1; omega
  rw [this, show k - st = (e - st) + (k - e) by omega, List.take_add]
theorem inv_start (keep : Bool) (l : Bs) : EscInv keep l [] 0 0 := Or.inl ⟨Nat.le_refl _, Nat.zero_le _, by simp⟩
theorem inv_plain {keep : Bool} {l B : Bs} {st e : Nat} (h : EscInv keep l B st e) (he : e < l.length) (hc : isE (l.getD e 0) = false) : EscInv keep l B st (e + 1) := by
  rcases h with ⟨h1, h2, h3⟩ | ⟨h1, h2, h3, h4⟩
  · refine Or.inl ⟨by omega, by omega, ?_⟩
    rw [h3, esc_plain keep l e he hc, take_getD_succ l st e h1 he]
    simp
  · rcases Nat.lt_or_ge (e + 1) st with h5 | h5
    · exact Or.inr ⟨h5, h2, fun i hi => h3 i (by omega), h4⟩
    · obtain rfl : st = e + 1 := by omega
      exact Or.inl ⟨Nat.le_refl _, by omega, by rw [h4]; simp⟩
theorem inv_le {keep : Bool} {l B : Bs} {st e : Nat} (h : EscInv keep l B st e) (he : e < l.length) (hc : isE (l.getD e 0) = true) : st ≤ e := by
  rcases h with ⟨h1, h2, h3⟩ | ⟨h1, h2, h3, h4⟩
  · exact h1
  · rw [h3 e (Nat.le_refl _) h1] at hc; cases hc
theorem inv_ent {keep : Bool} {l B : Bs} {st e k : Nat} (h : EscInv keep l B st e) (he : e < l.length) (hc : isE (l.getD e 0) = true) (h1 : keep = true) (hk : nodeT l e = some k) :
    EscInv keep l (B ++ (l.drop st).take (k + 1 - st)) (k + 1) (e + 1) := by
  have hle := inv_le h he hc
  obtain ⟨k1, k2, k3⟩ := nodeT_some hk
  rcases h with ⟨_, h2, h3⟩ | ⟨h1, _⟩
  · refine Or.inr ⟨by omega, k2 he, fun i hi1 hi2 => k3 i (by omega) (by omega) (by have := k2 he; omega), ?_⟩
    rw [h3, esc_ent keep l e k he hc h1 hk, ← take_take_drop l st e (k + 1) hle (by omega)]
    simp
  · omega
theorem inv_esc {keep : Bool} {l B : Bs} {st e : Nat} (h : EscInv keep l B st e) (he : e < l.length) (hc : isE (l.getD e 0) = true) (hk : keep = false ∨ nodeT l e = none) :
    EscInv keep l (B ++ (l.drop st).take (e - st) ++ escOf (l.getD e 0)) (e + 1) (e + 1) := by
  have hle := inv_le h he hc
  rcases h with ⟨_, h2, h3⟩ | ⟨h1, _⟩
  · refine Or.inl ⟨Nat.le_refl _, by omega, ?_⟩
    rw [h3, esc_esc keep l e he hc hk]
    simp
  · omega
theorem inv_end {keep : Bool} {l B : Bs} {st e : Nat} (h : EscInv keep l B st e) (he : ¬ e < l.length) : st ≤ l.length ∧ e = l.length ∧ esc keep l 0 = B ++ (l.drop st).take (l.length - st) := by
  rcases h with ⟨h1, h2, h3⟩ | ⟨h1, h2, _⟩
  · obtain rfl : e = l.length := by omega
    exact ⟨h1, rfl, by rw [h3, esc_end_ keep l l.length (Nat.le_refl _), List.append_nil]⟩
  · omega
end Go.Proofs.Ytkogokjlpgnmlaa
