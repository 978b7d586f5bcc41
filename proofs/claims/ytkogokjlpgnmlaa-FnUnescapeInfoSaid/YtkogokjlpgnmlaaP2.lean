/- The plain laws of escaping. -/
import Derived.Test.YtkogokjlpgnmlaaG6
import Derived.Test.YtkogokjlpgnmlaaP1
set_option linter.unusedVariables false
set_option linter.unusedSimpArgs false
namespace Go.Proofs.Ytkogokjlpgnmlaa
open Go.RowKit

theorem escOf_len (c : UInt8) : (escOf c).length ≤ 6 := by
  unfold escOf
  split
  · simp
  · split
    · simp
    · split <;> simp
theorem esc_len (keep : Bool) (l : Bs) : ∀ (n e : Nat), l.length - e ≤ n → (esc keep l e).length ≤ 6 * (l.length - e)
  | 0, e, h => by rw [esc_end_ keep l e (by omega)]; simp
  | n + 1, e, h => by
    by_cases he : e < l.length
    · cases hE : isE (l.getD e 0) with
      | false =>
        have := esc_len keep l n (e + 1) (by omega)
        rw [esc_plain keep l e he hE, List.length_cons]
        omega
      | true =>
        by_cases hk : keep = true ∧ (nodeT l e).isSome = true
        · obtain ⟨k, hk2⟩ := Option.isSome_iff_exists.1 hk.2
          obtain ⟨q1, q2, _⟩ := nodeT_some hk2
          have := esc_len keep l n (k + 1) (by omega)
          have := q2 he
          rw [esc_ent keep l e k he hE hk.1 hk2, List.length_append, List.length_take, List.length_drop]
          omega
        · have hkr : keep = false ∨ nodeT l e = none := by
            rcases hkk : keep with _ | _
            · exact Or.inl rfl
            · rcases hrr : nodeT l e with _ | k
              · exact Or.inr rfl
              · exact absurd ⟨hkk, by rw [hrr]; rfl⟩ hk
          have := esc_len keep l n (e + 1) (by omega)
          have := escOf_len (l.getD e 0)
          rw [esc_esc keep l e he hE hkr, List.length_append]
          omega
    · rw [esc_end_ keep l e (by omega)]
      simp

theorem unesc_escOf (c : UInt8) (r : Bs) (h : isE c = true) : unescape (escOf c ++ r) = c :: unescape r := by
  simp [isE] at h
  rcases h with ((rfl | rfl) | rfl) | rfl
  · have e := ent_name [97, 109, 112] r 38 (by decide) (by simp) ent_amp (by decide)
    exact unesc_ent [97, 109, 112, 59] r _ _ e rfl
  · have e := ent_name [108, 116] r 60 (by decide) (by simp) ent_lt (by decide)
    exact unesc_ent [108, 116, 59] r _ _ e rfl
  · have e := ent_name [103, 116] r 62 (by decide) (by simp) ent_gt (by decide)
    exact unesc_ent [103, 116, 59] r _ _ e rfl
  · have e := ent_name [113, 117, 111, 116] r 34 (by decide) (by simp) ent_quot (by decide)
    exact unesc_ent [113, 117, 111, 116, 59] r _ _ e rfl
/-- What is escaped whole is unescaped as it was. -/
theorem back_law (l : Bs) : ∀ (n e : Nat), l.length - e ≤ n → unescape (esc false l e) = l.drop e
  | 0, e, h => by rw [esc_end_ false l e (by omega), List.drop_eq_nil_of_le (by omega)]; rfl
  | n + 1, e, h => by
    by_cases he : e < l.length
    · rw [getD_drop_cons l e he]
      cases hE : isE (l.getD e 0) with
      | false =>
        rw [esc_plain false l e he hE, unescape_cons _ _ (fun h => by rw [h] at hE; exact absurd hE (by decide)), back_law l n (e + 1) (by omega)]
      | true =>
        rw [esc_esc false l e he hE (Or.inl rfl), unesc_escOf _ _ hE, back_law l n (e + 1) (by omega)]
    · rw [esc_end_ false l e (by omega), List.drop_eq_nil_of_le (by omega)]; rfl
theorem back_all (l : Bs) : unescape (esc false l 0) = l := by
  rw [back_law l l.length 0 (by omega), List.drop_zero]
end Go.Proofs.Ytkogokjlpgnmlaa
