/- entityPart, whole. -/
import Derived.Test.YtkogokjlpgnmlaaF3
set_option linter.unusedVariables false
set_option linter.unusedSimpArgs false
namespace Go.Proofs.Ytkogokjlpgnmlaa
open Go.RowKit

theorem ampIn_get (s : ByteArray) (k : Nat) (h : k < s.size) (hc : s[k] = 38) : ampIn s.data.toList = true := by
  unfold ampIn
  rw [List.any_eq_true]
  exact ⟨s[k], by simp [ByteArray.getElem_eq_getElem_data], by rw [hc]; rfl⟩
theorem ampIn_no (s : ByteArray) (h : ∀ k (hk : k < s.size), s[k] ≠ 38) : ampIn s.data.toList = false := by
  unfold ampIn
  rw [List.any_eq_false]
  intro x hx
  obtain ⟨k, hk, rfl⟩ := List.mem_iff_getElem.1 hx
  have := h k (by simpa using hk)
  intro hc
  have e : s[k] = s.data.toList[k] := rfl
  exact this (by rw [e]; simpa using hc)

set_option maxRecDepth 100000 in
set_option maxHeartbeats 1000000 in
theorem part_text (n : Int) (t : ByteArray) (w : World) (ht : t.size ≤ 9223372036854775807) :
    Calls Try.prog 8 #[.agg #[.int .i64 0, .int .i64 n, .string t]] w (PartPost w (if ampIn t.data.toList then ([], [], false) else (t.data.toList, t.data.toList, decide (t.data.toList.length ≤ 100)))) := by
  obtain ⟨r, hr⟩ : ∃ r, r = (if ampIn t.data.toList then (([], [], false) : Bs × Bs × Bool) else (t.data.toList, t.data.toList, decide (t.data.toList.length ≤ 100))) := ⟨_, rfl⟩
  rw [← hr]
  have HR := Lib.hid hr
  clear hr
  go_enter Try.func8, Try.ntmps8
  go_wp2_with fail
  go_loop [5] (fun i => ∃ k : Nat, k ≤ t.size ∧ i = .int .i64 k ∧ Hid (∀ j (hj : j < t.size), j < k → t[j] ≠ 38)) (fun i => t.size - (intOf i).toNat)
  case atStart => exact ⟨0, Nat.zero_le _, rfl, fun j hj h => by omega⟩
  case round =>
    obtain ⟨k, hk, rfl, HN⟩ := hrel
    by_cases hlt : k < t.size
    · by_cases hc : t[k] = 38
      · have hb : ((t[k].toNat : Int) == 38) = true := by rw [hc]; rfl
        have HA := Lib.hid (ampIn_get t k hlt hc)
        clear hc
        go_wp2
        go_ret3
        rw [HR.out, HA.out]
        exact ⟨rfl, (Below.refl _ _).alloc (Nat.le_refl _) _⟩
      · have hb : ((t[k].toNat : Int) == 38) = false := by
          rw [beq_eq_false_iff_ne]; intro h; exact hc (UInt8.toNat_inj.mp (by show t[k].toNat = 38; omega))
        have HC := Lib.hid hc
        clear hc
        go_wp2
        go_round
        case rel => exact ⟨k + 1, by omega, by go_num, fun j hj h => by
          by_cases e : j = k
          · subst e; exact HC.out
          · exact HN.out j hj (by omega)⟩
        case measure => simp [intOf]; omega
    · have hno : ampIn t.data.toList = false := ampIn_no t (fun j hj => HN.out j hj (by omega))
      have HNO := Lib.hid hno
      clear hno
      have hk' : k = t.size := by omega
      go_wp2_with fail
      go_quiet (fail)
      go_wp2
      go_ret3
      rw [HR.out, HNO.out]
      have et : (⟨t.data.toList.toArray⟩ : ByteArray) = t := by apply ByteArray.ext; simp
      refine ret_part et.symm et.symm (below_drewN ((Below.refl _ _).alloc (Nat.le_refl _) _) _) ?_
      show decide ((t.size : Int) ≤ 100) = decide (t.data.toList.length ≤ 100)
      have e : t.data.toList.length = t.size := by simp
      rw [e, Bool.eq_iff_iff]
      simp
      omega

/-- entityPart, whole. -/
theorem part_any (k n : Int) (t : ByteArray) (w : World) (ht : t.size ≤ 9223372036854775807) :
    Calls Try.prog 8 #[.agg #[.int .i64 k, .int .i64 n, .string t]] w (PartPost w (partOf k n t.data.toList)) := by
  unfold partOf
  by_cases h0 : k = 0
  · subst h0; rw [if_pos rfl]; exact part_text n t w ht
  rw [if_neg h0]
  by_cases h1 : k = 1
  · subst h1; rw [if_pos rfl]; exact part_name n t w
  rw [if_neg h1]
  by_cases h2 : k = 2
  · subst h2; rw [if_pos rfl]
    have := part_num 2 n t w (Or.inl rfl)
    simp only [if_pos] at this
    exact this
  rw [if_neg h2]
  by_cases h3 : k = 3
  · subst h3; rw [if_pos rfl]
    have := part_num 3 n t w (Or.inr rfl)
    simp only [show ¬ (3 : Int) = 2 by decide, if_false] at this
    exact this
  rw [if_neg h3]
  exact part_none k n t w h0 h1 h2 h3
end Go.Proofs.Ytkogokjlpgnmlaa
