/- zzIndexAmp: the place of the first ampersand. -/
import Derived.Test.YtkogokjlpgnmlaaT1
set_option linter.unusedVariables false
set_option linter.unusedSimpArgs false
namespace Go.Proofs.Ytkogokjlpgnmlaa
open Go.RowKit

/-- The place of the first '&', counted from k on; -1: there is none. -/
def ampFrom : Bs → Nat → Int
  | [], _ => -1
  | c :: r, k => if c = 38 then (k : Int) else ampFrom r (k + 1)

theorem drop_get (s : ByteArray) (k : Nat) (h : k < s.size) : s.data.toList.drop k = s[k] :: s.data.toList.drop (k + 1) := by
  rw [List.drop_eq_getElem_cons (by simpa using h)]; rfl
theorem ampFrom_step (s : ByteArray) (k : Nat) (h : k < s.size) :
    ampFrom (s.data.toList.drop k) k = if s[k] = 38 then (k : Int) else ampFrom (s.data.toList.drop (k + 1)) (k + 1) := by
  rw [drop_get s k h]; rfl
/-- Where there is none, and where there is one: what stands ahead of it. -/
theorem ampFrom_cases : ∀ (l : Bs) (k : Nat), (ampFrom l k = -1 ∧ ∀ c ∈ l, c ≠ 38) ∨ ∃ i : Nat, ampFrom l k = ((k + i : Nat) : Int) ∧ i < l.length ∧ l.getD i 0 = 38 ∧ ∀ c ∈ l.take i, c ≠ 38
  | [], k => Or.inl ⟨rfl, by simp⟩
  | c :: r, k => by
    by_cases h : c = 38
    · right
      exact ⟨0, by rw [ampFrom, if_pos h]; rfl, by simp, by simpa using h, by simp⟩
    · rcases ampFrom_cases r (k + 1) with ⟨h1, h2⟩ | ⟨i, h1, h2, h3, h4⟩
      · left
        refine ⟨by rw [ampFrom, if_neg h, h1], fun d hd => ?_⟩
        rcases List.mem_cons.1 hd with rfl | hd
        · exact h
        · exact h2 d hd
      · right
        refine ⟨i + 1, by rw [ampFrom, if_neg h, h1]; congr 1; omega, by simpa using h2, by simpa using h3, fun d hd => ?_⟩
        rw [List.take_succ_cons] at hd
        rcases List.mem_cons.1 hd with rfl | hd
        · exact h
        · exact h4 d hd

set_option maxHeartbeats 400000 in
theorem indexAmp_any (s : ByteArray) (w : World) (hs : s.size ≤ 9223372036854775807) :
    Calls Try.prog 41 #[.string s] w fun e w' => e = .returned (.int .i64 (ampFrom s.data.toList 0)) ∧ w = w' := by
  go_enter Try.func41, Try.ntmps41
  go_wp2
  go_loop [3] (fun i => ∃ k : Nat, k ≤ s.size ∧ i = .int .i64 k ∧ Hid (ampFrom s.data.toList 0 = ampFrom (s.data.toList.drop k) k)) (fun i => s.size - (intOf i).toNat)
  case atStart => exact ⟨0, Nat.zero_le _, rfl, rfl⟩
  case round =>
    obtain ⟨k, hk, rfl, HR⟩ := hrel
    by_cases hlt : k < s.size
    · have H := Lib.hid (HR.out.trans (ampFrom_step s k hlt))
      clear HR
      by_cases hc : s[k] = 38
      · have hb : ((s[k].toNat : Int) == 38) = true := by rw [hc]; rfl
        have H2 := Lib.hid hc
        clear hc
        go_wp2
        go_ret
        rw [H.out, if_pos H2.out]
        exact ⟨rfl, rfl⟩
      · have hb : ((s[k].toNat : Int) == 38) = false := by
          rw [beq_eq_false_iff_ne]; intro h; exact hc (UInt8.toNat_inj.mp (by show s[k].toNat = 38; omega))
        have H2 := Lib.hid hc
        clear hc
        go_wp2
        go_round
        case rel => exact ⟨k + 1, by omega, by go_num, by show _ = _; rw [H.out, if_neg H2.out]⟩
        case measure => simp [intOf]; omega
    · have he : s.data.toList.drop k = [] := List.drop_eq_nil_of_le (by simp; omega)
      have H := Lib.hid (HR.out.trans (by rw [he]; rfl : _ = (-1 : Int)))
      clear he HR
      go_wp2
      go_ret
      rw [H.out]
      exact ⟨rfl, rfl⟩
end Go.Proofs.Ytkogokjlpgnmlaa
