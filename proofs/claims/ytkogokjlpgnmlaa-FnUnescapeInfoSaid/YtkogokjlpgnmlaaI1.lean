/- FnUnescapeInfo: classes of bytes, walked. -/
import Derived.Test.YtkogokjlpgnmlaaG4
set_option linter.unusedVariables false
set_option linter.unusedSimpArgs false
namespace Go.Proofs.Ytkogokjlpgnmlaa
open Go.RowKit

def isDig (c : UInt8) : Bool := 48 ≤ c.toNat && c.toNat ≤ 57
def isHx (c : UInt8) : Bool := isDig c || (97 ≤ c.toNat && c.toNat ≤ 102) || (65 ≤ c.toNat && c.toNat ≤ 70)
def isPun (c : UInt8) : Bool := (32 < c.toNat && c.toNat < 127) && !isAln c
set_option maxHeartbeats 1000000
theorem dig34 (c : UInt8) (w : World) : Calls Try.prog 34 #[.int .u8 c.toNat] w fun e w' => e = .returned (.bool (isDig c)) ∧ w = w' := by
  unfold isDig
  obtain ⟨n, hn⟩ : ∃ n : Nat, n = c.toNat := ⟨_, rfl⟩
  rw [← hn]
  clear hn
  by_cases h0 : 48 ≤ n <;> by_cases h1 : n ≤ 57 <;> first | (exfalso; omega) | (
    have k0 : (48 ≤ (n : Int)) ↔ 48 ≤ n := by omega
    have k1 : ((n : Int) ≤ 57) ↔ n ≤ 57 := by omega
    go_enter Try.func34, Try.ntmps34
    go_wp2
    all_goals (
      go_ret
      first | exact ⟨rfl, rfl⟩ | (refine ⟨?_, rfl⟩; simp [k0, h0, k1, h1])))
theorem dig61 (c : UInt8) (w : World) : Calls Try.prog 61 #[.int .u8 c.toNat] w fun e w' => e = .returned (.bool (isDig c)) ∧ w = w' := by
  unfold isDig
  obtain ⟨n, hn⟩ : ∃ n : Nat, n = c.toNat := ⟨_, rfl⟩
  rw [← hn]
  clear hn
  by_cases h0 : 48 ≤ n <;> by_cases h1 : n ≤ 57 <;> first | (exfalso; omega) | (
    have k0 : (48 ≤ (n : Int)) ↔ 48 ≤ n := by omega
    have k1 : ((n : Int) ≤ 57) ↔ n ≤ 57 := by omega
    go_enter Try.func61, Try.ntmps61
    go_wp2
    all_goals (
      go_ret
      first | exact ⟨rfl, rfl⟩ | (refine ⟨?_, rfl⟩; simp [k0, h0, k1, h1])))
theorem let32 (c : UInt8) (w : World) : Calls Try.prog 32 #[.int .u8 c.toNat] w fun e w' => e = .returned (.bool (isLet c)) ∧ w = w' := by
  unfold isLet
  obtain ⟨n, hn⟩ : ∃ n : Nat, n = c.toNat := ⟨_, rfl⟩
  rw [← hn]
  clear hn
  by_cases h0 : 97 ≤ n <;> by_cases h1 : n ≤ 122 <;> by_cases h2 : 65 ≤ n <;> by_cases h3 : n ≤ 90 <;> first | (exfalso; omega) | (
    have k0 : (97 ≤ (n : Int)) ↔ 97 ≤ n := by omega
    have k1 : ((n : Int) ≤ 122) ↔ n ≤ 122 := by omega
    have k2 : (65 ≤ (n : Int)) ↔ 65 ≤ n := by omega
    have k3 : ((n : Int) ≤ 90) ↔ n ≤ 90 := by omega
    go_enter Try.func32, Try.ntmps32
    go_wp2
    all_goals (
      go_ret
      first | exact ⟨rfl, rfl⟩ | (refine ⟨?_, rfl⟩; simp [k0, h0, k1, h1, k2, h2, k3, h3])))
theorem word29 (c : UInt8) (w : World) : Calls Try.prog 29 #[.int .u8 c.toNat] w fun e w' => e = .returned (.bool (isAln c)) ∧ w = w' := by
  unfold isAln isLet
  obtain ⟨n, hn⟩ : ∃ n : Nat, n = c.toNat := ⟨_, rfl⟩
  rw [← hn]
  clear hn
  by_cases h0 : 48 ≤ n <;> by_cases h1 : n ≤ 57 <;> by_cases h2 : 97 ≤ n <;> by_cases h3 : n ≤ 122 <;> by_cases h4 : 65 ≤ n <;> by_cases h5 : n ≤ 90 <;> first | (exfalso; omega) | (
    have k0 : (48 ≤ (n : Int)) ↔ 48 ≤ n := by omega
    have k1 : ((n : Int) ≤ 57) ↔ n ≤ 57 := by omega
    have k2 : (97 ≤ (n : Int)) ↔ 97 ≤ n := by omega
    have k3 : ((n : Int) ≤ 122) ↔ n ≤ 122 := by omega
    have k4 : (65 ≤ (n : Int)) ↔ 65 ≤ n := by omega
    have k5 : ((n : Int) ≤ 90) ↔ n ≤ 90 := by omega
    go_enter Try.func29, Try.ntmps29
    go_wp2
    all_goals (
      go_ret
      first | exact ⟨rfl, rfl⟩ | (refine ⟨?_, rfl⟩; simp [k0, h0, k1, h1, k2, h2, k3, h3, k4, h4, k5, h5])))
theorem hex33 (c : UInt8) (w : World) : Calls Try.prog 33 #[.int .u8 c.toNat] w fun e w' => e = .returned (.bool (isHx c)) ∧ w = w' := by
  have CL := Lib.hid (fun w => dig34 c w)
  unfold isHx
  obtain ⟨b, hb⟩ : ∃ b : Bool, b = isDig c := ⟨_, rfl⟩
  rw [← hb] at CL ⊢
  obtain ⟨n, hn⟩ : ∃ n : Nat, n = c.toNat := ⟨_, rfl⟩
  rw [← hn] at CL ⊢
  clear hn hb
  by_cases h0 : 97 ≤ n <;> by_cases h1 : n ≤ 102 <;> by_cases h2 : 65 ≤ n <;> by_cases h3 : n ≤ 70 <;> first | (exfalso; omega) | (
    have k0 : (97 ≤ (n : Int)) ↔ 97 ≤ n := by omega
    have k1 : ((n : Int) ≤ 102) ↔ n ≤ 102 := by omega
    have k2 : (65 ≤ (n : Int)) ↔ 65 ≤ n := by omega
    have k3 : ((n : Int) ≤ 70) ↔ n ≤ 70 := by omega
    cases b <;> (
      go_enter Try.func33, Try.ntmps33
      go_wp2_with (go_at_call 34; refine (CL.out _).mono ?_; rintro e w' ⟨rfl, rfl⟩)
      all_goals (
        go_ret
        first | exact ⟨rfl, rfl⟩ | (refine ⟨?_, rfl⟩; simp [k0, h0, k1, h1, k2, h2, k3, h3]))))
theorem hex63 (c : UInt8) (w : World) : Calls Try.prog 63 #[.int .u8 c.toNat] w fun e w' => e = .returned (.bool (isHx c)) ∧ w = w' := by
  have CL := Lib.hid (fun w => dig61 c w)
  unfold isHx
  obtain ⟨b, hb⟩ : ∃ b : Bool, b = isDig c := ⟨_, rfl⟩
  rw [← hb] at CL ⊢
  obtain ⟨n, hn⟩ : ∃ n : Nat, n = c.toNat := ⟨_, rfl⟩
  rw [← hn] at CL ⊢
  clear hn hb
  by_cases h0 : 97 ≤ n <;> by_cases h1 : n ≤ 102 <;> by_cases h2 : 65 ≤ n <;> by_cases h3 : n ≤ 70 <;> first | (exfalso; omega) | (
    have k0 : (97 ≤ (n : Int)) ↔ 97 ≤ n := by omega
    have k1 : ((n : Int) ≤ 102) ↔ n ≤ 102 := by omega
    have k2 : (65 ≤ (n : Int)) ↔ 65 ≤ n := by omega
    have k3 : ((n : Int) ≤ 70) ↔ n ≤ 70 := by omega
    cases b <;> (
      go_enter Try.func63, Try.ntmps63
      go_wp2_with (go_at_call 61; refine (CL.out _).mono ?_; rintro e w' ⟨rfl, rfl⟩)
      all_goals (
        go_ret
        first | exact ⟨rfl, rfl⟩ | (refine ⟨?_, rfl⟩; simp [k0, h0, k1, h1, k2, h2, k3, h3]))))
theorem pun17 (c : UInt8) (w : World) : Calls Try.prog 17 #[.int .u8 c.toNat] w fun e w' => e = .returned (.bool (isPun c)) ∧ w = w' := by
  have CL := Lib.hid (fun w => word29 c w)
  unfold isPun
  obtain ⟨b, hb⟩ : ∃ b : Bool, b = isAln c := ⟨_, rfl⟩
  rw [← hb] at CL ⊢
  obtain ⟨n, hn⟩ : ∃ n : Nat, n = c.toNat := ⟨_, rfl⟩
  rw [← hn] at CL ⊢
  clear hn hb
  by_cases h0 : 32 < n <;> by_cases h1 : n < 127 <;> first | (exfalso; omega) | (
    have k0 : (32 < (n : Int)) ↔ 32 < n := by omega
    have k1 : ((n : Int) < 127) ↔ n < 127 := by omega
    cases b <;> (
      go_enter Try.func17, Try.ntmps17
      go_wp2_with (go_at_call 29; refine (CL.out _).mono ?_; rintro e w' ⟨rfl, rfl⟩)
      all_goals (
        go_ret
        first | exact ⟨rfl, rfl⟩ | (refine ⟨?_, rfl⟩; simp [k0, h0, k1, h1]))))
end Go.Proofs.Ytkogokjlpgnmlaa
