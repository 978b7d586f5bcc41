/- FnUnescapeInfo: where a run of a class ends (inRun, at its three classes). -/
import Derived.Test.YtkogokjlpgnmlaaI3
set_option linter.unusedVariables false
set_option linter.unusedSimpArgs false
namespace Go.Proofs.Ytkogokjlpgnmlaa
open Go.RowKit

theorem runB_step (p : UInt8 → Bool) (l : Bs) (k : Nat) (h : k < l.length) : runB p (l.drop k) k = if p (l.getD k 0) = true then runB p (l.drop (k + 1)) (k + 1) else k := by
  rw [getD_drop_cons l k h, runB]
theorem runB_end (p : UInt8 → Bool) (l : Bs) (k : Nat) (h : l.length ≤ k) : runB p (l.drop k) k = k := by
  rw [List.drop_eq_nil_of_le h, runB]

set_option maxRecDepth 100000 in
set_option maxHeartbeats 2000000 in
theorem inRun29 (A : Option Addr) (b off n c i : Nat) (l : Bs) (w : World) (hA : 0 < n → A = some ⟨b, off, none⟩) (hn : l.length = n) (hc : n ≤ 9223372036854775807) (hi : i ≤ n) (hR : RdO w b off l) :
    Calls Try.prog 31 #[.slice A n c, .int .i64 i, .func (.func 29) #[] #[]] w fun e w' => e = .returned (.int .i64 (runB isAln (l.drop i) i : Nat)) ∧ w = w' := by
  obtain ⟨r, hr⟩ : ∃ r, r = runB isAln (l.drop i) i := ⟨_, rfl⟩
  rw [← hr]
  have HR0 := Lib.hid hr
  have HA := Lib.hid hA
  have HN := Lib.hid hn
  have HR := Lib.hid hR
  clear hr hA hn hR
  go_enter Try.func31, Try.ntmps31
  go_wp2
  go_loopg [1] (n - i) (fun q v wr => ∃ k : Nat, v = .int .i64 k ∧ q + k = n ∧ i ≤ k ∧ k ≤ n ∧ w = wr ∧ Hid (r = runB isAln (l.drop k) k))
  case atStart => exact ⟨i, rfl, by omega, Nat.le_refl _, hi, rfl, HR0.out⟩
  case round =>
    obtain ⟨k, rfl, hq, hk, hkn, rfl, HI⟩ := hrel
    have HQ := Lib.hid hq
    clear hq
    by_cases hlt : k < n
    · obtain rfl := HA.out (by omega)
      obtain ⟨x, hx⟩ : ∃ x, x = l.getD k 0 := ⟨_, rfl⟩
      have hck : w.cell? ⟨b, off + k, none⟩ = some (.int .u8 x.toNat) := by rw [hx]; exact HR.out k (by rw [HN.out]; exact hlt)
      have hst := HI.out.trans (runB_step isAln l k (by rw [HN.out]; exact hlt))
      rw [← hx] at hst
      have CL := Lib.hid (fun w => word29 x w)
      cases hpx : isAln x with
      | true =>
        rw [hpx] at CL
        have HI2 : Hid (r = runB isAln (l.drop (k + 1)) (k + 1)) := by show _ = _; rw [hst, if_pos hpx]
        clear hx hst hpx HI
        go_wp2_with (go_at_call 29; refine (CL.out _).mono ?_; rintro e w' ⟨rfl, rfl⟩)
        go_roundg (gk - 1)
        case measure => have := HQ.out; omega
        case rel => exact ⟨k + 1, by go_num, by have := HQ.out; omega, by omega, by omega, rfl, HI2⟩
      | false =>
        rw [hpx] at CL
        have HI2 : Hid (r = k) := by show _ = _; rw [hst, if_neg (by rw [hpx]; decide)]
        clear hx hst hpx HI
        go_wp2_with (go_at_call 29; refine (CL.out _).mono ?_; rintro e w' ⟨rfl, rfl⟩)
        go_ret
        rw [HI2.out]
        exact ⟨rfl, rfl⟩
    · have HI2 : Hid (r = k) := by show _ = _; rw [HI.out, runB_end isAln l k (by rw [HN.out]; omega)]
      clear HI
      go_wp2_with fail
      go_ret
      rw [HI2.out]
      exact ⟨rfl, rfl⟩

set_option maxRecDepth 100000 in
set_option maxHeartbeats 2000000 in
theorem inRun33 (A : Option Addr) (b off n c i : Nat) (l : Bs) (w : World) (hA : 0 < n → A = some ⟨b, off, none⟩) (hn : l.length = n) (hc : n ≤ 9223372036854775807) (hi : i ≤ n) (hR : RdO w b off l) :
    Calls Try.prog 31 #[.slice A n c, .int .i64 i, .func (.func 33) #[] #[]] w fun e w' => e = .returned (.int .i64 (runB isHx (l.drop i) i : Nat)) ∧ w = w' := by
  obtain ⟨r, hr⟩ : ∃ r, r = runB isHx (l.drop i) i := ⟨_, rfl⟩
  rw [← hr]
  have HR0 := Lib.hid hr
  have HA := Lib.hid hA
  have HN := Lib.hid hn
  have HR := Lib.hid hR
  clear hr hA hn hR
  go_enter Try.func31, Try.ntmps31
  go_wp2
  go_loopg [1] (n - i) (fun q v wr => ∃ k : Nat, v = .int .i64 k ∧ q + k = n ∧ i ≤ k ∧ k ≤ n ∧ w = wr ∧ Hid (r = runB isHx (l.drop k) k))
  case atStart => exact ⟨i, rfl, by omega, Nat.le_refl _, hi, rfl, HR0.out⟩
  case round =>
    obtain ⟨k, rfl, hq, hk, hkn, rfl, HI⟩ := hrel
    have HQ := Lib.hid hq
    clear hq
    by_cases hlt : k < n
    · obtain rfl := HA.out (by omega)
      obtain ⟨x, hx⟩ : ∃ x, x = l.getD k 0 := ⟨_, rfl⟩
      have hck : w.cell? ⟨b, off + k, none⟩ = some (.int .u8 x.toNat) := by rw [hx]; exact HR.out k (by rw [HN.out]; exact hlt)
      have hst := HI.out.trans (runB_step isHx l k (by rw [HN.out]; exact hlt))
      rw [← hx] at hst
      have CL := Lib.hid (fun w => hex33 x w)
      cases hpx : isHx x with
      | true =>
        rw [hpx] at CL
        have HI2 : Hid (r = runB isHx (l.drop (k + 1)) (k + 1)) := by show _ = _; rw [hst, if_pos hpx]
        clear hx hst hpx HI
        go_wp2_with (go_at_call 33; refine (CL.out _).mono ?_; rintro e w' ⟨rfl, rfl⟩)
        go_roundg (gk - 1)
        case measure => have := HQ.out; omega
        case rel => exact ⟨k + 1, by go_num, by have := HQ.out; omega, by omega, by omega, rfl, HI2⟩
      | false =>
        rw [hpx] at CL
        have HI2 : Hid (r = k) := by show _ = _; rw [hst, if_neg (by rw [hpx]; decide)]
        clear hx hst hpx HI
        go_wp2_with (go_at_call 33; refine (CL.out _).mono ?_; rintro e w' ⟨rfl, rfl⟩)
        go_ret
        rw [HI2.out]
        exact ⟨rfl, rfl⟩
    · have HI2 : Hid (r = k) := by show _ = _; rw [HI.out, runB_end isHx l k (by rw [HN.out]; omega)]
      clear HI
      go_wp2_with fail
      go_ret
      rw [HI2.out]
      exact ⟨rfl, rfl⟩

set_option maxRecDepth 100000 in
set_option maxHeartbeats 2000000 in
theorem inRun34 (A : Option Addr) (b off n c i : Nat) (l : Bs) (w : World) (hA : 0 < n → A = some ⟨b, off, none⟩) (hn : l.length = n) (hc : n ≤ 9223372036854775807) (hi : i ≤ n) (hR : RdO w b off l) :
    Calls Try.prog 31 #[.slice A n c, .int .i64 i, .func (.func 34) #[] #[]] w fun e w' => e = .returned (.int .i64 (runB isDig (l.drop i) i : Nat)) ∧ w = w' := by
  obtain ⟨r, hr⟩ : ∃ r, r = runB isDig (l.drop i) i := ⟨_, rfl⟩
  rw [← hr]
  have HR0 := Lib.hid hr
  have HA := Lib.hid hA
  have HN := Lib.hid hn
  have HR := Lib.hid hR
  clear hr hA hn hR
  go_enter Try.func31, Try.ntmps31
  go_wp2
  go_loopg [1] (n - i) (fun q v wr => ∃ k : Nat, v = .int .i64 k ∧ q + k = n ∧ i ≤ k ∧ k ≤ n ∧ w = wr ∧ Hid (r = runB isDig (l.drop k) k))
  case atStart => exact ⟨i, rfl, by omega, Nat.le_refl _, hi, rfl, HR0.out⟩
  case round =>
    obtain ⟨k, rfl, hq, hk, hkn, rfl, HI⟩ := hrel
    have HQ := Lib.hid hq
    clear hq
    by_cases hlt : k < n
    · obtain rfl := HA.out (by omega)
      obtain ⟨x, hx⟩ : ∃ x, x = l.getD k 0 := ⟨_, rfl⟩
      have hck : w.cell? ⟨b, off + k, none⟩ = some (.int .u8 x.toNat) := by rw [hx]; exact HR.out k (by rw [HN.out]; exact hlt)
      have hst := HI.out.trans (runB_step isDig l k (by rw [HN.out]; exact hlt))
      rw [← hx] at hst
      have CL := Lib.hid (fun w => dig34 x w)
      cases hpx : isDig x with
      | true =>
        rw [hpx] at CL
        have HI2 : Hid (r = runB isDig (l.drop (k + 1)) (k + 1)) := by show _ = _; rw [hst, if_pos hpx]
        clear hx hst hpx HI
        go_wp2_with (go_at_call 34; refine (CL.out _).mono ?_; rintro e w' ⟨rfl, rfl⟩)
        go_roundg (gk - 1)
        case measure => have := HQ.out; omega
        case rel => exact ⟨k + 1, by go_num, by have := HQ.out; omega, by omega, by omega, rfl, HI2⟩
      | false =>
        rw [hpx] at CL
        have HI2 : Hid (r = k) := by show _ = _; rw [hst, if_neg (by rw [hpx]; decide)]
        clear hx hst hpx HI
        go_wp2_with (go_at_call 34; refine (CL.out _).mono ?_; rintro e w' ⟨rfl, rfl⟩)
        go_ret
        rw [HI2.out]
        exact ⟨rfl, rfl⟩
    · have HI2 : Hid (r = k) := by show _ = _; rw [HI.out, runB_end isDig l k (by rw [HN.out]; omega)]
      clear HI
      go_wp2_with fail
      go_ret
      rw [HI2.out]
      exact ⟨rfl, rfl⟩
end Go.Proofs.Ytkogokjlpgnmlaa
