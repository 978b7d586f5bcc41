/- FnUnescapeInfo: zzNumber. -/
import Derived.Test.YtkogokjlpgnmlaaI8
set_option linter.unusedVariables false
set_option linter.unusedSimpArgs false
namespace Go.Proofs.Ytkogokjlpgnmlaa
open Go.RowKit

/-- At most eight bytes of a class from s on, and a semicolon. -/
def numE (p : UInt8 → Bool) (l : Bs) (s : Nat) : Nat := if runM p (l.drop s) s 8 = s then 0 else semiB l (runM p (l.drop s) s 8)
theorem runM_step (p : UInt8 → Bool) (l : Bs) (k m : Nat) (h : k < l.length) : runM p (l.drop k) k (m + 1) = if p (l.getD k 0) = true then runM p (l.drop (k + 1)) (k + 1) m else k := by
  rw [getD_drop_cons l k h, runM]
theorem runM_nil (p : UInt8 → Bool) (l : Bs) (k m : Nat) (h : l.length ≤ k) : runM p (l.drop k) k m = k := by
  rw [List.drop_eq_nil_of_le h, runM]
theorem runM_zero (p : UInt8 → Bool) (l : Bs) (k : Nat) : runM p l k 0 = k := by
  cases l <;> rw [runM]
theorem dig_hx (c : UInt8) (h : isDig c = true) : isHx c = true := by unfold isHx; rw [h]; rfl
theorem nat59_eq {y : UInt8} (h : y = 59) : ((y.toNat : Int) != 59) = false := by rw [h]; rfl
theorem nat59_ne {y : UInt8} (h : y ≠ 59) : ((y.toNat : Int) != 59) = true := by
  rw [bne_iff_ne]
  intro e
  exact h (UInt8.toNat_inj.mp (by show y.toNat = 59; omega))
theorem semi_yes {l : Bs} {e : Nat} (h1 : e < l.length) (h : l.getD e 0 = 59) : semiB l e = e + 1 := by
  unfold semiB atB
  rw [h, decide_eq_true h1]; rfl
theorem semi_no {l : Bs} {e : Nat} (h : l.getD e 0 ≠ 59) : semiB l e = 0 := by
  unfold semiB atB
  rw [if_neg (by simp; intro _; simpa using h)]
theorem semi_far {l : Bs} {e : Nat} (h : ¬ e < l.length) : semiB l e = 0 := by
  unfold semiB atB
  rw [decide_eq_false h]; rfl

set_option maxRecDepth 100000 in
set_option maxHeartbeats 6000000 in
theorem num_x (A : Option Addr) (b off n c i : Nat) (l : Bs) (w : World) (hA : 0 < n → A = some ⟨b, off, none⟩) (hn : l.length = n) (hc : n ≤ 9223372036854775800) (hi : i ≤ n) (hR : RdO w b off l)
    (hx : atB l i 120 = true) :
    Calls Try.prog 59 #[.slice A n c, .int .i64 i, .int .i64 8, .int .i64 8] w fun e w' => e = .returned (.int .i64 (numE isHx l (i + 1) : Nat)) ∧ w = w' := by
  obtain ⟨r, hr⟩ : ∃ r, r = numE isHx l (i + 1) := ⟨_, rfl⟩
  rw [← hr]
  unfold numE at hr
  have hlt := atB_lt hx
  rw [hn] at hlt
  obtain rfl := hA (by omega)
  have hck := hR i (by omega)
  have hxv : l.getD i 0 = 120 := by unfold atB at hx; simp at hx; simpa using hx.2
  rw [hxv] at hck
  have hck2 : w.cell? ⟨b, off + i, none⟩ = some (.int .u8 120) := hck
  clear hck hxv hx
  have HA : Hid (0 < n → some (⟨b, off, none⟩ : Addr) = some ⟨b, off, none⟩) := hA
  have HRR := Lib.hid hr
  have HN := Lib.hid hn
  have HR := Lib.hid hR
  clear hr hn hR hA
  go_enter Try.func59, Try.ntmps59
  go_upto_block 0 with fail
  go_cut [1, 11] (fun v1 v11 wc => ∃ j : Nat, v1 = .int .i64 (((i + 1) + j : Nat) : Int) ∧ v11 = .int .i64 (j : Nat) ∧ j ≤ 8 ∧ (i + 1) + j ≤ n ∧ w = wc ∧ Hid (runM isHx (l.drop (i + 1)) (i + 1) 8 = (i + 1) + j))
  case first =>
    go_wp2_with fail
    go_loopg [1, 11] 9 (fun q v1 v11 wr => ∃ j : Nat, v1 = .int .i64 (((i + 1) + j : Nat) : Int) ∧ v11 = .int .i64 (j : Nat) ∧ q + j = 9 ∧ j ≤ 8 ∧ (i + 1) + j ≤ n ∧ w = wr ∧ Hid (runM isHx (l.drop (i + 1)) (i + 1) 8 = runM isHx (l.drop ((i + 1) + j)) ((i + 1) + j) (8 - j)))
    case atStart => exact ⟨0, by go_num, rfl, rfl, by omega, by omega, rfl, rfl⟩
    case round =>
      obtain ⟨j, rfl, rfl, hq, hj, hsn, rfl, HI⟩ := hrel
      have HQ := Lib.hid hq
      clear hq
      by_cases h1 : (i + 1) + j < n
      · obtain ⟨y, hy⟩ : ∃ y, y = l.getD ((i + 1) + j) 0 := ⟨_, rfl⟩
        have hcy : w.cell? ⟨b, off + ((i + 1) + j), none⟩ = some (.int .u8 y.toNat) := by rw [hy]; exact HR.out ((i + 1) + j) (by rw [HN.out]; exact h1)
        by_cases h8 : j < 8
        · have hst := HI.out
          rw [show 8 - j = (8 - (j + 1)) + 1 by omega, runM_step isHx l ((i + 1) + j) _ (by rw [HN.out]; exact h1), ← hy] at hst
          have CD := Lib.hid (fun w => dig61 y w)
          have CH := Lib.hid (fun w => hex63 y w)
          cases hp : isHx y with
          | true =>
            rw [if_pos hp] at hst
            have HI2 := Lib.hid hst
            clear hst HI hy
            cases hd : isDig y with
            | true =>
              rw [hd] at CD
              clear hp hd
              go_wp2_with (first | (go_at_call 61; refine (CD.out _).mono ?_; rintro e' w' ⟨rfl, rfl⟩) | (go_at_call 63; refine (CH.out _).mono ?_; rintro e' w' ⟨rfl, rfl⟩))
              go_roundg (gk - 1)
              case measure => have := HQ.out; omega
              case rel => exact ⟨j + 1, by go_num, by go_num, by have := HQ.out; omega, by omega, by omega, rfl, HI2⟩
            | false =>
              rw [hd] at CD
              rw [hp] at CH
              clear hp hd
              go_wp2_with (first | (go_at_call 61; refine (CD.out _).mono ?_; rintro e' w' ⟨rfl, rfl⟩) | (go_at_call 63; refine (CH.out _).mono ?_; rintro e' w' ⟨rfl, rfl⟩))
              go_roundg (gk - 1)
              case measure => have := HQ.out; omega
              case rel => exact ⟨j + 1, by go_num, by go_num, by have := HQ.out; omega, by omega, by omega, rfl, HI2⟩
          | false =>
            rw [if_neg (by rw [hp]; decide)] at hst
            have HE := Lib.hid hst
            clear hst HI hy
            have hd : isDig y = false := by cases hd : isDig y with | false => rfl | true => rw [dig_hx y hd] at hp; cases hp
            rw [hd] at CD
            rw [hp] at CH
            clear hp hd
            go_wp2_with (first | (go_at_call 61; refine (CD.out _).mono ?_; rintro e' w' ⟨rfl, rfl⟩) | (go_at_call 63; refine (CH.out _).mono ?_; rintro e' w' ⟨rfl, rfl⟩))
            go_meet
            case rel => exact ⟨j, rfl, rfl, hj, hsn, rfl, HE⟩
        · have hst := HI.out
          rw [show 8 - j = 0 by omega, runM_zero] at hst
          have HE := Lib.hid hst
          clear hst HI hy
          go_wp2_with fail
          go_meet
          case rel => exact ⟨j, rfl, rfl, hj, hsn, rfl, HE⟩
      · have hst := HI.out
        rw [runM_nil isHx l ((i + 1) + j) (8 - j) (by rw [HN.out]; omega)] at hst
        have HE := Lib.hid hst
        clear hst HI
        go_wp2_with fail
        go_meet
        case rel => exact ⟨j, rfl, rfl, hj, hsn, rfl, HE⟩
  case rest =>
    obtain ⟨j, rfl, rfl, hj, hsn, rfl, HE⟩ := hcut
    have hf := HRR.out
    rw [HE.out] at hf
    by_cases h0 : j = 0
    · have HF : Hid (r = 0) := by show _ = _; rw [hf, if_pos (by omega)]
      subst h0
      clear hf HE HRR
      go_wp2_with fail
      go_ret
      rw [HF.out]
      exact ⟨rfl, rfl⟩
    · rw [if_neg (by omega)] at hf
      have bj : ((j : Int) == 0) = false := by rw [beq_eq_false_iff_ne]; omega
      by_cases h1 : (i + 1) + j < n
      · obtain ⟨y, hy⟩ : ∃ y, y = l.getD ((i + 1) + j) 0 := ⟨_, rfl⟩
        have hcy : w.cell? ⟨b, off + ((i + 1) + j), none⟩ = some (.int .u8 y.toNat) := by rw [hy]; exact HR.out ((i + 1) + j) (by rw [HN.out]; exact h1)
        by_cases h59 : y = 59
        · rw [semi_yes (by rw [HN.out]; exact h1) (hy.symm.trans h59)] at hf
          have b59 := nat59_eq h59
          have HF := Lib.hid hf
          clear hf HE HRR h0 hy h59
          go_wp2_with fail
          go_ret
          rw [HF.out]
          exact ⟨by go_num, rfl⟩
        · rw [semi_no (fun h => h59 (hy.trans h))] at hf
          have b59 := nat59_ne h59
          have HF := Lib.hid hf
          clear hf HE HRR h0 hy h59
          go_wp2_with fail
          go_ret
          rw [HF.out]
          exact ⟨rfl, rfl⟩
      · rw [semi_far (by rw [HN.out]; exact h1)] at hf
        have HF := Lib.hid hf
        clear hf HE HRR h0
        go_wp2_with fail
        go_ret
        rw [HF.out]
        exact ⟨rfl, rfl⟩

set_option maxRecDepth 100000 in
set_option maxHeartbeats 6000000 in
theorem num_X (A : Option Addr) (b off n c i : Nat) (l : Bs) (w : World) (hA : 0 < n → A = some ⟨b, off, none⟩) (hn : l.length = n) (hc : n ≤ 9223372036854775800) (hi : i ≤ n) (hR : RdO w b off l)
    (hx : atB l i 88 = true) :
    Calls Try.prog 59 #[.slice A n c, .int .i64 i, .int .i64 8, .int .i64 8] w fun e w' => e = .returned (.int .i64 (numE isHx l (i + 1) : Nat)) ∧ w = w' := by
  obtain ⟨r, hr⟩ : ∃ r, r = numE isHx l (i + 1) := ⟨_, rfl⟩
  rw [← hr]
  unfold numE at hr
  have hlt := atB_lt hx
  rw [hn] at hlt
  obtain rfl := hA (by omega)
  have hck := hR i (by omega)
  have hxv : l.getD i 0 = 88 := by unfold atB at hx; simp at hx; simpa using hx.2
  rw [hxv] at hck
  have hck2 : w.cell? ⟨b, off + i, none⟩ = some (.int .u8 88) := hck
  clear hck hxv hx
  have HA : Hid (0 < n → some (⟨b, off, none⟩ : Addr) = some ⟨b, off, none⟩) := hA
  have HRR := Lib.hid hr
  have HN := Lib.hid hn
  have HR := Lib.hid hR
  clear hr hn hR hA
  go_enter Try.func59, Try.ntmps59
  go_upto_block 0 with fail
  go_cut [1, 11] (fun v1 v11 wc => ∃ j : Nat, v1 = .int .i64 (((i + 1) + j : Nat) : Int) ∧ v11 = .int .i64 (j : Nat) ∧ j ≤ 8 ∧ (i + 1) + j ≤ n ∧ w = wc ∧ Hid (runM isHx (l.drop (i + 1)) (i + 1) 8 = (i + 1) + j))
  case first =>
    go_wp2_with fail
    go_loopg [1, 11] 9 (fun q v1 v11 wr => ∃ j : Nat, v1 = .int .i64 (((i + 1) + j : Nat) : Int) ∧ v11 = .int .i64 (j : Nat) ∧ q + j = 9 ∧ j ≤ 8 ∧ (i + 1) + j ≤ n ∧ w = wr ∧ Hid (runM isHx (l.drop (i + 1)) (i + 1) 8 = runM isHx (l.drop ((i + 1) + j)) ((i + 1) + j) (8 - j)))
    case atStart => exact ⟨0, by go_num, rfl, rfl, by omega, by omega, rfl, rfl⟩
    case round =>
      obtain ⟨j, rfl, rfl, hq, hj, hsn, rfl, HI⟩ := hrel
      have HQ := Lib.hid hq
      clear hq
      by_cases h1 : (i + 1) + j < n
      · obtain ⟨y, hy⟩ : ∃ y, y = l.getD ((i + 1) + j) 0 := ⟨_, rfl⟩
        have hcy : w.cell? ⟨b, off + ((i + 1) + j), none⟩ = some (.int .u8 y.toNat) := by rw [hy]; exact HR.out ((i + 1) + j) (by rw [HN.out]; exact h1)
        by_cases h8 : j < 8
        · have hst := HI.out
          rw [show 8 - j = (8 - (j + 1)) + 1 by omega, runM_step isHx l ((i + 1) + j) _ (by rw [HN.out]; exact h1), ← hy] at hst
          have CD := Lib.hid (fun w => dig61 y w)
          have CH := Lib.hid (fun w => hex63 y w)
          cases hp : isHx y with
          | true =>
            rw [if_pos hp] at hst
            have HI2 := Lib.hid hst
            clear hst HI hy
            cases hd : isDig y with
            | true =>
              rw [hd] at CD
              clear hp hd
              go_wp2_with (first | (go_at_call 61; refine (CD.out _).mono ?_; rintro e' w' ⟨rfl, rfl⟩) | (go_at_call 63; refine (CH.out _).mono ?_; rintro e' w' ⟨rfl, rfl⟩))
              go_roundg (gk - 1)
              case measure => have := HQ.out; omega
              case rel => exact ⟨j + 1, by go_num, by go_num, by have := HQ.out; omega, by omega, by omega, rfl, HI2⟩
            | false =>
              rw [hd] at CD
              rw [hp] at CH
              clear hp hd
              go_wp2_with (first | (go_at_call 61; refine (CD.out _).mono ?_; rintro e' w' ⟨rfl, rfl⟩) | (go_at_call 63; refine (CH.out _).mono ?_; rintro e' w' ⟨rfl, rfl⟩))
              go_roundg (gk - 1)
              case measure => have := HQ.out; omega
              case rel => exact ⟨j + 1, by go_num, by go_num, by have := HQ.out; omega, by omega, by omega, rfl, HI2⟩
          | false =>
            rw [if_neg (by rw [hp]; decide)] at hst
            have HE := Lib.hid hst
            clear hst HI hy
            have hd : isDig y = false := by cases hd : isDig y with | false => rfl | true => rw [dig_hx y hd] at hp; cases hp
            rw [hd] at CD
            rw [hp] at CH
            clear hp hd
            go_wp2_with (first | (go_at_call 61; refine (CD.out _).mono ?_; rintro e' w' ⟨rfl, rfl⟩) | (go_at_call 63; refine (CH.out _).mono ?_; rintro e' w' ⟨rfl, rfl⟩))
            go_meet
            case rel => exact ⟨j, rfl, rfl, hj, hsn, rfl, HE⟩
        · have hst := HI.out
          rw [show 8 - j = 0 by omega, runM_zero] at hst
          have HE := Lib.hid hst
          clear hst HI hy
          go_wp2_with fail
          go_meet
          case rel => exact ⟨j, rfl, rfl, hj, hsn, rfl, HE⟩
      · have hst := HI.out
        rw [runM_nil isHx l ((i + 1) + j) (8 - j) (by rw [HN.out]; omega)] at hst
        have HE := Lib.hid hst
        clear hst HI
        go_wp2_with fail
        go_meet
        case rel => exact ⟨j, rfl, rfl, hj, hsn, rfl, HE⟩
  case rest =>
    obtain ⟨j, rfl, rfl, hj, hsn, rfl, HE⟩ := hcut
    have hf := HRR.out
    rw [HE.out] at hf
    by_cases h0 : j = 0
    · have HF : Hid (r = 0) := by show _ = _; rw [hf, if_pos (by omega)]
      subst h0
      clear hf HE HRR
      go_wp2_with fail
      go_ret
      rw [HF.out]
      exact ⟨rfl, rfl⟩
    · rw [if_neg (by omega)] at hf
      have bj : ((j : Int) == 0) = false := by rw [beq_eq_false_iff_ne]; omega
      by_cases h1 : (i + 1) + j < n
      · obtain ⟨y, hy⟩ : ∃ y, y = l.getD ((i + 1) + j) 0 := ⟨_, rfl⟩
        have hcy : w.cell? ⟨b, off + ((i + 1) + j), none⟩ = some (.int .u8 y.toNat) := by rw [hy]; exact HR.out ((i + 1) + j) (by rw [HN.out]; exact h1)
        by_cases h59 : y = 59
        · rw [semi_yes (by rw [HN.out]; exact h1) (hy.symm.trans h59)] at hf
          have b59 := nat59_eq h59
          have HF := Lib.hid hf
          clear hf HE HRR h0 hy h59
          go_wp2_with fail
          go_ret
          rw [HF.out]
          exact ⟨by go_num, rfl⟩
        · rw [semi_no (fun h => h59 (hy.trans h))] at hf
          have b59 := nat59_ne h59
          have HF := Lib.hid hf
          clear hf HE HRR h0 hy h59
          go_wp2_with fail
          go_ret
          rw [HF.out]
          exact ⟨rfl, rfl⟩
      · rw [semi_far (by rw [HN.out]; exact h1)] at hf
        have HF := Lib.hid hf
        clear hf HE HRR h0
        go_wp2_with fail
        go_ret
        rw [HF.out]
        exact ⟨rfl, rfl⟩

set_option maxRecDepth 100000 in
set_option maxHeartbeats 6000000 in
theorem num_d (A : Option Addr) (b off n c i : Nat) (l : Bs) (w : World) (hA : 0 < n → A = some ⟨b, off, none⟩) (hn : l.length = n) (hc : n ≤ 9223372036854775800) (hi : i ≤ n) (hR : RdO w b off l)
    (hx : atB l i 120 = false) (hX : atB l i 88 = false) :
    Calls Try.prog 59 #[.slice A n c, .int .i64 i, .int .i64 8, .int .i64 8] w fun e w' => e = .returned (.int .i64 (numE isDig l i : Nat)) ∧ w = w' := by
  obtain ⟨r, hr⟩ : ∃ r, r = numE isDig l i := ⟨_, rfl⟩
  rw [← hr]
  unfold numE at hr
  have hcx : i < n → ∃ x : UInt8, A = some ⟨b, off, none⟩ ∧ w.cell? ⟨b, off + i, none⟩ = some (.int .u8 x.toNat) ∧ ((x.toNat : Int) == 120) = false ∧ ((x.toNat : Int) == 88) = false := fun h => by
    refine ⟨l.getD i 0, hA (by omega), hR i (by omega), byte_ne (by decide) (fun h2 => ?_), byte_ne (by decide) (fun h2 => ?_)⟩
    · unfold atB at hx; rw [h2, decide_eq_true (by omega)] at hx; exact absurd hx (by decide)
    · unfold atB at hX; rw [h2, decide_eq_true (by omega)] at hX; exact absurd hX (by decide)
  have HCX := Lib.hid hcx
  clear hcx hx hX
  have HA := Lib.hid hA
  have HRR := Lib.hid hr
  have HN := Lib.hid hn
  have HR := Lib.hid hR
  clear hr hn hR hA
  by_cases hlt : i < n
  · obtain ⟨x, hA2, hck, b1, b2⟩ := HCX.out hlt
    subst hA2
    go_enter Try.func59, Try.ntmps59
    go_upto_block 0 with fail
    go_cut [1, 11] (fun v1 v11 wc => ∃ j : Nat, v1 = .int .i64 ((i + j : Nat) : Int) ∧ v11 = .int .i64 (j : Nat) ∧ j ≤ 8 ∧ i + j ≤ n ∧ w = wc ∧ Hid (runM isDig (l.drop i) i 8 = i + j))
    case first =>
      go_wp2_with fail
      go_loopg [1, 11] 9 (fun q v1 v11 wr => ∃ j : Nat, v1 = .int .i64 ((i + j : Nat) : Int) ∧ v11 = .int .i64 (j : Nat) ∧ q + j = 9 ∧ j ≤ 8 ∧ i + j ≤ n ∧ w = wr ∧ Hid (runM isDig (l.drop i) i 8 = runM isDig (l.drop (i + j)) (i + j) (8 - j)))
      case atStart => exact ⟨0, by go_num, rfl, rfl, by omega, by omega, rfl, rfl⟩
      case round =>
        obtain ⟨j, rfl, rfl, hq, hj, hsn, rfl, HI⟩ := hrel
        have HQ := Lib.hid hq
        clear hq
        by_cases h1 : i + j < n
        · obtain ⟨y, hy⟩ : ∃ y, y = l.getD (i + j) 0 := ⟨_, rfl⟩
          have hcy : w.cell? ⟨b, off + (i + j), none⟩ = some (.int .u8 y.toNat) := by rw [hy]; exact HR.out (i + j) (by rw [HN.out]; exact h1)
          by_cases h8 : j < 8
          · have hst := HI.out
            rw [show 8 - j = (8 - (j + 1)) + 1 by omega, runM_step isDig l (i + j) _ (by rw [HN.out]; exact h1), ← hy] at hst
            have CD := Lib.hid (fun w => dig61 y w)
            have CH := Lib.hid (fun w => hex63 y w)
            cases hp : isDig y with
            | true =>
              rw [if_pos hp] at hst
              have HI2 := Lib.hid hst
              clear hst HI hy
              rw [hp] at CD
              clear hp
              go_wp2_with (first | (go_at_call 61; refine (CD.out _).mono ?_; rintro e' w' ⟨rfl, rfl⟩) | (go_at_call 63; refine (CH.out _).mono ?_; rintro e' w' ⟨rfl, rfl⟩))
              go_roundg (gk - 1)
              case measure => have := HQ.out; omega
              case rel => exact ⟨j + 1, by go_num, by go_num, by have := HQ.out; omega, by omega, by omega, rfl, HI2⟩
            | false =>
              rw [if_neg (by rw [hp]; decide)] at hst
              have HE := Lib.hid hst
              clear hst HI hy
              rw [hp] at CD
              clear hp
              go_wp2_with (first | (go_at_call 61; refine (CD.out _).mono ?_; rintro e' w' ⟨rfl, rfl⟩) | (go_at_call 63; refine (CH.out _).mono ?_; rintro e' w' ⟨rfl, rfl⟩))
              go_meet
              case rel => exact ⟨j, rfl, rfl, hj, hsn, rfl, HE⟩
          · have hst := HI.out
            rw [show 8 - j = 0 by omega, runM_zero] at hst
            have HE := Lib.hid hst
            clear hst HI hy
            go_wp2_with fail
            go_meet
            case rel => exact ⟨j, rfl, rfl, hj, hsn, rfl, HE⟩
        · have hst := HI.out
          rw [runM_nil isDig l (i + j) (8 - j) (by rw [HN.out]; omega)] at hst
          have HE := Lib.hid hst
          clear hst HI
          go_wp2_with fail
          go_meet
          case rel => exact ⟨j, rfl, rfl, hj, hsn, rfl, HE⟩
    case rest =>
      obtain ⟨j, rfl, rfl, hj, hsn, rfl, HE⟩ := hcut
      have hf := HRR.out
      rw [HE.out] at hf
      by_cases h0 : j = 0
      · have HF : Hid (r = 0) := by show _ = _; rw [hf, if_pos (by omega)]
        subst h0
        clear hf HE HRR
        go_wp2_with fail
        go_ret
        rw [HF.out]
        exact ⟨rfl, rfl⟩
      · rw [if_neg (by omega)] at hf
        have bj : ((j : Int) == 0) = false := by rw [beq_eq_false_iff_ne]; omega
        by_cases h1 : i + j < n
        · obtain ⟨y, hy⟩ : ∃ y, y = l.getD (i + j) 0 := ⟨_, rfl⟩
          have hcy : w.cell? ⟨b, off + (i + j), none⟩ = some (.int .u8 y.toNat) := by rw [hy]; exact HR.out (i + j) (by rw [HN.out]; exact h1)
          by_cases h59 : y = 59
          · rw [semi_yes (by rw [HN.out]; exact h1) (hy.symm.trans h59)] at hf
            have b59 := nat59_eq h59
            have HF := Lib.hid hf
            clear hf HE HRR h0 hy h59
            go_wp2_with fail
            go_ret
            rw [HF.out]
            exact ⟨by go_num, rfl⟩
          · rw [semi_no (fun h => h59 (hy.trans h))] at hf
            have b59 := nat59_ne h59
            have HF := Lib.hid hf
            clear hf HE HRR h0 hy h59
            go_wp2_with fail
            go_ret
            rw [HF.out]
            exact ⟨rfl, rfl⟩
        · rw [semi_far (by rw [HN.out]; exact h1)] at hf
          have HF := Lib.hid hf
          clear hf HE HRR h0
          go_wp2_with fail
          go_ret
          rw [HF.out]
          exact ⟨rfl, rfl⟩
  · have HF : Hid (r = 0) := by show _ = _; rw [HRR.out, runM_nil isDig l i 8 (by rw [HN.out]; omega), if_pos rfl]
    clear HRR HCX
    go_enter Try.func59, Try.ntmps59
    go_wp2_with fail
    go_loopg [1, 11] 1 (fun q v1 v11 wr => v1 = .int .i64 (i : Nat) ∧ v11 = .int .i64 0 ∧ w = wr)
    case atStart => exact ⟨rfl, rfl, rfl⟩
    case round =>
      obtain ⟨rfl, rfl, rfl⟩ := hrel
      go_wp2_with fail
      go_ret
      rw [HF.out]
      exact ⟨rfl, rfl⟩
end Go.Proofs.Ytkogokjlpgnmlaa
