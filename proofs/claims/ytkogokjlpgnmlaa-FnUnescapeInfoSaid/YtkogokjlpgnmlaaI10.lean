/- FnUnescapeInfo: zzCharEntity, at plain bytes, is the same as spec.InfoEntity. -/
import Derived.Test.YtkogokjlpgnmlaaI9
set_option linter.unusedVariables false
set_option linter.unusedSimpArgs false
namespace Go.Proofs.Ytkogokjlpgnmlaa
open Go.RowKit

def charE (l : Bs) (i : Nat) : Nat :=
  if atB l i 38 = false then 0
  else if atB l (i + 1) 35 = true then (if atB l (i + 2) 120 = true ∨ atB l (i + 2) 88 = true then numE isHx l (i + 3) else numE isDig l (i + 2))
  else if (decide (i + 1 < l.length) && isLet (l.getD (i + 1) 0)) = false then 0
  else if runM isAln (l.drop (i + 2)) (i + 2) 31 = i + 2 then 0 else semiB l (runM isAln (l.drop (i + 2)) (i + 2) 31)

theorem num59 (A : Option Addr) (b off n c i : Nat) (l : Bs) (w : World) (hA : 0 < n → A = some ⟨b, off, none⟩) (hn : l.length = n) (hc : n ≤ 9223372036854775800) (hi : i ≤ n) (hR : RdO w b off l) :
    Calls Try.prog 59 #[.slice A n c, .int .i64 i, .int .i64 8, .int .i64 8] w fun e w' => e = .returned (.int .i64 ((if atB l i 120 = true ∨ atB l i 88 = true then numE isHx l (i + 1) else numE isDig l i : Nat) : Int)) ∧ w = w' := by
  cases hx : atB l i 120 with
  | true => rw [if_pos (Or.inl rfl)]; exact num_x A b off n c i l w hA hn hc hi hR hx
  | false =>
    cases hX : atB l i 88 with
    | true => rw [if_pos (Or.inr rfl)]; exact num_X A b off n c i l w hA hn hc hi hR hX
    | false => rw [if_neg (by decide)]; exact num_d A b off n c i l w hA hn hc hi hR hx hX

theorem atB_false_of {l : Bs} {i : Nat} {k : UInt8} (h : ¬ i < l.length) : atB l i k = false := by
  unfold atB; rw [decide_eq_false h]; rfl
theorem atB_iff {l : Bs} {i : Nat} {k : UInt8} (h : i < l.length) : atB l i k = (l.getD i 0 == k) := by
  unfold atB; rw [decide_eq_true h, Bool.true_and]
theorem bne_of_eq {y k : UInt8} (h : (y == k) = true) : ((y.toNat : Int) != (k.toNat : Int)) = false := by
  rw [beq_iff_eq] at h; rw [h]; simp
theorem bne_of_ne {y k : UInt8} (h : (y == k) = false) : ((y.toNat : Int) != (k.toNat : Int)) = true := by
  rw [bne_iff_ne]
  intro e
  rw [beq_eq_false_iff_ne] at h
  exact h (UInt8.toNat_inj.mp (by omega))
theorem beq_of_eq {y k : UInt8} (h : (y == k) = true) : ((y.toNat : Int) == (k.toNat : Int)) = true := by
  rw [beq_iff_eq] at h; rw [h]; simp
theorem beq_of_ne {y k : UInt8} (h : (y == k) = false) : ((y.toNat : Int) == (k.toNat : Int)) = false := by
  rw [beq_eq_false_iff_ne] at h ⊢
  intro e
  exact h (UInt8.toNat_inj.mp (by omega))

set_option maxRecDepth 100000 in
set_option maxHeartbeats 6000000 in
theorem char_far (A : Option Addr) (b off n c i : Nat) (l : Bs) (w : World) (hA : 0 < n → A = some ⟨b, off, none⟩) (hn : l.length = n) (hc : n ≤ 9223372036854775800) (hi : i < n) (hR : RdO w b off l) (h1 : ¬ i + 1 < n) :
    Calls Try.prog 53 #[.slice A n c, .int .i64 i] w fun e w' => e = .returned (.int .i64 (charE l i : Nat)) ∧ w = w' := by
  have h0 : charE l i = 0 := by
    unfold charE
    split
    · rfl
    · rw [if_neg (by rw [atB_false_of (by omega)]; decide), if_pos (by rw [decide_eq_false (by omega)]; rfl)]
  rw [h0]
  clear h0 hn hR hA
  go_enter Try.func53, Try.ntmps53
  go_wp2
  go_ret
  exact ⟨rfl, rfl⟩

set_option maxRecDepth 100000 in
set_option maxHeartbeats 6000000 in
theorem char_no (A : Option Addr) (b off n c i : Nat) (l : Bs) (w : World) (hA : 0 < n → A = some ⟨b, off, none⟩) (hn : l.length = n) (hc : n ≤ 9223372036854775800) (hi : i < n) (hR : RdO w b off l) (h1 : i + 1 < n) (h38 : atB l i 38 = false) :
    Calls Try.prog 53 #[.slice A n c, .int .i64 i] w fun e w' => e = .returned (.int .i64 (charE l i : Nat)) ∧ w = w' := by
  have h0 : charE l i = 0 := by
    unfold charE
    rw [if_pos h38]
  rw [h0]
  obtain rfl := hA (by omega)
  have hck := hR i (by omega)
  obtain ⟨y, hy⟩ : ∃ y, y = l.getD i 0 := ⟨_, rfl⟩
  rw [atB_iff (by omega), ← hy] at h38
  rw [← hy] at hck
  have b38 : ((y.toNat : Int) != 38) = true := bne_of_ne h38
  clear h0 hn hR hA hy h38
  go_enter Try.func53, Try.ntmps53
  go_wp2
  go_ret
  exact ⟨rfl, rfl⟩

set_option maxRecDepth 100000 in
set_option maxHeartbeats 6000000 in
theorem char_num (A : Option Addr) (b off n c i : Nat) (l : Bs) (w : World) (hA : 0 < n → A = some ⟨b, off, none⟩) (hn : l.length = n) (hc : n ≤ 9223372036854775800) (hi : i < n) (hR : RdO w b off l) (h1 : i + 1 < n) (h38 : atB l i 38 = true)
    (h35 : atB l (i + 1) 35 = true) :
    Calls Try.prog 53 #[.slice A n c, .int .i64 i] w fun e w' => e = .returned (.int .i64 (charE l i : Nat)) ∧ w = w' := by
  obtain ⟨r, hr⟩ : ∃ r, r = charE l i := ⟨_, rfl⟩
  have h0 := hr
  rw [← hr]
  unfold charE at h0
  rw [if_neg (by rw [h38]; decide), if_pos h35] at h0
  have cn := num59 A b off n c (i + 2) l w hA hn hc (by omega) hR
  rw [show i + 2 + 1 = i + 3 by omega, ← h0, show ((i + 2 : Nat) : Int) = (i : Int) + 2 by omega] at cn
  have CN := Lib.hid cn
  obtain rfl := hA (by omega)
  have hck := hR i (by omega)
  have hck1 := hR (i + 1) (by omega)
  obtain ⟨y, hy⟩ : ∃ y, y = l.getD i 0 := ⟨_, rfl⟩
  obtain ⟨z, hz⟩ : ∃ z, z = l.getD (i + 1) 0 := ⟨_, rfl⟩
  rw [atB_iff (by omega), ← hy] at h38
  rw [atB_iff (by omega), ← hz] at h35
  rw [← hy] at hck
  rw [← hz] at hck1
  have b38 : ((y.toNat : Int) != 38) = false := bne_of_eq h38
  have b35 : ((z.toNat : Int) == 35) = true := beq_of_eq h35
  clear cn h0 hn hR hA hy hz h38 h35 hr
  go_enter Try.func53, Try.ntmps53
  go_wp2_with (go_at_call 59; refine CN.out.mono ?_; rintro e' w' ⟨rfl, rfl⟩)
  go_ret
  exact ⟨rfl, rfl⟩

set_option maxRecDepth 100000 in
set_option maxHeartbeats 6000000 in
theorem char_nolet (A : Option Addr) (b off n c i : Nat) (l : Bs) (w : World) (hA : 0 < n → A = some ⟨b, off, none⟩) (hn : l.length = n) (hc : n ≤ 9223372036854775800) (hi : i < n) (hR : RdO w b off l) (hp : PlainL l) (h1 : i + 1 < n) (h38 : atB l i 38 = true)
    (h35 : atB l (i + 1) 35 = false) (hl : isLet (l.getD (i + 1) 0) = false) :
    Calls Try.prog 53 #[.slice A n c, .int .i64 i] w fun e w' => e = .returned (.int .i64 (charE l i : Nat)) ∧ w = w' := by
  have h0 : charE l i = 0 := by
    unfold charE
    rw [if_neg (by rw [h38]; decide), if_neg (by rw [h35]; decide), if_pos (by rw [hl, Bool.and_false])]
  rw [h0]
  have cl := let60 A b off n c (i + 1) l w hA hn hc (by omega) hR hp
  have e0 : letB l (i + 1) = 0 := by unfold letB; rw [hl, Bool.and_false]; rfl
  rw [e0, show ((i + 1 : Nat) : Int) = (i : Int) + 1 by omega] at cl
  have CL : Hid (Calls Try.prog 60 #[.slice A n c, .int .i64 ((i : Int) + 1)] w fun e w' => e = .returned (.int .i64 0) ∧ w = w') := cl
  obtain rfl := hA (by omega)
  have hck := hR i (by omega)
  have hck1 := hR (i + 1) (by omega)
  obtain ⟨y, hy⟩ : ∃ y, y = l.getD i 0 := ⟨_, rfl⟩
  obtain ⟨z, hz⟩ : ∃ z, z = l.getD (i + 1) 0 := ⟨_, rfl⟩
  rw [atB_iff (by omega), ← hy] at h38
  rw [atB_iff (by omega), ← hz] at h35
  rw [← hy] at hck
  rw [← hz] at hck1
  have b38 : ((y.toNat : Int) != 38) = false := bne_of_eq h38
  have b35 : ((z.toNat : Int) == 35) = false := beq_of_ne h35
  clear cl h0 hn hR hA hy hz h38 h35 hl hp e0
  go_enter Try.func53, Try.ntmps53
  go_wp2_with (go_at_call 60; refine CL.out.mono ?_; rintro e' w' ⟨rfl, rfl⟩)
  go_ret
  exact ⟨rfl, rfl⟩

theorem aln_let {c : UInt8} (h : isLet c = true) : isAln c = true := by unfold isAln; rw [h]; simp
theorem aln_dig {c : UInt8} (h : isDig c = true) : isAln c = true := by unfold isAln; unfold isDig at h; rw [h]; simp
theorem aln_not {c : UInt8} (h1 : isLet c = false) (h2 : isDig c = false) : isAln c = false := by unfold isAln; unfold isDig at h2; rw [h1, h2]; rfl

set_option maxRecDepth 100000 in
set_option maxHeartbeats 6000000 in
theorem char_name (A : Option Addr) (b off n c i : Nat) (l : Bs) (w : World) (hA : 0 < n → A = some ⟨b, off, none⟩) (hn : l.length = n) (hc : n ≤ 9223372036854775800) (hi : i < n) (hR : RdO w b off l) (hp : PlainL l) (h1 : i + 1 < n) (h38 : atB l i 38 = true)
    (h35 : atB l (i + 1) 35 = false) (hl : isLet (l.getD (i + 1) 0) = true) :
    Calls Try.prog 53 #[.slice A n c, .int .i64 i] w fun e w' => e = .returned (.int .i64 (charE l i : Nat)) ∧ w = w' := by
  obtain ⟨r, hr⟩ : ∃ r, r = charE l i := ⟨_, rfl⟩
  have h0 := hr
  rw [← hr]
  unfold charE at h0
  rw [if_neg (by rw [h38]; decide), if_neg (by rw [h35]; decide), if_neg (by rw [hl, decide_eq_true (by omega)]; decide)] at h0
  have HRR := Lib.hid h0
  have cl := let60 A b off n c (i + 1) l w hA hn hc (by omega) hR hp
  have e0 : letB l (i + 1) = 1 := by unfold letB; rw [hl, decide_eq_true (by omega)]; rfl
  rw [e0, show ((i + 1 : Nat) : Int) = (i : Int) + 1 by omega] at cl
  have CL : Hid (Calls Try.prog 60 #[.slice A n c, .int .i64 ((i : Int) + 1)] w fun e w' => e = .returned (.int .i64 1) ∧ w = w') := cl
  obtain rfl := hA (by omega)
  have hck := hR i (by omega)
  have hck1 := hR (i + 1) (by omega)
  obtain ⟨y, hy⟩ : ∃ y, y = l.getD i 0 := ⟨_, rfl⟩
  obtain ⟨z, hz⟩ : ∃ z, z = l.getD (i + 1) 0 := ⟨_, rfl⟩
  rw [atB_iff (by omega), ← hy] at h38
  rw [atB_iff (by omega), ← hz] at h35
  rw [← hy] at hck
  rw [← hz] at hck1
  have b38 : ((y.toNat : Int) != 38) = false := bne_of_eq h38
  have b35 : ((z.toNat : Int) == 35) = false := beq_of_ne h35
  have HN := Lib.hid hn
  have HR := Lib.hid hR
  have HP := Lib.hid hp
  clear cl h0 hy hz h38 h35 hl e0 hr hn hR hp hA
  go_enter Try.func53, Try.ntmps53
  go_upto_block 0 with (go_at_call 60; refine CL.out.mono ?_; rintro e' w' ⟨rfl, rfl⟩)
  go_cut [1, 6] (fun v1 v6 wc => ∃ j : Nat, v1 = .int .i64 ((i + 2 + j : Nat) : Int) ∧ v6 = .int .i64 (j : Nat) ∧ j ≤ 31 ∧ i + 2 + j ≤ n ∧ w = wc ∧ Hid (runM isAln (l.drop (i + 2)) (i + 2) 31 = i + 2 + j))
  case first =>
    go_wp2_with fail
    go_loopg [1, 6] 32 (fun q v1 v6 wr => ∃ j : Nat, v1 = .int .i64 ((i + 2 + j : Nat) : Int) ∧ v6 = .int .i64 (j : Nat) ∧ q + j = 32 ∧ j ≤ 31 ∧ i + 2 + j ≤ n ∧ w = wr ∧ Hid (runM isAln (l.drop (i + 2)) (i + 2) 31 = runM isAln (l.drop (i + 2 + j)) (i + 2 + j) (31 - j)))
    case atStart => exact ⟨0, by go_num, rfl, rfl, by omega, by omega, rfl, rfl⟩
    case round =>
      obtain ⟨j, rfl, rfl, hq, hj, hsn, rfl, HI⟩ := hrel
      have HQ := Lib.hid hq
      clear hq
      by_cases h2 : i + 2 + j < n
      · obtain ⟨x, hx⟩ : ∃ x, x = l.getD (i + 2 + j) 0 := ⟨_, rfl⟩
        have hcx : w.cell? ⟨b, off + (i + 2 + j), none⟩ = some (.int .u8 x.toNat) := by rw [hx]; exact HR.out (i + 2 + j) (by rw [HN.out]; exact h2)
        by_cases h8 : j < 31
        · have hst := HI.out
          rw [show 31 - j = (31 - (j + 1)) + 1 by omega, runM_step isAln l (i + 2 + j) _ (by rw [HN.out]; exact h2), ← hx] at hst
          have CD := Lib.hid (fun w => dig61 x w)
          have ck := let60 (some ⟨b, off, none⟩) b off n c (i + 2 + j) l w (fun _ => rfl) HN.out hc (by omega) HR.out HP.out
          cases hl2 : isLet x with
          | true =>
            have e1 : letB l (i + 2 + j) = 1 := by unfold letB; rw [← hx, hl2, decide_eq_true (by rw [HN.out]; exact h2)]; rfl
            rw [e1] at ck
            have CK : Hid (Calls Try.prog 60 #[.slice (some ⟨b, off, none⟩) n c, .int .i64 ((i + 2 + j : Nat) : Int)] w fun e w' => e = .returned (.int .i64 1) ∧ w = w') := ck
            rw [if_pos (aln_let hl2)] at hst
            have HI2 := Lib.hid hst
            clear hst HI hx hl2 e1 ck
            go_wp2_with (first | (go_at_call 60; refine CK.out.mono ?_; rintro e' w' ⟨rfl, rfl⟩) | (go_at_call 61; refine (CD.out _).mono ?_; rintro e' w' ⟨rfl, rfl⟩))
            go_roundg (gk - 1)
            case measure => have := HQ.out; omega
            case rel => exact ⟨j + 1, by go_num, by go_num, by have := HQ.out; omega, by omega, by omega, rfl, HI2⟩
          | false =>
            have e1 : letB l (i + 2 + j) = 0 := by unfold letB; rw [← hx, hl2, Bool.and_false]; rfl
            rw [e1] at ck
            have CK : Hid (Calls Try.prog 60 #[.slice (some ⟨b, off, none⟩) n c, .int .i64 ((i + 2 + j : Nat) : Int)] w fun e w' => e = .returned (.int .i64 0) ∧ w = w') := ck
            cases hd : isDig x with
            | true =>
              rw [hd] at CD
              rw [if_pos (aln_dig hd)] at hst
              have HI2 := Lib.hid hst
              clear hst HI hx hl2 e1 ck hd
              go_wp2_with (first | (go_at_call 60; refine CK.out.mono ?_; rintro e' w' ⟨rfl, rfl⟩) | (go_at_call 61; refine (CD.out _).mono ?_; rintro e' w' ⟨rfl, rfl⟩))
              go_roundg (gk - 1)
              case measure => have := HQ.out; omega
              case rel => exact ⟨j + 1, by go_num, by go_num, by have := HQ.out; omega, by omega, by omega, rfl, HI2⟩
            | false =>
              rw [hd] at CD
              rw [if_neg (by rw [aln_not hl2 hd]; decide)] at hst
              have HE := Lib.hid hst
              clear hst HI hx hl2 e1 ck hd
              go_wp2_with (first | (go_at_call 60; refine CK.out.mono ?_; rintro e' w' ⟨rfl, rfl⟩) | (go_at_call 61; refine (CD.out _).mono ?_; rintro e' w' ⟨rfl, rfl⟩))
              go_meet
              case rel => exact ⟨j, rfl, rfl, hj, hsn, rfl, HE⟩
        · have hst := HI.out
          rw [show 31 - j = 0 by omega, runM_zero] at hst
          have HE := Lib.hid hst
          clear hst HI hx
          go_wp2_with fail
          go_meet
          case rel => exact ⟨j, rfl, rfl, hj, hsn, rfl, HE⟩
      · have hst := HI.out
        rw [runM_nil isAln l (i + 2 + j) (31 - j) (by rw [HN.out]; omega)] at hst
        have HE := Lib.hid hst
        clear hst HI
        go_wp2_with fail
        all_goals
          go_meet
          case rel => exact ⟨j, rfl, rfl, hj, hsn, rfl, HE⟩
  case rest =>
    obtain ⟨j, rfl, rfl, hj, hsn, rfl, HE⟩ := hcut
    have hf := HRR.out
    rw [HE.out] at hf
    by_cases h0 : j = 0
    · have HF : Hid (r = 0) := by show _ = _; rw [hf, if_pos (by omega)]
      subst h0
      clear hf HE HRR
      go_wp2_with fail
      go_ret
      rw [HF.out]
      exact ⟨rfl, rfl⟩
    · rw [if_neg (by omega)] at hf
      have bj : ((j : Int) == 0) = false := by rw [beq_eq_false_iff_ne]; omega
      by_cases h2 : i + 2 + j < n
      · obtain ⟨x, hx⟩ : ∃ x, x = l.getD (i + 2 + j) 0 := ⟨_, rfl⟩
        have hcx : w.cell? ⟨b, off + (i + 2 + j), none⟩ = some (.int .u8 x.toNat) := by rw [hx]; exact HR.out (i + 2 + j) (by rw [HN.out]; exact h2)
        by_cases h59 : x = 59
        · rw [semi_yes (by rw [HN.out]; exact h2) (hx.symm.trans h59)] at hf
          have b59 := nat59_eq h59
          have HF := Lib.hid hf
          clear hf HE HRR h0 hx h59
          go_wp2_with fail
          go_ret
          rw [HF.out]
          exact ⟨by go_num, rfl⟩
        · rw [semi_no (fun h => h59 (hx.trans h))] at hf
          have b59 := nat59_ne h59
          have HF := Lib.hid hf
          clear hf HE HRR h0 hx h59
          go_wp2_with fail
          go_ret
          rw [HF.out]
          exact ⟨rfl, rfl⟩
      · rw [semi_far (by rw [HN.out]; exact h2)] at hf
        have HF := Lib.hid hf
        clear hf HE HRR h0
        go_wp2_with fail
        go_ret
        rw [HF.out]
        exact ⟨rfl, rfl⟩

theorem char_any (A : Option Addr) (b off n c i : Nat) (l : Bs) (w : World) (hA : 0 < n → A = some ⟨b, off, none⟩) (hn : l.length = n) (hc : n ≤ 9223372036854775800) (hi : i < n) (hR : RdO w b off l) (hp : PlainL l) :
    Calls Try.prog 53 #[.slice A n c, .int .i64 i] w fun e w' => e = .returned (.int .i64 (charE l i : Nat)) ∧ w = w' := by
  by_cases h1 : i + 1 < n
  · cases h38 : atB l i 38 with
    | false => exact char_no A b off n c i l w hA hn hc hi hR h1 h38
    | true =>
      cases h35 : atB l (i + 1) 35 with
      | true => exact char_num A b off n c i l w hA hn hc hi hR h1 h38 h35
      | false =>
        cases hl : isLet (l.getD (i + 1) 0) with
        | false => exact char_nolet A b off n c i l w hA hn hc hi hR hp h1 h38 h35 hl
        | true => exact char_name A b off n c i l w hA hn hc hi hR hp h1 h38 h35 hl
  · exact char_far A b off n c i l w hA hn hc hi hR h1

/-! ### charE is infoE -/
theorem not59_dig {c : UInt8} (h : isDig c = true) : c ≠ 59 := by rintro rfl; exact absurd h (by decide)
theorem not59_hx {c : UInt8} (h : isHx c = true) : c ≠ 59 := by rintro rfl; exact absurd h (by decide)
theorem not59_aln {c : UInt8} (h : isAln c = true) : c ≠ 59 := by rintro rfl; exact absurd h (by decide)
theorem getD_drop (l : Bs) (s m : Nat) : (l.drop s).getD m 0 = l.getD (s + m) 0 := by
  rw [List.getD_eq_getElem?_getD, List.getElem?_drop, List.getD_eq_getElem?_getD]
/-- A run of at most m, and a semicolon behind it, against the whole run. -/
theorem runs_same (p : UInt8 → Bool) (hp : ∀ c, p c = true → c ≠ 59) (l : Bs) (s m : Nat) (hm : 0 < m) :
    (if runM p (l.drop s) s m = s then 0 else semiB l (runM p (l.drop s) s m)) = if runB p (l.drop s) s - s < 1 ∨ m < runB p (l.drop s) s - s then 0 else semiB l (runB p (l.drop s) s) := by
  have hge := (runB_ge p (l.drop s) s).1
  by_cases h : runB p (l.drop s) s ≤ s + m
  · rw [runM_same p _ s m h]
    by_cases h2 : runB p (l.drop s) s = s
    · rw [if_pos h2, if_pos (by omega)]
    · rw [if_neg h2, if_neg (by omega)]
  · obtain ⟨q1, q2, q3⟩ := runM_long p (l.drop s) s m (by omega)
    rw [q1, if_neg (by omega), if_pos (by omega)]
    rw [getD_drop] at q2
    exact semi_no (hp _ q2)
theorem charE_info (l : Bs) (i : Nat) : charE l i = infoE l i := by
  unfold charE infoE
  cases h38 : atB l i 38 with
  | false => simp only [↓reduceIte]
  | true =>
    simp only [Bool.true_eq_false, ↓reduceIte]
    cases h35 : atB l (i + 1) 35 with
    | true =>
      simp only [Bool.true_eq_false, ↓reduceIte]
      by_cases hx : atB l (i + 2) 120 = true ∨ atB l (i + 2) 88 = true
      · rw [if_pos hx, if_pos hx]
        unfold numE
        exact runs_same isHx (fun _ => not59_hx) l (i + 3) 8 (by omega)
      · rw [if_neg hx, if_neg hx]
        unfold numE
        exact runs_same isDig (fun _ => not59_dig) l (i + 2) 8 (by omega)
    | false =>
      simp only [Bool.false_eq_true, ↓reduceIte]
      by_cases h1 : i + 1 < l.length
      · rw [decide_eq_true h1, Bool.true_and]
        cases hl : isLet (l.getD (i + 1) 0) with
        | false => simp only [or_true, ↓reduceIte]
        | true =>
          simp only [Bool.true_eq_false, or_false, ↓reduceIte]
          have hst := runB_step isAln l (i + 1) h1
          rw [if_pos (aln_let hl), show i + 1 + 1 = i + 2 by omega] at hst
          rw [hst, runs_same isAln (fun _ => not59_aln) l (i + 2) 31 (by omega)]
          have hge := (runB_ge isAln (l.drop (i + 2)) (i + 2)).1
          by_cases h2 : runB isAln (l.drop (i + 2)) (i + 2) - (i + 2) < 1 ∨ 31 < runB isAln (l.drop (i + 2)) (i + 2) - (i + 2)
          · rw [if_pos h2, if_pos (by rcases h2 with h2 | h2 <;> omega)]
          · rw [if_neg h2, if_neg (by omega)]
      · rw [decide_eq_false h1, Bool.false_and, if_pos rfl]
        rw [runB_end isAln l (i + 1) (by omega), if_pos (by omega)]
end Go.Proofs.Ytkogokjlpgnmlaa
