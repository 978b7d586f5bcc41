/- FnUnescapeInfo: spec.InfoEntity. -/
import Derived.Test.YtkogokjlpgnmlaaI4
set_option linter.unusedVariables false
set_option linter.unusedSimpArgs false
namespace Go.Proofs.Ytkogokjlpgnmlaa
open Go.RowKit

theorem runB_ge (p : UInt8 → Bool) : ∀ (l : Bs) (i : Nat), i ≤ runB p l i ∧ runB p l i ≤ i + l.length
  | [], i => by simp [runB]
  | c :: r, i => by
    have := runB_ge p r (i + 1)
    rw [runB]
    split
    · simp; omega
    · simp
theorem runB_le (p : UInt8 → Bool) (l : Bs) (i : Nat) (h : i ≤ l.length) : i ≤ runB p (l.drop i) i ∧ runB p (l.drop i) i ≤ l.length := by
  have := runB_ge p (l.drop i) i
  rw [List.length_drop] at this
  omega

/-- Behind a run of m bytes that ends at e: a semicolon. -/
def semiB (l : Bs) (e : Nat) : Nat := if atB l e 59 = true then e + 1 else 0
/-- The end of an entity at i; 0: none. -/
def infoE (l : Bs) (i : Nat) : Nat :=
  if atB l i 38 = false then 0
  else if atB l (i + 1) 35 = false then
    if runB isAln (l.drop (i + 1)) (i + 1) - (i + 1) < 2 ∨ 32 < runB isAln (l.drop (i + 1)) (i + 1) - (i + 1) ∨ isLet (l.getD (i + 1) 0) = false then 0 else semiB l (runB isAln (l.drop (i + 1)) (i + 1))
  else if atB l (i + 2) 120 = true ∨ atB l (i + 2) 88 = true then
    if runB isHx (l.drop (i + 3)) (i + 3) - (i + 3) < 1 ∨ 8 < runB isHx (l.drop (i + 3)) (i + 3) - (i + 3) then 0 else semiB l (runB isHx (l.drop (i + 3)) (i + 3))
  else if runB isDig (l.drop (i + 2)) (i + 2) - (i + 2) < 1 ∨ 8 < runB isDig (l.drop (i + 2)) (i + 2) - (i + 2) then 0 else semiB l (runB isDig (l.drop (i + 2)) (i + 2))
theorem atB_lt {l : Bs} {i : Nat} {k : UInt8} (h : atB l i k = true) : i < l.length := by
  unfold atB at h
  simp at h
  exact h.1

set_option maxRecDepth 100000 in
set_option maxHeartbeats 4000000 in
theorem info_none (A : Option Addr) (b off n c i : Nat) (l : Bs) (w : World) (hA : 0 < n → A = some ⟨b, off, none⟩) (hn : l.length = n) (hc : n ≤ 9223372036854775800) (hi : i ≤ n) (hR : RdO w b off l)
    (h38 : atB l i 38 = false) :
    Calls Try.prog 18 #[.slice A n c, .int .i64 i] w fun e w' => e = .returned (.int .i64 (infoE l i : Nat)) ∧ w = w' := by
  have hin : infoE l i = 0 := by
    unfold infoE
    rw [if_pos h38]
  have c38 := inAt_any A b off n c i 38 l w hA hn (by omega) hR
  rw [h38] at c38
  have C38 : Hid (Calls Try.prog 30 #[.slice A n c, .int .i64 (i : Int), .int .u8 38] w fun e w' => e = .returned (.bool false) ∧ w = w') := c38
  clear c38
  obtain ⟨r, hr⟩ : ∃ r, r = infoE l i := ⟨_, rfl⟩
  rw [← hr] at hin ⊢
  have HIN := Lib.hid hin
  clear hin hr hA hR hn h38
  have tok38 : True := trivial
  have H : Hid (r = 0) := HIN.out
  clear HIN
  go_enter Try.func18, Try.ntmps18
  go_wp2_with (first
    | (clear tok38; go_at_call 30; refine C38.out.mono ?_; rintro e' w' ⟨rfl, rfl⟩))
  go_ret
  rw [H.out]
  exact ⟨rfl, rfl⟩
set_option maxRecDepth 100000 in
set_option maxHeartbeats 4000000 in
theorem info_name (A : Option Addr) (b off n c i : Nat) (l : Bs) (w : World) (hA : 0 < n → A = some ⟨b, off, none⟩) (hn : l.length = n) (hc : n ≤ 9223372036854775800) (hi : i ≤ n) (hR : RdO w b off l)
    (h38 : atB l i 38 = true) (h35 : atB l (i + 1) 35 = false) :
    Calls Try.prog 18 #[.slice A n c, .int .i64 i] w fun e w' => e = .returned (.int .i64 (infoE l i : Nat)) ∧ w = w' := by
  have hlt0 := atB_lt h38
  obtain ⟨e, he⟩ : ∃ e, e = runB isAln (l.drop (i + 1)) (i + 1) := ⟨_, rfl⟩
  have hle := runB_le isAln l (i + 1) (by omega)
  rw [← he] at hle
  have hin : infoE l i = if e - (i + 1) < 2 ∨ 32 < e - (i + 1) ∨ isLet (l.getD (i + 1) 0) = false then 0 else semiB l e := by
    unfold infoE
    rw [if_neg (by rw [h38]; decide), if_pos h35, ← he]
  have c38 := inAt_any A b off n c i 38 l w hA hn (by omega) hR
  rw [h38] at c38
  have C38 : Hid (Calls Try.prog 30 #[.slice A n c, .int .i64 (i : Int), .int .u8 38] w fun e w' => e = .returned (.bool true) ∧ w = w') := c38
  clear c38
  have c35 := inAt_any A b off n c (i + 1) 35 l w hA hn (by omega) hR
  rw [h35, show ((i + 1 : Nat) : Int) = (i : Int) + 1 by omega] at c35
  have C35 : Hid (Calls Try.prog 30 #[.slice A n c, .int .i64 ((i : Int) + 1), .int .u8 35] w fun e w' => e = .returned (.bool false) ∧ w = w') := c35
  clear c35
  have cs := inAt_any A b off n c e 59 l w hA hn (by omega) hR
  have CS : Hid (Calls Try.prog 30 #[.slice A n c, .int .i64 e, .int .u8 59] w fun e' w' => e' = .returned (.bool (atB l e 59)) ∧ w = w') := cs
  clear cs
  have cr := inRun29 A b off n c (i + 1) l w hA hn (by omega) (by omega) hR
  rw [← he, show ((i + 1 : Nat) : Int) = (i : Int) + 1 by omega] at cr
  have CR := Lib.hid cr
  clear cr
  rw [hn] at hlt0 hle
  obtain ⟨r, hr⟩ : ∃ r, r = infoE l i := ⟨_, rfl⟩
  rw [← hr] at hin ⊢
  unfold semiB at hin
  obtain ⟨s, hs⟩ : ∃ s, s = atB l e 59 := ⟨_, rfl⟩
  rw [← hs] at hin CS
  obtain ⟨x, hx⟩ : ∃ x, x = l.getD (i + 1) 0 := ⟨_, rfl⟩
  rw [← hx] at hin
  have CL := Lib.hid (fun w => let32 x w)
  obtain ⟨lt, hlt⟩ : ∃ lt, lt = isLet x := ⟨_, rfl⟩
  rw [← hlt] at hin CL
  have hck : i + 1 < n → A = some ⟨b, off, none⟩ ∧ w.cell? ⟨b, off + (i + 1), none⟩ = some (.int .u8 x.toNat) := fun h => ⟨hA (by omega), by rw [hx]; exact hR (i + 1) (by omega)⟩
  have HCK := Lib.hid hck
  clear hck hx hlt
  have HIN := Lib.hid hin
  clear hin hr hA hR hn h38 h35 he hs
  obtain ⟨hle1, hle2⟩ := hle
  have tok38 : True := trivial
  have tok35 : True := trivial
  by_cases hb1 : e - (i + 1) < 2
  · have H : Hid (r = 0) := by show _ = _; rw [HIN.out, if_pos (Or.inl hb1)]
    clear HIN
    go_enter Try.func18, Try.ntmps18
    go_wp2_with (first
      | (clear tok38; go_at_call 30; refine C38.out.mono ?_; rintro e' w' ⟨rfl, rfl⟩)
      | (clear tok35; go_at_call 30; refine C35.out.mono ?_; rintro e' w' ⟨rfl, rfl⟩)
      | (go_at_call 31; refine CR.out.mono ?_; rintro e' w' ⟨rfl, rfl⟩)
      | (go_at_call 32; refine (CL.out _).mono ?_; rintro e' w' ⟨rfl, rfl⟩)
      | (go_at_call 30; refine CS.out.mono ?_; rintro e' w' ⟨rfl, rfl⟩))
    go_ret
    rw [H.out]
    exact ⟨rfl, rfl⟩
  by_cases hb2 : 32 < e - (i + 1)
  · have H : Hid (r = 0) := by show _ = _; rw [HIN.out, if_pos (Or.inr (Or.inl hb2))]
    clear HIN
    go_enter Try.func18, Try.ntmps18
    go_wp2_with (first
      | (clear tok38; go_at_call 30; refine C38.out.mono ?_; rintro e' w' ⟨rfl, rfl⟩)
      | (clear tok35; go_at_call 30; refine C35.out.mono ?_; rintro e' w' ⟨rfl, rfl⟩)
      | (go_at_call 31; refine CR.out.mono ?_; rintro e' w' ⟨rfl, rfl⟩)
      | (go_at_call 32; refine (CL.out _).mono ?_; rintro e' w' ⟨rfl, rfl⟩)
      | (go_at_call 30; refine CS.out.mono ?_; rintro e' w' ⟨rfl, rfl⟩))
    go_ret
    rw [H.out]
    exact ⟨rfl, rfl⟩
  obtain ⟨rfl, hck⟩ := HCK.out (by omega)
  cases lt with
  | false =>
    have H : Hid (r = 0) := by show _ = _; rw [HIN.out, if_pos (Or.inr (Or.inr rfl))]
    clear HIN
    go_enter Try.func18, Try.ntmps18
    go_wp2_with (first
      | (clear tok38; go_at_call 30; refine C38.out.mono ?_; rintro e' w' ⟨rfl, rfl⟩)
      | (clear tok35; go_at_call 30; refine C35.out.mono ?_; rintro e' w' ⟨rfl, rfl⟩)
      | (go_at_call 31; refine CR.out.mono ?_; rintro e' w' ⟨rfl, rfl⟩)
      | (go_at_call 32; refine (CL.out _).mono ?_; rintro e' w' ⟨rfl, rfl⟩)
      | (go_at_call 30; refine CS.out.mono ?_; rintro e' w' ⟨rfl, rfl⟩))
    go_ret
    rw [H.out]
    exact ⟨rfl, rfl⟩
  | true =>
    cases s with
    | true =>
      have H : Hid (r = e + 1) := by show _ = _; rw [HIN.out, if_neg (by rintro (h | h | h); exact hb1 h; exact hb2 h; cases h), if_pos rfl]
      clear HIN
      go_enter Try.func18, Try.ntmps18
      go_wp2_with (first
        | (clear tok38; go_at_call 30; refine C38.out.mono ?_; rintro e' w' ⟨rfl, rfl⟩)
        | (clear tok35; go_at_call 30; refine C35.out.mono ?_; rintro e' w' ⟨rfl, rfl⟩)
        | (go_at_call 31; refine CR.out.mono ?_; rintro e' w' ⟨rfl, rfl⟩)
        | (go_at_call 32; refine (CL.out _).mono ?_; rintro e' w' ⟨rfl, rfl⟩)
        | (go_at_call 30; refine CS.out.mono ?_; rintro e' w' ⟨rfl, rfl⟩))
      go_ret
      rw [H.out]
      exact ⟨by go_num, rfl⟩
    | false =>
      have H : Hid (r = 0) := by show _ = _; rw [HIN.out, if_neg (by rintro (h | h | h); exact hb1 h; exact hb2 h; cases h), if_neg (by decide)]
      clear HIN
      go_enter Try.func18, Try.ntmps18
      go_wp2_with (first
        | (clear tok38; go_at_call 30; refine C38.out.mono ?_; rintro e' w' ⟨rfl, rfl⟩)
        | (clear tok35; go_at_call 30; refine C35.out.mono ?_; rintro e' w' ⟨rfl, rfl⟩)
        | (go_at_call 31; refine CR.out.mono ?_; rintro e' w' ⟨rfl, rfl⟩)
        | (go_at_call 32; refine (CL.out _).mono ?_; rintro e' w' ⟨rfl, rfl⟩)
        | (go_at_call 30; refine CS.out.mono ?_; rintro e' w' ⟨rfl, rfl⟩))
      go_ret
      rw [H.out]
      exact ⟨rfl, rfl⟩
set_option maxRecDepth 100000 in
set_option maxHeartbeats 4000000 in
theorem info_hex (A : Option Addr) (b off n c i : Nat) (l : Bs) (w : World) (hA : 0 < n → A = some ⟨b, off, none⟩) (hn : l.length = n) (hc : n ≤ 9223372036854775800) (hi : i ≤ n) (hR : RdO w b off l)
    (h38 : atB l i 38 = true) (h35 : atB l (i + 1) 35 = true) (hx : atB l (i + 2) 120 = true) :
    Calls Try.prog 18 #[.slice A n c, .int .i64 i] w fun e w' => e = .returned (.int .i64 (infoE l i : Nat)) ∧ w = w' := by
  have hlt0 := atB_lt h38
  have hlt1 := atB_lt h35
  have hlt2 := atB_lt hx
  obtain ⟨e, he⟩ : ∃ e, e = runB isHx (l.drop (i + 3)) (i + 3) := ⟨_, rfl⟩
  have hle := runB_le isHx l (i + 3) (by omega)
  rw [← he] at hle
  have hin : infoE l i = if e - (i + 3) < 1 ∨ 8 < e - (i + 3) then 0 else semiB l e := by
    unfold infoE
    rw [if_neg (by rw [h38]; decide), if_neg (by rw [h35]; decide), if_pos (Or.inl hx), ← he]
  have c38 := inAt_any A b off n c i 38 l w hA hn (by omega) hR
  rw [h38] at c38
  have C38 : Hid (Calls Try.prog 30 #[.slice A n c, .int .i64 (i : Int), .int .u8 38] w fun e w' => e = .returned (.bool true) ∧ w = w') := c38
  clear c38
  have c35 := inAt_any A b off n c (i + 1) 35 l w hA hn (by omega) hR
  rw [h35, show ((i + 1 : Nat) : Int) = (i : Int) + 1 by omega] at c35
  have C35 : Hid (Calls Try.prog 30 #[.slice A n c, .int .i64 ((i : Int) + 1), .int .u8 35] w fun e w' => e = .returned (.bool true) ∧ w = w') := c35
  clear c35
  have c120 := inAt_any A b off n c (i + 2) 120 l w hA hn (by omega) hR
  rw [hx, show ((i + 2 : Nat) : Int) = (i : Int) + 2 by omega] at c120
  have C120 : Hid (Calls Try.prog 30 #[.slice A n c, .int .i64 ((i : Int) + 2), .int .u8 120] w fun e w' => e = .returned (.bool true) ∧ w = w') := c120
  clear c120
  have cs := inAt_any A b off n c e 59 l w hA hn (by omega) hR
  have CS : Hid (Calls Try.prog 30 #[.slice A n c, .int .i64 e, .int .u8 59] w fun e' w' => e' = .returned (.bool (atB l e 59)) ∧ w = w') := cs
  clear cs
  have cr := inRun33 A b off n c (i + 3) l w hA hn (by omega) (by omega) hR
  rw [← he, show ((i + 3 : Nat) : Int) = (i : Int) + 3 by omega] at cr
  have CR := Lib.hid cr
  clear cr
  rw [hn] at hlt0 hlt1 hlt2 hle
  obtain ⟨r, hr⟩ : ∃ r, r = infoE l i := ⟨_, rfl⟩
  rw [← hr] at hin ⊢
  unfold semiB at hin
  obtain ⟨s, hs⟩ : ∃ s, s = atB l e 59 := ⟨_, rfl⟩
  rw [← hs] at hin CS
  have HIN := Lib.hid hin
  clear hin hr hA hR hn h38 h35 hx he hs
  obtain ⟨hle1, hle2⟩ := hle
  have tok38 : True := trivial
  have tok35 : True := trivial
  have tok120 : True := trivial
  by_cases hb1 : e - (i + 3) < 1
  · have H : Hid (r = 0) := by show _ = _; rw [HIN.out, if_pos (Or.inl hb1)]
    clear HIN
    go_enter Try.func18, Try.ntmps18
    go_wp2_with (first
      | (clear tok38; go_at_call 30; refine C38.out.mono ?_; rintro e' w' ⟨rfl, rfl⟩)
      | (clear tok35; go_at_call 30; refine C35.out.mono ?_; rintro e' w' ⟨rfl, rfl⟩)
      | (clear tok120; go_at_call 30; refine C120.out.mono ?_; rintro e' w' ⟨rfl, rfl⟩)
      | (go_at_call 31; refine CR.out.mono ?_; rintro e' w' ⟨rfl, rfl⟩)
      | (go_at_call 30; refine CS.out.mono ?_; rintro e' w' ⟨rfl, rfl⟩))
    go_ret
    rw [H.out]
    exact ⟨rfl, rfl⟩
  by_cases hb2 : 8 < e - (i + 3)
  · have H : Hid (r = 0) := by show _ = _; rw [HIN.out, if_pos (Or.inr hb2)]
    clear HIN
    go_enter Try.func18, Try.ntmps18
    go_wp2_with (first
      | (clear tok38; go_at_call 30; refine C38.out.mono ?_; rintro e' w' ⟨rfl, rfl⟩)
      | (clear tok35; go_at_call 30; refine C35.out.mono ?_; rintro e' w' ⟨rfl, rfl⟩)
      | (clear tok120; go_at_call 30; refine C120.out.mono ?_; rintro e' w' ⟨rfl, rfl⟩)
      | (go_at_call 31; refine CR.out.mono ?_; rintro e' w' ⟨rfl, rfl⟩)
      | (go_at_call 30; refine CS.out.mono ?_; rintro e' w' ⟨rfl, rfl⟩))
    go_ret
    rw [H.out]
    exact ⟨rfl, rfl⟩
  cases s with
  | true =>
    have H : Hid (r = e + 1) := by show _ = _; rw [HIN.out, if_neg (by rintro (h | h); exact hb1 h; exact hb2 h), if_pos rfl]
    clear HIN
    go_enter Try.func18, Try.ntmps18
    go_wp2_with (first
      | (clear tok38; go_at_call 30; refine C38.out.mono ?_; rintro e' w' ⟨rfl, rfl⟩)
      | (clear tok35; go_at_call 30; refine C35.out.mono ?_; rintro e' w' ⟨rfl, rfl⟩)
      | (clear tok120; go_at_call 30; refine C120.out.mono ?_; rintro e' w' ⟨rfl, rfl⟩)
      | (go_at_call 31; refine CR.out.mono ?_; rintro e' w' ⟨rfl, rfl⟩)
      | (go_at_call 30; refine CS.out.mono ?_; rintro e' w' ⟨rfl, rfl⟩))
    go_ret
    rw [H.out]
    exact ⟨by go_num, rfl⟩
  | false =>
    have H : Hid (r = 0) := by show _ = _; rw [HIN.out, if_neg (by rintro (h | h); exact hb1 h; exact hb2 h), if_neg (by decide)]
    clear HIN
    go_enter Try.func18, Try.ntmps18
    go_wp2_with (first
      | (clear tok38; go_at_call 30; refine C38.out.mono ?_; rintro e' w' ⟨rfl, rfl⟩)
      | (clear tok35; go_at_call 30; refine C35.out.mono ?_; rintro e' w' ⟨rfl, rfl⟩)
      | (clear tok120; go_at_call 30; refine C120.out.mono ?_; rintro e' w' ⟨rfl, rfl⟩)
      | (go_at_call 31; refine CR.out.mono ?_; rintro e' w' ⟨rfl, rfl⟩)
      | (go_at_call 30; refine CS.out.mono ?_; rintro e' w' ⟨rfl, rfl⟩))
    go_ret
    rw [H.out]
    exact ⟨rfl, rfl⟩
set_option maxRecDepth 100000 in
set_option maxHeartbeats 4000000 in
theorem info_hex2 (A : Option Addr) (b off n c i : Nat) (l : Bs) (w : World) (hA : 0 < n → A = some ⟨b, off, none⟩) (hn : l.length = n) (hc : n ≤ 9223372036854775800) (hi : i ≤ n) (hR : RdO w b off l)
    (h38 : atB l i 38 = true) (h35 : atB l (i + 1) 35 = true) (hx : atB l (i + 2) 120 = false) (hX : atB l (i + 2) 88 = true) :
    Calls Try.prog 18 #[.slice A n c, .int .i64 i] w fun e w' => e = .returned (.int .i64 (infoE l i : Nat)) ∧ w = w' := by
  have hlt0 := atB_lt h38
  have hlt1 := atB_lt h35
  have hlt2 := atB_lt hX
  obtain ⟨e, he⟩ : ∃ e, e = runB isHx (l.drop (i + 3)) (i + 3) := ⟨_, rfl⟩
  have hle := runB_le isHx l (i + 3) (by omega)
  rw [← he] at hle
  have hin : infoE l i = if e - (i + 3) < 1 ∨ 8 < e - (i + 3) then 0 else semiB l e := by
    unfold infoE
    rw [if_neg (by rw [h38]; decide), if_neg (by rw [h35]; decide), if_pos (Or.inr hX), ← he]
  have c38 := inAt_any A b off n c i 38 l w hA hn (by omega) hR
  rw [h38] at c38
  have C38 : Hid (Calls Try.prog 30 #[.slice A n c, .int .i64 (i : Int), .int .u8 38] w fun e w' => e = .returned (.bool true) ∧ w = w') := c38
  clear c38
  have c35 := inAt_any A b off n c (i + 1) 35 l w hA hn (by omega) hR
  rw [h35, show ((i + 1 : Nat) : Int) = (i : Int) + 1 by omega] at c35
  have C35 : Hid (Calls Try.prog 30 #[.slice A n c, .int .i64 ((i : Int) + 1), .int .u8 35] w fun e w' => e = .returned (.bool true) ∧ w = w') := c35
  clear c35
  have c120 := inAt_any A b off n c (i + 2) 120 l w hA hn (by omega) hR
  rw [hx, show ((i + 2 : Nat) : Int) = (i : Int) + 2 by omega] at c120
  have C120 : Hid (Calls Try.prog 30 #[.slice A n c, .int .i64 ((i : Int) + 2), .int .u8 120] w fun e w' => e = .returned (.bool false) ∧ w = w') := c120
  clear c120
  have c88 := inAt_any A b off n c (i + 2) 88 l w hA hn (by omega) hR
  rw [hX, show ((i + 2 : Nat) : Int) = (i : Int) + 2 by omega] at c88
  have C88 : Hid (Calls Try.prog 30 #[.slice A n c, .int .i64 ((i : Int) + 2), .int .u8 88] w fun e w' => e = .returned (.bool true) ∧ w = w') := c88
  clear c88
  have cs := inAt_any A b off n c e 59 l w hA hn (by omega) hR
  have CS : Hid (Calls Try.prog 30 #[.slice A n c, .int .i64 e, .int .u8 59] w fun e' w' => e' = .returned (.bool (atB l e 59)) ∧ w = w') := cs
  clear cs
  have cr := inRun33 A b off n c (i + 3) l w hA hn (by omega) (by omega) hR
  rw [← he, show ((i + 3 : Nat) : Int) = (i : Int) + 3 by omega] at cr
  have CR := Lib.hid cr
  clear cr
  rw [hn] at hlt0 hlt1 hlt2 hle
  obtain ⟨r, hr⟩ : ∃ r, r = infoE l i := ⟨_, rfl⟩
  rw [← hr] at hin ⊢
  unfold semiB at hin
  obtain ⟨s, hs⟩ : ∃ s, s = atB l e 59 := ⟨_, rfl⟩
  rw [← hs] at hin CS
  have HIN := Lib.hid hin
  clear hin hr hA hR hn h38 h35 hx hX he hs
  obtain ⟨hle1, hle2⟩ := hle
  have tok38 : True := trivial
  have tok35 : True := trivial
  have tok120 : True := trivial
  have tok88 : True := trivial
  by_cases hb1 : e - (i + 3) < 1
  · have H : Hid (r = 0) := by show _ = _; rw [HIN.out, if_pos (Or.inl hb1)]
    clear HIN
    go_enter Try.func18, Try.ntmps18
    go_wp2_with (first
      | (clear tok38; go_at_call 30; refine C38.out.mono ?_; rintro e' w' ⟨rfl, rfl⟩)
      | (clear tok35; go_at_call 30; refine C35.out.mono ?_; rintro e' w' ⟨rfl, rfl⟩)
      | (clear tok120; go_at_call 30; refine C120.out.mono ?_; rintro e' w' ⟨rfl, rfl⟩)
      | (clear tok88; go_at_call 30; refine C88.out.mono ?_; rintro e' w' ⟨rfl, rfl⟩)
      | (go_at_call 31; refine CR.out.mono ?_; rintro e' w' ⟨rfl, rfl⟩)
      | (go_at_call 30; refine CS.out.mono ?_; rintro e' w' ⟨rfl, rfl⟩))
    go_ret
    rw [H.out]
    exact ⟨rfl, rfl⟩
  by_cases hb2 : 8 < e - (i + 3)
  · have H : Hid (r = 0) := by show _ = _; rw [HIN.out, if_pos (Or.inr hb2)]
    clear HIN
    go_enter Try.func18, Try.ntmps18
    go_wp2_with (first
      | (clear tok38; go_at_call 30; refine C38.out.mono ?_; rintro e' w' ⟨rfl, rfl⟩)
      | (clear tok35; go_at_call 30; refine C35.out.mono ?_; rintro e' w' ⟨rfl, rfl⟩)
      | (clear tok120; go_at_call 30; refine C120.out.mono ?_; rintro e' w' ⟨rfl, rfl⟩)
      | (clear tok88; go_at_call 30; refine C88.out.mono ?_; rintro e' w' ⟨rfl, rfl⟩)
      | (go_at_call 31; refine CR.out.mono ?_; rintro e' w' ⟨rfl, rfl⟩)
      | (go_at_call 30; refine CS.out.mono ?_; rintro e' w' ⟨rfl, rfl⟩))
    go_ret
    rw [H.out]
    exact ⟨rfl, rfl⟩
  cases s with
  | true =>
    have H : Hid (r = e + 1) := by show _ = _; rw [HIN.out, if_neg (by rintro (h | h); exact hb1 h; exact hb2 h), if_pos rfl]
    clear HIN
    go_enter Try.func18, Try.ntmps18
    go_wp2_with (first
      | (clear tok38; go_at_call 30; refine C38.out.mono ?_; rintro e' w' ⟨rfl, rfl⟩)
      | (clear tok35; go_at_call 30; refine C35.out.mono ?_; rintro e' w' ⟨rfl, rfl⟩)
      | (clear tok120; go_at_call 30; refine C120.out.mono ?_; rintro e' w' ⟨rfl, rfl⟩)
      | (clear tok88; go_at_call 30; refine C88.out.mono ?_; rintro e' w' ⟨rfl, rfl⟩)
      | (go_at_call 31; refine CR.out.mono ?_; rintro e' w' ⟨rfl, rfl⟩)
      | (go_at_call 30; refine CS.out.mono ?_; rintro e' w' ⟨rfl, rfl⟩))
    go_ret
    rw [H.out]
    exact ⟨by go_num, rfl⟩
  | false =>
    have H : Hid (r = 0) := by show _ = _; rw [HIN.out, if_neg (by rintro (h | h); exact hb1 h; exact hb2 h), if_neg (by decide)]
    clear HIN
    go_enter Try.func18, Try.ntmps18
    go_wp2_with (first
      | (clear tok38; go_at_call 30; refine C38.out.mono ?_; rintro e' w' ⟨rfl, rfl⟩)
      | (clear tok35; go_at_call 30; refine C35.out.mono ?_; rintro e' w' ⟨rfl, rfl⟩)
      | (clear tok120; go_at_call 30; refine C120.out.mono ?_; rintro e' w' ⟨rfl, rfl⟩)
      | (clear tok88; go_at_call 30; refine C88.out.mono ?_; rintro e' w' ⟨rfl, rfl⟩)
      | (go_at_call 31; refine CR.out.mono ?_; rintro e' w' ⟨rfl, rfl⟩)
      | (go_at_call 30; refine CS.out.mono ?_; rintro e' w' ⟨rfl, rfl⟩))
    go_ret
    rw [H.out]
    exact ⟨rfl, rfl⟩
set_option maxRecDepth 100000 in
set_option maxHeartbeats 4000000 in
theorem info_dec (A : Option Addr) (b off n c i : Nat) (l : Bs) (w : World) (hA : 0 < n → A = some ⟨b, off, none⟩) (hn : l.length = n) (hc : n ≤ 9223372036854775800) (hi : i ≤ n) (hR : RdO w b off l)
    (h38 : atB l i 38 = true) (h35 : atB l (i + 1) 35 = true) (hx : atB l (i + 2) 120 = false) (hX : atB l (i + 2) 88 = false) :
    Calls Try.prog 18 #[.slice A n c, .int .i64 i] w fun e w' => e = .returned (.int .i64 (infoE l i : Nat)) ∧ w = w' := by
  have hlt0 := atB_lt h38
  have hlt1 := atB_lt h35
  obtain ⟨e, he⟩ : ∃ e, e = runB isDig (l.drop (i + 2)) (i + 2) := ⟨_, rfl⟩
  have hle := runB_le isDig l (i + 2) (by omega)
  rw [← he] at hle
  have hin : infoE l i = if e - (i + 2) < 1 ∨ 8 < e - (i + 2) then 0 else semiB l e := by
    unfold infoE
    rw [if_neg (by rw [h38]; decide), if_neg (by rw [h35]; decide), if_neg (by rw [hx, hX]; decide), ← he]
  have c38 := inAt_any A b off n c i 38 l w hA hn (by omega) hR
  rw [h38] at c38
  have C38 : Hid (Calls Try.prog 30 #[.slice A n c, .int .i64 (i : Int), .int .u8 38] w fun e w' => e = .returned (.bool true) ∧ w = w') := c38
  clear c38
  have c35 := inAt_any A b off n c (i + 1) 35 l w hA hn (by omega) hR
  rw [h35, show ((i + 1 : Nat) : Int) = (i : Int) + 1 by omega] at c35
  have C35 : Hid (Calls Try.prog 30 #[.slice A n c, .int .i64 ((i : Int) + 1), .int .u8 35] w fun e w' => e = .returned (.bool true) ∧ w = w') := c35
  clear c35
  have c120 := inAt_any A b off n c (i + 2) 120 l w hA hn (by omega) hR
  rw [hx, show ((i + 2 : Nat) : Int) = (i : Int) + 2 by omega] at c120
  have C120 : Hid (Calls Try.prog 30 #[.slice A n c, .int .i64 ((i : Int) + 2), .int .u8 120] w fun e w' => e = .returned (.bool false) ∧ w = w') := c120
  clear c120
  have c88 := inAt_any A b off n c (i + 2) 88 l w hA hn (by omega) hR
  rw [hX, show ((i + 2 : Nat) : Int) = (i : Int) + 2 by omega] at c88
  have C88 : Hid (Calls Try.prog 30 #[.slice A n c, .int .i64 ((i : Int) + 2), .int .u8 88] w fun e w' => e = .returned (.bool false) ∧ w = w') := c88
  clear c88
  have cs := inAt_any A b off n c e 59 l w hA hn (by omega) hR
  have CS : Hid (Calls Try.prog 30 #[.slice A n c, .int .i64 e, .int .u8 59] w fun e' w' => e' = .returned (.bool (atB l e 59)) ∧ w = w') := cs
  clear cs
  have cr := inRun34 A b off n c (i + 2) l w hA hn (by omega) (by omega) hR
  rw [← he, show ((i + 2 : Nat) : Int) = (i : Int) + 2 by omega] at cr
  have CR := Lib.hid cr
  clear cr
  rw [hn] at hlt0 hlt1 hle
  obtain ⟨r, hr⟩ : ∃ r, r = infoE l i := ⟨_, rfl⟩
  rw [← hr] at hin ⊢
  unfold semiB at hin
  obtain ⟨s, hs⟩ : ∃ s, s = atB l e 59 := ⟨_, rfl⟩
  rw [← hs] at hin CS
  have HIN := Lib.hid hin
  clear hin hr hA hR hn h38 h35 hx hX he hs
  obtain ⟨hle1, hle2⟩ := hle
  have tok38 : True := trivial
  have tok35 : True := trivial
  have tok120 : True := trivial
  have tok88 : True := trivial
  by_cases hb1 : e - (i + 2) < 1
  · have H : Hid (r = 0) := by show _ = _; rw [HIN.out, if_pos (Or.inl hb1)]
    clear HIN
    go_enter Try.func18, Try.ntmps18
    go_wp2_with (first
      | (clear tok38; go_at_call 30; refine C38.out.mono ?_; rintro e' w' ⟨rfl, rfl⟩)
      | (clear tok35; go_at_call 30; refine C35.out.mono ?_; rintro e' w' ⟨rfl, rfl⟩)
      | (clear tok120; go_at_call 30; refine C120.out.mono ?_; rintro e' w' ⟨rfl, rfl⟩)
      | (clear tok88; go_at_call 30; refine C88.out.mono ?_; rintro e' w' ⟨rfl, rfl⟩)
      | (go_at_call 31; refine CR.out.mono ?_; rintro e' w' ⟨rfl, rfl⟩)
      | (go_at_call 30; refine CS.out.mono ?_; rintro e' w' ⟨rfl, rfl⟩))
    go_ret
    rw [H.out]
    exact ⟨rfl, rfl⟩
  by_cases hb2 : 8 < e - (i + 2)
  · have H : Hid (r = 0) := by show _ = _; rw [HIN.out, if_pos (Or.inr hb2)]
    clear HIN
    go_enter Try.func18, Try.ntmps18
    go_wp2_with (first
      | (clear tok38; go_at_call 30; refine C38.out.mono ?_; rintro e' w' ⟨rfl, rfl⟩)
      | (clear tok35; go_at_call 30; refine C35.out.mono ?_; rintro e' w' ⟨rfl, rfl⟩)
      | (clear tok120; go_at_call 30; refine C120.out.mono ?_; rintro e' w' ⟨rfl, rfl⟩)
      | (clear tok88; go_at_call 30; refine C88.out.mono ?_; rintro e' w' ⟨rfl, rfl⟩)
      | (go_at_call 31; refine CR.out.mono ?_; rintro e' w' ⟨rfl, rfl⟩)
      | (go_at_call 30; refine CS.out.mono ?_; rintro e' w' ⟨rfl, rfl⟩))
    go_ret
    rw [H.out]
    exact ⟨rfl, rfl⟩
  cases s with
  | true =>
    have H : Hid (r = e + 1) := by show _ = _; rw [HIN.out, if_neg (by rintro (h | h); exact hb1 h; exact hb2 h), if_pos rfl]
    clear HIN
    go_enter Try.func18, Try.ntmps18
    go_wp2_with (first
      | (clear tok38; go_at_call 30; refine C38.out.mono ?_; rintro e' w' ⟨rfl, rfl⟩)
      | (clear tok35; go_at_call 30; refine C35.out.mono ?_; rintro e' w' ⟨rfl, rfl⟩)
      | (clear tok120; go_at_call 30; refine C120.out.mono ?_; rintro e' w' ⟨rfl, rfl⟩)
      | (clear tok88; go_at_call 30; refine C88.out.mono ?_; rintro e' w' ⟨rfl, rfl⟩)
      | (go_at_call 31; refine CR.out.mono ?_; rintro e' w' ⟨rfl, rfl⟩)
      | (go_at_call 30; refine CS.out.mono ?_; rintro e' w' ⟨rfl, rfl⟩))
    go_ret
    rw [H.out]
    exact ⟨by go_num, rfl⟩
  | false =>
    have H : Hid (r = 0) := by show _ = _; rw [HIN.out, if_neg (by rintro (h | h); exact hb1 h; exact hb2 h), if_neg (by decide)]
    clear HIN
    go_enter Try.func18, Try.ntmps18
    go_wp2_with (first
      | (clear tok38; go_at_call 30; refine C38.out.mono ?_; rintro e' w' ⟨rfl, rfl⟩)
      | (clear tok35; go_at_call 30; refine C35.out.mono ?_; rintro e' w' ⟨rfl, rfl⟩)
      | (clear tok120; go_at_call 30; refine C120.out.mono ?_; rintro e' w' ⟨rfl, rfl⟩)
      | (clear tok88; go_at_call 30; refine C88.out.mono ?_; rintro e' w' ⟨rfl, rfl⟩)
      | (go_at_call 31; refine CR.out.mono ?_; rintro e' w' ⟨rfl, rfl⟩)
      | (go_at_call 30; refine CS.out.mono ?_; rintro e' w' ⟨rfl, rfl⟩))
    go_ret
    rw [H.out]
    exact ⟨rfl, rfl⟩

theorem info_any (A : Option Addr) (b off n c i : Nat) (l : Bs) (w : World) (hA : 0 < n → A = some ⟨b, off, none⟩) (hn : l.length = n) (hc : n ≤ 9223372036854775800) (hi : i ≤ n) (hR : RdO w b off l) :
    Calls Try.prog 18 #[.slice A n c, .int .i64 i] w fun e w' => e = .returned (.int .i64 (infoE l i : Nat)) ∧ w = w' := by
  cases h38 : atB l i 38 with
  | false => exact info_none A b off n c i l w hA hn hc hi hR h38
  | true =>
    cases h35 : atB l (i + 1) 35 with
    | false => exact info_name A b off n c i l w hA hn hc hi hR h38 h35
    | true =>
      cases hx : atB l (i + 2) 120 with
      | true => exact info_hex A b off n c i l w hA hn hc hi hR h38 h35 hx
      | false =>
        cases hX : atB l (i + 2) 88 with
        | true => exact info_hex2 A b off n c i l w hA hn hc hi hR h38 h35 hx hX
        | false => exact info_dec A b off n c i l w hA hn hc hi hR h38 h35 hx hX
end Go.Proofs.Ytkogokjlpgnmlaa
