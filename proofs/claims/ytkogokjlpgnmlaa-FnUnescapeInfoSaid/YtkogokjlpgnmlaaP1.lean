/- The plain law: parts that are written are unescaped to what they mean. -/
import Derived.Test.YtkogokjlpgnmlaaF2
import Derived.Test.YtkogokjlpgnmlaaU6
set_option linter.unusedVariables false
set_option linter.unusedSimpArgs false
namespace Go.Proofs.Ytkogokjlpgnmlaa
open Go.RowKit

set_option maxRecDepth 1000000 in
theorem ent_amp : entity [97, 109, 112, 59] = (38, 0) := by kernel_rfl
set_option maxRecDepth 1000000 in
theorem ent_lt : entity [108, 116, 59] = (60, 0) := by kernel_rfl
set_option maxRecDepth 1000000 in
theorem ent_gt : entity [103, 116, 59] = (62, 0) := by kernel_rfl
set_option maxRecDepth 1000000 in
theorem ent_quot : entity [113, 117, 111, 116, 59] = (34, 0) := by kernel_rfl

theorem encB_ascii (n : Nat) (h : n ≤ 127) : encB (n : Int) = [UInt8.ofNat n] := by
  rw [encB, Lib.encodeRuneZ_one (by omega) (by omega)]
  simp

theorem name_step (c : UInt8) (r : Bs) (i : Nat) (h : isAl c = true) : nameLoop (c :: r) i = nameLoop r (i + 1) := by rw [nameLoop, if_pos h]
theorem name_end (r : Bs) (i : Nat) : nameLoop (59 :: r) i = i + 1 := by
  rw [nameLoop, if_neg (by decide), if_neg (by decide)]
/-- A name of letters with its semicolon, of one code point. -/
theorem ent_name (nm r : Bs) (x : Int) (hn : ∀ c ∈ nm, isAl c = true) (hl : nm ≠ []) (hx : entity (nm ++ [59]) = (x, 0)) (h0 : x ≠ 0) : ent (38 :: (nm ++ 59 :: r)) = (encB x, nm.length + 2) := by
  have hloop : ∀ (l : Bs) (i : Nat), (∀ c ∈ l, isAl c = true) → nameLoop (l ++ 59 :: r) i = i + l.length + 1 := by
    intro l
    induction l with
    | nil => intro i _; exact name_end r i
    | cons c l ih =>
      intro i h
      rw [List.cons_append, name_step c _ i (h c (by simp)), ih (i + 1) (fun d hd => h d (by simp [hd])), List.length_cons]
      omega
  have hne : (38 :: (nm ++ 59 :: r)).getD 1 0 ≠ 35 := by
    cases nm with
    | nil => exact absurd rfl hl
    | cons c l =>
      intro h
      have h' : c = 35 := by simpa using h
      have := hn c (by simp)
      rw [h'] at this
      exact absurd this (by decide)
  have hlen : 1 ≤ nm.length := by cases nm with
    | nil => exact absurd rfl hl
    | cons c l => simp
  unfold ent
  rw [if_neg (by simp), if_neg hne]
  have hi : nameLoop ((38 :: (nm ++ 59 :: r)).drop 1) 1 = nm.length + 2 := by
    show nameLoop (nm ++ 59 :: r) 1 = _
    rw [hloop nm 1 hn]; omega
  rw [hi]
  have hnm : (((38 :: (nm ++ 59 :: r)).drop 1).take (nm.length + 2 - 1)) = nm ++ [59] := by
    show (nm ++ 59 :: r).take (nm.length + 1) = _
    rw [List.take_append, List.take_of_length_le (by omega)]
    simp
  unfold nameOut
  rw [if_neg (by omega), hnm, hx, if_pos ⟨h0, rfl⟩]

/-- A digit's own value. -/
theorem digB_dec (d : Nat) (h : d < 10) : (digB d).toNat = 48 + d := by
  unfold digB; rw [if_pos h, UInt8.toNat_ofNat_of_lt' (by show 48 + d < 256; omega)]
theorem digB_hex (d : Nat) (h : 10 ≤ d) (h2 : d < 16) : (digB d).toNat = 87 + d := by
  unfold digB; rw [if_neg (by omega), UInt8.toNat_ofNat_of_lt' (by show 87 + d < 256; omega)]
theorem wrap32_in (x : Int) (h0 : -2147483648 ≤ x) (h1 : x ≤ 2147483647) : wrap32 x = x := by unfold wrap32; omega
theorem num_step (hex : Bool) (q d : Nat) (r : Bs) (i : Nat) (hq : q ≤ 100000000) (hd : d < (if hex then 16 else 10)) :
    numLoop hex (digB d :: r) (q : Int) i = numLoop hex r (((if hex then 16 else 10) * q + d : Nat) : Int) (i + 1) := by
  by_cases h10 : d < 10
  · have e := digB_dec d h10
    rw [numLoop, if_pos (by omega), e]
    congr 1
    cases hex
    · simp only [Bool.false_eq_true, if_false]
      have e1 : wrap32 (10 * (q : Int)) = 10 * (q : Int) := wrap32_in _ (by omega) (by omega)
      have e2 : wrap32 (10 * (q : Int) + ((48 + d : Nat) : Int)) = 10 * (q : Int) + ((48 + d : Nat) : Int) := wrap32_in _ (by omega) (by omega)
      rw [e1, e2, wrap32_in _ (by omega) (by omega)]
      omega
    · simp only [if_true]
      have e1 : wrap32 (16 * (q : Int)) = 16 * (q : Int) := wrap32_in _ (by omega) (by omega)
      have e2 : wrap32 (16 * (q : Int) + ((48 + d : Nat) : Int)) = 16 * (q : Int) + ((48 + d : Nat) : Int) := wrap32_in _ (by omega) (by omega)
      rw [e1, e2, wrap32_in _ (by omega) (by omega)]
      omega
  · cases hex
    · simp only [Bool.false_eq_true, if_false] at hd; omega
    · simp only [if_true] at hd
      have e := digB_hex d (by omega) hd
      rw [numLoop, if_neg (by omega), if_pos ⟨rfl, by omega, by omega⟩, e]
      congr 1
      simp only [if_true]
      have e1 : wrap32 (16 * (q : Int)) = 16 * (q : Int) := wrap32_in _ (by omega) (by omega)
      have e2 : wrap32 (16 * (q : Int) + ((87 + d : Nat) : Int)) = 16 * (q : Int) + ((87 + d : Nat) : Int) := wrap32_in _ (by omega) (by omega)
      have e3 : wrap32 (16 * (q : Int) + ((87 + d : Nat) : Int) - 97) = 16 * (q : Int) + ((87 + d : Nat) : Int) - 97 := wrap32_in _ (by omega) (by omega)
      rw [e1, e2, e3, wrap32_in _ (by omega) (by omega)]
      omega
/-- A number's digits are read as the number. -/
theorem num_digs (hex : Bool) : ∀ (f n : Nat) (r : Bs) (i : Nat), n < f → n ≤ 100000000 →
    numLoop hex (digs (if hex then 16 else 10) f n ++ r) 0 i = numLoop hex r (n : Int) (i + (digs (if hex then 16 else 10) f n).length)
  | 0, n, r, i, h, _ => by omega
  | f + 1, n, r, i, h, h2 => by
    generalize hb : (if hex then 16 else 10 : Nat) = base
    have hb2 : 2 ≤ base := by rw [← hb]; split <;> decide
    by_cases hlt : n < base
    · rw [digs, if_pos hlt]
      have := num_step hex 0 n r i (by omega) (by rw [hb]; exact hlt)
      simp only [Nat.mul_zero, Nat.zero_add] at this
      exact this
    · have hdiv : n / base < n := Nat.div_lt_self (by omega) (by omega)
      have ih := num_digs hex f (n / base) (digB (n % base) :: r) i (by omega) (by omega)
      rw [hb] at ih
      rw [digs, if_neg hlt, List.append_assoc, List.singleton_append, ih, num_step hex (n / base) (n % base) r _ (by omega) (by rw [hb]; exact Nat.mod_lt _ (by omega)), hb, Nat.div_add_mod, List.length_append]
      simp [Nat.add_assoc]
theorem digs_pos (base f n : Nat) (h : n < f) : 1 ≤ (digs base f n).length := by
  cases f with
  | zero => omega
  | succ f =>
    rw [digs]
    split
    · simp
    · simp
theorem digs_head (base : Nat) : ∀ (f n : Nat), n < f → 2 ≤ base → base ≤ 16 → ∃ d r, digs base f n = digB d :: r ∧ d < base
  | 0, n, h, _, _ => by omega
  | f + 1, n, h, h1, h2 => by
    rw [digs]
    split
    · rename_i hn
      exact ⟨n, [], rfl, hn⟩
    · rename_i hn
      have hdiv : n / base < n := Nat.div_lt_self (by omega) (by omega)
      obtain ⟨d, r, e, hd⟩ := digs_head base f (n / base) (by omega) h1 h2
      exact ⟨d, r ++ [digB (n % base)], by rw [e]; rfl, hd⟩
theorem fixR_ch (n : Int) (h : isCh n = true) : fixR n = n := by
  have := of_decide_eq_true h
  rw [fixR, if_neg (by omega), if_neg (by omega)]
theorem num_end (hex : Bool) (r : Bs) (z : Int) (i : Nat) : numLoop hex (59 :: r) z i = (z, i + 1) := by
  rw [numLoop, if_neg (by decide), if_neg (fun h => absurd h.2 (by decide)), if_neg (fun h => absurd h.2 (by decide)), if_neg (by decide)]
theorem ent_dec (n : Nat) (r : Bs) (h : isCh (n : Int) = true) : ent (38 :: 35 :: (digs 10 (n + 1) n ++ 59 :: r)) = (encB (n : Int), (digs 10 (n + 1) n).length + 3) := by
  have hn : n ≤ 1114111 := by have := of_decide_eq_true h; omega
  have hp := digs_pos 10 (n + 1) n (by omega)
  obtain ⟨d, t, hd, hd2⟩ := digs_head 10 (n + 1) n (by omega) (by omega) (by omega)
  have hnl : numOf (38 :: 35 :: (digs 10 (n + 1) n ++ 59 :: r)) = ((n : Int), (digs 10 (n + 1) n).length + 3) := by
    have hx : ¬ ((38 :: 35 :: (digs 10 (n + 1) n ++ 59 :: r)).getD 2 0 = 120 ∨ (38 :: 35 :: (digs 10 (n + 1) n ++ 59 :: r)).getD 2 0 = 88) := by
      rw [hd]
      have e : (38 :: 35 :: (digB d :: t ++ 59 :: r)).getD 2 0 = digB d := rfl
      rw [e]
      have := digB_dec d hd2
      rintro (h | h) <;> rw [h] at this <;> simp at this <;> omega
    rw [numOf, if_neg hx]
    show numLoop false (digs 10 (n + 1) n ++ 59 :: r) 0 2 = _
    have := num_digs false (n + 1) n (59 :: r) 2 (by omega) (by omega)
    simp only [Bool.false_eq_true, if_false] at this
    rw [this, num_end]
    congr 1
    omega
  have h1 : (38 :: 35 :: (digs 10 (n + 1) n ++ 59 :: r)).length = (digs 10 (n + 1) n).length + r.length + 3 := by simp; omega
  unfold ent
  rw [h1, if_neg (by omega), if_pos (show (38 :: 35 :: (digs 10 (n + 1) n ++ 59 :: r)).getD 1 0 = 35 from rfl), if_neg (by omega), hnl, if_neg (by show ¬ _ + 3 ≤ 3; omega), fixR_ch _ h]
theorem ent_hex (n : Nat) (r : Bs) (h : isCh (n : Int) = true) : ent (38 :: 35 :: 120 :: (digs 16 (n + 1) n ++ 59 :: r)) = (encB (n : Int), (digs 16 (n + 1) n).length + 4) := by
  have hn : n ≤ 1114111 := by have := of_decide_eq_true h; omega
  have hp := digs_pos 16 (n + 1) n (by omega)
  have hnl : numOf (38 :: 35 :: 120 :: (digs 16 (n + 1) n ++ 59 :: r)) = ((n : Int), (digs 16 (n + 1) n).length + 4) := by
    rw [numOf, if_pos (Or.inl (show (38 :: 35 :: 120 :: (digs 16 (n + 1) n ++ 59 :: r)).getD 2 0 = 120 from rfl))]
    show numLoop true (digs 16 (n + 1) n ++ 59 :: r) 0 3 = _
    have := num_digs true (n + 1) n (59 :: r) 3 (by omega) (by omega)
    simp only [if_true] at this
    rw [this, num_end]
    congr 1
    omega
  have h1 : (38 :: 35 :: 120 :: (digs 16 (n + 1) n ++ 59 :: r)).length = (digs 16 (n + 1) n).length + r.length + 4 := by simp; omega
  unfold ent
  rw [h1, if_neg (by omega), if_pos (show (38 :: 35 :: 120 :: (digs 16 (n + 1) n ++ 59 :: r)).getD 1 0 = 35 from rfl), if_neg (by omega), hnl, if_neg (by show ¬ _ + 4 ≤ 3; omega), fixR_ch _ h]
theorem runeB_encB (n : Nat) (h : n ≤ 1114111) : runeB (n : Int) = encB (n : Int) := by
  have hw : IntKind.i32.wrap (n : Int) = (n : Int) := by simp [IntKind.wrap, IntKind.bits, IntKind.signed]; omega
  rw [runeB, hw, encB]
  unfold Utf8.encode
  by_cases hs : 55296 ≤ n ∧ n ≤ 57343
  · have hv : Utf8.valid (n : Int) = false := by unfold Utf8.valid; simp; omega
    rw [Lib.encodeRuneZ_bad (Or.inr (Or.inl ⟨by omega, by omega⟩))]
    simp [hv, Utf8.runeError]
  · have hv : Utf8.valid (n : Int) = true := by unfold Utf8.valid; simp; omega
    simp only [hv, if_true, Int.toNat_natCast]
    by_cases h1 : n < 128
    · rw [if_pos h1, Lib.encodeRuneZ_one (by omega) (by omega)]; simp
    rw [if_neg h1]
    by_cases h2 : n < 2048
    · rw [if_pos h2, Lib.encodeRuneZ_two (by omega) (by omega)]
      simp only [List.map_cons, List.map_nil]
      rw [show (192 + (n : Int) / 64).toNat = 0xC0 + n / 64 by omega, show (128 + (n : Int) % 64).toNat = 0x80 + n % 64 by omega]
    rw [if_neg h2]
    by_cases h3 : n < 65536
    · rw [if_pos h3, Lib.encodeRuneZ_three (by omega)]
      simp only [List.map_cons, List.map_nil]
      rw [show (224 + (n : Int) / 4096).toNat = 0xE0 + n / 4096 by omega, show (128 + (n : Int) / 64 % 64).toNat = 0x80 + n / 64 % 64 by omega, show (128 + (n : Int) % 64).toNat = 0x80 + n % 64 by omega]
    · rw [if_neg h3, Lib.encodeRuneZ_four (by omega) (by omega)]
      simp only [List.map_cons, List.map_nil]
      rw [show (240 + (n : Int) / 262144).toNat = 0xF0 + n / 262144 by omega, show (128 + (n : Int) / 4096 % 64).toNat = 0x80 + n / 4096 % 64 by omega, show (128 + (n : Int) / 64 % 64).toNat = 0x80 + n / 64 % 64 by omega, show (128 + (n : Int) % 64).toNat = 0x80 + n % 64 by omega]

theorem unesc_ent (a r b : Bs) (k : Nat) (h : ent (38 :: (a ++ r)) = (b, k)) (hk : k = a.length + 1) : unescape (38 :: (a ++ r)) = b ++ unescape r := by
  rw [unescape_amp, h, hk]
  show b ++ unescape ((38 :: (a ++ r)).drop (a.length + 1)) = _
  rw [List.drop_succ_cons, List.drop_left]
/-- A part that is written is unescaped to what it means, whatever stands behind it. -/
theorem part_law (k n : Int) (t a b r : Bs) (h : partOf k n t = (a, b, true)) : unescape (a ++ r) = b ++ unescape r := by
  unfold partOf at h
  by_cases h0 : k = 0
  · rw [if_pos h0] at h
    cases hc : ampIn t with
    | true => rw [hc] at h; simp at h
    | false =>
      rw [hc] at h
      simp only [Bool.false_eq_true, if_false, Prod.mk.injEq] at h
      obtain ⟨rfl, rfl, _⟩ := h
      refine unescape_plain t r (fun c hcm e => ?_)
      unfold ampIn at hc
      rw [List.any_eq_false] at hc
      exact hc c hcm (by rw [e]; rfl)
  rw [if_neg h0] at h
  by_cases h1 : k = 1
  · rw [if_pos h1] at h
    split at h
    · simp at h
    · rename_i hn
      simp only [Prod.mk.injEq] at h
      obtain ⟨rfl, rfl, _⟩ := h
      have h4 : n = 0 ∨ n = 1 ∨ n = 2 ∨ n = 3 := by omega
      rcases h4 with rfl | rfl | rfl | rfl
      · have e := ent_name [97, 109, 112] r 38 (by decide) (by simp) ent_amp (by decide)
        exact unesc_ent [97, 109, 112, 59] r _ _ e rfl
      · have e := ent_name [108, 116] r 60 (by decide) (by simp) ent_lt (by decide)
        exact unesc_ent [108, 116, 59] r _ _ e rfl
      · have e := ent_name [103, 116] r 62 (by decide) (by simp) ent_gt (by decide)
        exact unesc_ent [103, 116, 59] r _ _ e rfl
      · have e := ent_name [113, 117, 111, 116] r 34 (by decide) (by simp) ent_quot (by decide)
        exact unesc_ent [113, 117, 111, 116, 59] r _ _ e rfl
  rw [if_neg h1] at h
  by_cases h2 : k = 2
  · rw [if_pos h2] at h
    split at h
    · rename_i hc
      simp only [Prod.mk.injEq] at h
      obtain ⟨rfl, rfl, _⟩ := h
      have hr := of_decide_eq_true hc
      obtain ⟨N, rfl⟩ : ∃ N : Nat, n = N := ⟨n.toNat, by omega⟩
      have e := ent_dec N r hc
      rw [Int.toNat_natCast, runeB_encB N (by omega)]
      have := unesc_ent (35 :: (digs 10 (N + 1) N ++ [59])) r (encB N) _ (by rw [← e]; simp) (by simp)
      rw [← this]
      simp
    · simp at h
  rw [if_neg h2] at h
  by_cases h3 : k = 3
  · rw [if_pos h3] at h
    split at h
    · rename_i hc
      simp only [Prod.mk.injEq] at h
      obtain ⟨rfl, rfl, _⟩ := h
      have hr := of_decide_eq_true hc
      obtain ⟨N, rfl⟩ : ∃ N : Nat, n = N := ⟨n.toNat, by omega⟩
      have e := ent_hex N r hc
      rw [Int.toNat_natCast, runeB_encB N (by omega)]
      have := unesc_ent (35 :: 120 :: (digs 16 (N + 1) N ++ [59])) r (encB N) _ (by rw [← e]; simp) (by simp)
      rw [← this]
      simp
    · simp at h
  rw [if_neg h3] at h
  simp at h
theorem unesc_lt : unescape [38, 108, 116, 59] = [60] := by
  have e := ent_name [108, 116] [] 60 (by decide) (by simp) ent_lt (by decide)
  have := unesc_ent [108, 116, 59] [] _ _ e rfl
  rw [unescape_nil, List.append_nil] at this
  exact this
end Go.Proofs.Ytkogokjlpgnmlaa
