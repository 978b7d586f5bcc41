/-
  FnInlineAlone: tagLength.
  FnInlineAlone: callbacks: '<' at tags and comments; stripMailto.
-/
import Derived.Test.YtalajbfpilhfgaaGreatDoorK07
set_option linter.unusedVariables false
set_option linter.unusedSimpArgs false
namespace Go.Proofs.YtalajbfpilhfgaaGreatDoor
open Go.RowKit

theorem ret_two {a b : Int} {v : Value} (h : a = b) : Ending.returned (.tuple #[v, .int .i64 a]) = .returned (.tuple #[v, .int .i64 b]) := by rw [h]
set_option maxRecDepth 100000 in
set_option maxHeartbeats 4000000 in
theorem tag_no (x : Ctx) (k : Nat) (ins : Bool) (s : Nat) (hs : s < x.D.length) (h0 : x.D.getD s 0 = 60) (h1 : s + 1 < x.D.length → x.D.getD (s + 1) 0 ≠ 47 ∧ isAln (x.D.getD (s + 1) 0) = false) (w : World) (hi : x.inv k ins w) :
    Calls Tryz.prog 72 #[.slice (some ⟨x.g, x.off + s, none⟩) (x.D.length - s) (x.cap - s)] w fun e w' => e = .returned (.tuple #[.int .i64 0, .int .i64 0]) ∧ w = w' := by
  have hcap := hi.2.2.2.1
  have hcap2 := hi.2.2.2.2
  have hc := hi.at s
  obtain ⟨n, hn⟩ : ∃ n, n = x.D.length := ⟨_, rfl⟩
  rw [← hn] at hs h1 hcap hc ⊢
  by_cases h3 : n - s < 3
  · clear hc hi hn h0 h1
    go_enter Tryz.func72, Tryz.ntmps72
    go_wp2
    go_ret2
    exact ⟨rfl, rfl⟩
  · have c0 : w.cell? ⟨x.g, x.off + s, none⟩ = some (.int .u8 60) := by
      have := hc 0 (by omega)
      rw [Nat.add_zero, Nat.add_zero, h0] at this
      exact this
    have c1 := hc 1 (by omega)
    obtain ⟨q1, q2⟩ := h1 (by omega)
    obtain ⟨y, hy⟩ : ∃ y, y = x.D.getD (s + 1) 0 := ⟨_, rfl⟩
    rw [← hy] at c1 q1 q2
    have b1 : ((y.toNat : Int) == 47) = false := beq_no (k := 47) q1
    have CA := Lib.hid (fun w => aln78 y w)
    rw [q2] at CA
    have hd0 : decide (0 < n - s) = true := decide_eq_true (by omega)
    clear hc hi hn h0 h1 hy q1 q2
    go_enter Tryz.func72, Tryz.ntmps72
    go_wp2_with (go_at_call 78; refine (CA.out _).mono ?_; rintro r w' ⟨rfl, rfl⟩)
    go_ret2
    exact ⟨rfl, rfl⟩

set_option maxRecDepth 100000 in
set_option maxHeartbeats 8000000 in
theorem tag_mail (x : Ctx) (k : Nat) (ins : Bool) (s a m : Nat) (ha : 0 < a) (hm : 0 < m) (hs : s + 1 + a + m < x.D.length) (h0 : x.D.getD s 0 = 60) (h1 : ∀ j, j < a → isAln (x.D.getD (s + 1 + j) 0) = true) (h2 : x.D.getD (s + (1 + a)) 0 = 64)
    (h3 : ∀ j, 0 < j → j < m → isAln (x.D.getD (s + (1 + a) + j) 0) = true ∨ x.D.getD (s + (1 + a) + j) 0 = 46) (h4 : x.D.getD (s + (1 + a) + m) 0 = 62) (w : World) (hi : x.inv k ins w) :
    Calls Tryz.prog 72 #[.slice (some ⟨x.g, x.off + s, none⟩) (x.D.length - s) (x.cap - s)] w fun e w' => e = .returned (.tuple #[.int .i64 2, .int .i64 ((1 + a + m + 1 : Nat) : Int)]) ∧ w = w' := by
  have hcap := hi.2.2.2.1
  have hcap2 := hi.2.2.2.2
  have hc := hi.at s
  have cm := mail92 x k ins (s + (1 + a)) m (by omega) hm h2 h3 h4 w hi
  obtain ⟨n, hn⟩ : ∃ n, n = x.D.length := ⟨_, rfl⟩
  rw [← hn] at hs hcap hc cm ⊢
  have CM : Hid (Calls Tryz.prog 92 #[.slice (some ⟨x.g, x.off + s + (1 + a), none⟩) (n - s - (1 + a)) (x.cap - s - (1 + a))] w fun e w' => e = .returned (.int .i64 ((m + 1 : Nat) : Int)) ∧ w = w') := by
    have e1 : x.off + (s + (1 + a)) = x.off + s + (1 + a) := by omega
    have e2 : n - (s + (1 + a)) = n - s - (1 + a) := by omega
    have e3 : x.cap - (s + (1 + a)) = x.cap - s - (1 + a) := by omega
    rw [e1, e2, e3] at cm
    exact cm
  have c0 : w.cell? ⟨x.g, x.off + s, none⟩ = some (.int .u8 60) := by
    have := hc 0 (by omega)
    rw [Nat.add_zero, Nat.add_zero, h0] at this
    exact this
  have hf := h1 0 ha
  rw [Nat.add_zero] at hf
  have c1 := hc 1 (by omega)
  obtain ⟨y, hy⟩ : ∃ y, y = x.D.getD (s + 1) 0 := ⟨_, rfl⟩
  rw [← hy] at c1 hf
  have b47 : ((y.toNat : Int) == 47) = false := beq_no (k := 47) (by rintro rfl; exact absurd hf (by decide))
  have CA := Lib.hid (fun w => aln78 y w)
  rw [hf] at CA
  have A64 : Hid (∀ w, Calls Tryz.prog 78 #[.int .u8 64] w fun e w' => e = .returned (.bool false) ∧ w = w') := fun w => aln78 64 w
  have ca : w.cell? ⟨x.g, x.off + s + (1 + a), none⟩ = some (.int .u8 64) := by rw [hc (1 + a) (by omega), h2]; rfl
  have HC := Lib.hid hc
  have H1 := Lib.hid h1
  have hd0 : decide (0 < n - s) = true := decide_eq_true (by omega)
  have bm : (((m + 1 : Nat) : Int) != 0) = true := by rw [bne_iff_ne]; omega
  have bm2 : ((m : Int) + 1 != 0) = true := by rw [bne_iff_ne]; omega
  clear hc h0 h1 h2 h3 h4 hi hn hy hf cm
  go_enter Tryz.func72, Tryz.ntmps72
  go_wp2_with (go_at_call 78; refine (CA.out _).mono ?_; rintro r w' ⟨rfl, rfl⟩)
  go_loopg [4] (a + 1) (fun q v4 wr => ∃ j : Nat, v4 = .int .i64 ((1 + j : Nat) : Int) ∧ q + j = a + 1 ∧ j ≤ a ∧ w = wr)
  case atStart => exact ⟨0, rfl, by omega, by omega, rfl⟩
  case round =>
    obtain ⟨j, rfl, hq, hj, rfl⟩ := hrel
    have HQ := Lib.hid hq
    clear hq
    by_cases hja : j < a
    · have c2 := HC.out (1 + j) (by omega)
      rw [← Nat.add_assoc s 1 j] at c2
      have hl := H1.out j hja
      obtain ⟨z, hz⟩ : ∃ z, z = x.D.getD (s + 1 + j) 0 := ⟨_, rfl⟩
      rw [← hz] at c2 hl
      have CB := Lib.hid (fun w => aln78 z w)
      rw [hl] at CB
      clear hz hl
      go_wp2_with (go_at_call 78; refine (CB.out _).mono ?_; rintro r w' ⟨rfl, rfl⟩)
      go_roundg (a - j)
      case measure => have := HQ.out; omega
      case rel => exact ⟨j + 1, by go_num, by omega, by omega, rfl⟩
    · obtain rfl : j = a := by omega
      go_wp2_with (first
        | (go_at_call 78; refine (A64.out _).mono ?_; rintro r w' ⟨rfl, rfl⟩)
        | (go_at_call 92; refine CM.out.mono ?_; rintro r w' ⟨rfl, rfl⟩))
      go_ret2
      exact ⟨ret_two (by omega), rfl⟩

set_option maxRecDepth 100000 in
set_option maxHeartbeats 8000000 in
theorem tag_auto (x : Ctx) (k : Nat) (ins : Bool) (s a p : Nat) (ha : 2 ≤ a) (hp : a + 2 < p) (hs : s + p < x.D.length) (h0 : x.D.getD s 0 = 60) (h1 : ∀ j, j < a → isAln (x.D.getD (s + 1 + j) 0) = true) (h2 : x.D.getD (s + (1 + a)) 0 = 58)
    (h3 : ∀ j, a + 2 ≤ j → j < p → x.D.getD (s + j) 0 ≠ 92 ∧ x.D.getD (s + j) 0 ≠ 62 ∧ x.D.getD (s + j) 0 ≠ 39 ∧ x.D.getD (s + j) 0 ≠ 34 ∧ isSp (x.D.getD (s + j) 0) = false) (h4 : x.D.getD (s + p) 0 = 62) (w : World) (hi : x.inv k ins w) :
    Calls Tryz.prog 72 #[.slice (some ⟨x.g, x.off + s, none⟩) (x.D.length - s) (x.cap - s)] w fun e w' => e = .returned (.tuple #[.int .i64 1, .int .i64 ((p + 1 : Nat) : Int)]) ∧ w = w' := by
  have hcap := hi.2.2.2.1
  have hcap2 := hi.2.2.2.2
  have hc := hi.at s
  obtain ⟨n, hn⟩ : ∃ n, n = x.D.length := ⟨_, rfl⟩
  rw [← hn] at hs hcap hc ⊢
  have c0 : w.cell? ⟨x.g, x.off + s, none⟩ = some (.int .u8 60) := by
    have := hc 0 (by omega)
    rw [Nat.add_zero, Nat.add_zero, h0] at this
    exact this
  have hf := h1 0 (by omega)
  rw [Nat.add_zero] at hf
  have c1 := hc 1 (by omega)
  obtain ⟨y, hy⟩ : ∃ y, y = x.D.getD (s + 1) 0 := ⟨_, rfl⟩
  rw [← hy] at c1 hf
  have b47 : ((y.toNat : Int) == 47) = false := beq_no (k := 47) (by rintro rfl; exact absurd hf (by decide))
  have CA := Lib.hid (fun w => aln78 y w)
  rw [hf] at CA
  have A58 : Hid (∀ w, Calls Tryz.prog 78 #[.int .u8 58] w fun e w' => e = .returned (.bool false) ∧ w = w') := fun w => aln78 58 w
  have ca : w.cell? ⟨x.g, x.off + s + (1 + a), none⟩ = some (.int .u8 58) := by rw [hc (1 + a) (by omega), h2]; rfl
  have cp : w.cell? ⟨x.g, x.off + s + p, none⟩ = some (.int .u8 62) := by rw [hc p (by omega), h4]; rfl
  have HC := Lib.hid hc
  have H1 := Lib.hid h1
  have H3 := Lib.hid h3
  have hd0 : decide (0 < n - s) = true := decide_eq_true (by omega)
  clear hc h0 h1 h2 h3 h4 hi hn hy hf
  go_enter Tryz.func72, Tryz.ntmps72
  go_wp2_with (go_at_call 78; refine (CA.out _).mono ?_; rintro r w' ⟨rfl, rfl⟩)
  go_loopg [4] (a + 1) (fun q v4 wr => ∃ j : Nat, v4 = .int .i64 ((1 + j : Nat) : Int) ∧ q + j = a + 1 ∧ j ≤ a ∧ w = wr)
  case atStart => exact ⟨0, rfl, by omega, by omega, rfl⟩
  case round =>
    obtain ⟨j, rfl, hq, hj, rfl⟩ := hrel
    have HQ := Lib.hid hq
    clear hq
    by_cases hja : j < a
    · have c2 := HC.out (1 + j) (by omega)
      rw [← Nat.add_assoc s 1 j] at c2
      have hl := H1.out j hja
      obtain ⟨z, hz⟩ : ∃ z, z = x.D.getD (s + 1 + j) 0 := ⟨_, rfl⟩
      rw [← hz] at c2 hl
      have CB := Lib.hid (fun w => aln78 z w)
      rw [hl] at CB
      clear hz hl
      go_wp2_with (go_at_call 78; refine (CB.out _).mono ?_; rintro r w' ⟨rfl, rfl⟩)
      go_roundg (a - j)
      case measure => have := HQ.out; omega
      case rel => exact ⟨j + 1, by go_num, by omega, by omega, rfl⟩
    · obtain rfl : j = a := by omega
      go_wp2_with (go_at_call 78; refine (A58.out _).mono ?_; rintro r w' ⟨rfl, rfl⟩)
      go_loopg [4] (p - j - 1) (fun q v4 wr => ∃ i : Nat, v4 = .int .i64 (i : Nat) ∧ q + i = p + 1 ∧ j + 2 ≤ i ∧ i ≤ p ∧ w = wr)
      case atStart => exact ⟨j + 2, by go_num, by omega, by omega, by omega, rfl⟩
      case round =>
        obtain ⟨i, rfl, hq, hi1, hi2, rfl⟩ := hrel
        have HQ2 := Lib.hid hq
        clear hq
        by_cases hip : i < p
        · have c2 := HC.out i (by omega)
          obtain ⟨q1, q2, q3, q4, q5⟩ := H3.out i hi1 hip
          obtain ⟨z, hz⟩ : ∃ z, z = x.D.getD (s + i) 0 := ⟨_, rfl⟩
          rw [← hz] at c2 q1 q2 q3 q4 q5
          have b1 : ((z.toNat : Int) == 92) = false := beq_no (k := 92) q1
          have b2 : ((z.toNat : Int) == 62) = false := beq_no (k := 62) q2
          have b3 : ((z.toNat : Int) == 39) = false := beq_no (k := 39) q3
          have b4 : ((z.toNat : Int) == 34) = false := beq_no (k := 34) q4
          have CB := Lib.hid (fun w => sp59 z w)
          rw [q5] at CB
          clear hz q1 q2 q3 q4 q5
          go_wp2_with (go_at_call 59; refine (CB.out _).mono ?_; rintro r w' ⟨rfl, rfl⟩)
          go_roundg (p - i)
          case measure => have := HQ2.out; omega
          case rel => exact ⟨i + 1, by go_num, by omega, by omega, by omega, rfl⟩
        · obtain rfl : i = p := by omega
          go_wp2_with fail
          go_ret2
          exact ⟨ret_two (by omega), rfl⟩

set_option maxRecDepth 100000 in
set_option maxHeartbeats 8000000 in
theorem tag_tag (x : Ctx) (k : Nat) (ins : Bool) (s q a p : Nat) (hq : (q = 1 ∧ x.D.getD (s + 1) 0 ≠ 47) ∨ (q = 2 ∧ x.D.getD (s + 1) 0 = 47)) (ha : 0 < a) (hp : q + a ≤ p) (hs : s + p < x.D.length) (h0 : x.D.getD s 0 = 60) (h1 : ∀ j, j < a → isAln (x.D.getD (s + q + j) 0) = true)
    (h2 : isAln (x.D.getD (s + (q + a)) 0) = false ∧ x.D.getD (s + (q + a)) 0 ≠ 46 ∧ x.D.getD (s + (q + a)) 0 ≠ 43 ∧ x.D.getD (s + (q + a)) 0 ≠ 45 ∧ x.D.getD (s + (q + a)) 0 ≠ 64 ∧ x.D.getD (s + (q + a)) 0 ≠ 58)
    (h3 : ∀ j, q + a ≤ j → j < p → x.D.getD (s + j) 0 ≠ 62) (h4 : x.D.getD (s + p) 0 = 62) (w : World) (hi : x.inv k ins w) :
    Calls Tryz.prog 72 #[.slice (some ⟨x.g, x.off + s, none⟩) (x.D.length - s) (x.cap - s)] w fun e w' => e = .returned (.tuple #[.int .i64 0, .int .i64 ((p + 1 : Nat) : Int)]) ∧ w = w' := by
  have hcap := hi.2.2.2.1
  have hcap2 := hi.2.2.2.2
  have hc := hi.at s
  have hRd : RdO w x.g (x.off + (s + (q + a))) (x.D.drop (s + (q + a))) := rdO_drop hi.2.1 (s + (q + a))
  have hix : Lib.indexByte (x.D.drop (s + (q + a))) 62 = ((p - (q + a) : Nat) : Int) := by
    refine indexByte_at _ 62 (p - (q + a)) (by simp; omega) ?_ (fun j hj => ?_)
    · rw [getD_drop, show s + (q + a) + (p - (q + a)) = s + p by omega]; exact h4
    · rw [getD_drop, Nat.add_assoc]; exact h3 (q + a + j) (by omega) (by omega)
  have cx : Calls Tryz.prog 76 #[.slice (some ⟨x.g, x.off + (s + (q + a)), none⟩) (x.D.drop (s + (q + a))).length (x.cap - s - (q + a)), .int .u8 62] w fun e w' => e = .returned (.int .i64 ((p - (q + a) : Nat) : Int)) ∧ w = w' := by
    have := Tryz.bytes_IndexByte_at ⟨x.g, x.off + (s + (q + a)), none⟩ (x.D.drop (s + (q + a))).length (x.cap - s - (q + a)) ((x.D.drop (s + (q + a))).map fun b => (b.toNat : Int)) 62 w (by simp) (fun i hi => by
      rw [add_at, hRd i hi]
      simp [List.getD_eq_getElem?_getD, List.getElem?_eq_getElem (show i < (x.D.drop (s + (q + a))).length from hi), List.getElem?_eq_getElem (show s + (q + a) + i < x.D.length by simp at hi; omega)])
    rw [bytesOf_map, show ((62 : Int).toNat.toUInt8) = 62 from rfl, hix] at this
    refine this.mono ?_
    rintro e w' ⟨rfl, rfl⟩
    exact ⟨rfl, rfl⟩
  rw [List.length_drop] at cx
  obtain ⟨n, hn⟩ : ∃ n, n = x.D.length := ⟨_, rfl⟩
  rw [← hn] at hs hcap hc cx ⊢
  have CX : Hid (Calls Tryz.prog 76 #[.slice (some ⟨x.g, x.off + s + (q + a), none⟩) (n - s - (q + a)) (x.cap - s - (q + a)), .int .u8 62] w fun e w' => e = .returned (.int .i64 ((p - (q + a) : Nat) : Int)) ∧ w = w') := by
    rw [← Nat.add_assoc x.off, ← Nat.sub_sub] at cx
    exact cx
  have c0 : w.cell? ⟨x.g, x.off + s, none⟩ = some (.int .u8 60) := by
    have := hc 0 (by omega)
    rw [Nat.add_zero, Nat.add_zero, h0] at this
    exact this
  have c1 := hc 1 (by rcases hq with ⟨rfl, _⟩ | ⟨rfl, _⟩ <;> omega)
  obtain ⟨y1, hy1⟩ : ∃ y, y = x.D.getD (s + 1) 0 := ⟨_, rfl⟩
  rw [← hy1] at c1 hq
  have hf := h1 0 ha
  rw [Nat.add_zero] at hf
  have cq := hc q (by omega)
  obtain ⟨y, hy⟩ : ∃ y, y = x.D.getD (s + q) 0 := ⟨_, rfl⟩
  rw [← hy] at cq hf
  have CA := Lib.hid (fun w => aln78 y w)
  rw [hf] at CA
  have ca := hc (q + a) (by omega)
  obtain ⟨v, hv⟩ : ∃ v, v = x.D.getD (s + (q + a)) 0 := ⟨_, rfl⟩
  rw [← hv] at ca h2
  obtain ⟨r1, r2, r3, r4, r5, r6⟩ := h2
  have v46 : ((v.toNat : Int) == 46) = false := beq_no (k := 46) r2
  have v43 : ((v.toNat : Int) == 43) = false := beq_no (k := 43) r3
  have v45 : ((v.toNat : Int) == 45) = false := beq_no (k := 45) r4
  have v64 : ((v.toNat : Int) == 64) = false := beq_no (k := 64) r5
  have v58 : ((v.toNat : Int) == 58) = false := beq_no (k := 58) r6
  have CV := Lib.hid (fun w => aln78 v w)
  rw [r1] at CV
  have HC := Lib.hid hc
  have H1 := Lib.hid h1
  have hd0 : decide (0 < n - s) = true := decide_eq_true (by omega)
  clear hc h0 h1 h3 h4 hi hn hy hf cx hRd hix hv r1 r2 r3 r4 r5 r6 hy1
  rcases hq with ⟨rfl, hq⟩ | ⟨rfl, hq⟩
  · have b47 : ((y1.toNat : Int) == 47) = false := beq_no (k := 47) hq
    have ey : y1 = y := by
      have := c1.symm.trans cq
      injection this with this
      injection this with _ this
      exact UInt8.toNat_inj.mp (by omega)
    subst ey
    clear hq cq
    go_enter Tryz.func72, Tryz.ntmps72
    go_wp2_with (go_at_call 78; refine (CA.out _).mono ?_; rintro r w' ⟨rfl, rfl⟩)
    go_loopg [4] (a + 1) (fun q v4 wr => ∃ j : Nat, v4 = .int .i64 ((1 + j : Nat) : Int) ∧ q + j = a + 1 ∧ j ≤ a ∧ w = wr)
    case atStart => exact ⟨0, rfl, by omega, by omega, rfl⟩
    case round =>
      obtain ⟨j, rfl, hq, hj, rfl⟩ := hrel
      have HQ := Lib.hid hq
      clear hq
      by_cases hja : j < a
      · have c2 := HC.out (1 + j) (by omega)
        rw [← Nat.add_assoc s 1 j] at c2
        have hl := H1.out j hja
        obtain ⟨z, hz⟩ : ∃ z, z = x.D.getD (s + 1 + j) 0 := ⟨_, rfl⟩
        rw [← hz] at c2 hl
        have CB := Lib.hid (fun w => aln78 z w)
        rw [hl] at CB
        clear hz hl
        go_wp2_with (go_at_call 78; refine (CB.out _).mono ?_; rintro r w' ⟨rfl, rfl⟩)
        go_roundg (a - j)
        case measure => have := HQ.out; omega
        case rel => exact ⟨j + 1, by go_num, by omega, by omega, rfl⟩
      · obtain rfl : j = a := by omega
        go_wp2_with (first
          | (go_at_call 78; refine (CV.out _).mono ?_; rintro r w' ⟨rfl, rfl⟩)
          | (go_at_call 76; refine CX.out.mono ?_; rintro r w' ⟨rfl, rfl⟩))
        all_goals
          go_ret2
          exact ⟨ret_two (by omega), rfl⟩
  · subst hq
    have c1' : w.cell? ⟨x.g, x.off + s + 1, none⟩ = some (.int .u8 47) := c1
    clear c1
    go_enter Tryz.func72, Tryz.ntmps72
    go_wp2_with (go_at_call 78; refine (CA.out _).mono ?_; rintro r w' ⟨rfl, rfl⟩)
    go_loopg [4] (a + 1) (fun q v4 wr => ∃ j : Nat, v4 = .int .i64 ((2 + j : Nat) : Int) ∧ q + j = a + 1 ∧ j ≤ a ∧ w = wr)
    case atStart => exact ⟨0, rfl, by omega, by omega, rfl⟩
    case round =>
      obtain ⟨j, rfl, hq, hj, rfl⟩ := hrel
      have HQ := Lib.hid hq
      clear hq
      by_cases hja : j < a
      · have c2 := HC.out (2 + j) (by omega)
        rw [← Nat.add_assoc s 2 j] at c2
        have hl := H1.out j hja
        obtain ⟨z, hz⟩ : ∃ z, z = x.D.getD (s + 2 + j) 0 := ⟨_, rfl⟩
        rw [← hz] at c2 hl
        have CB := Lib.hid (fun w => aln78 z w)
        rw [hl] at CB
        clear hz hl
        go_wp2_with (go_at_call 78; refine (CB.out _).mono ?_; rintro r w' ⟨rfl, rfl⟩)
        go_roundg (a - j)
        case measure => have := HQ.out; omega
        case rel => exact ⟨j + 1, by go_num, by omega, by omega, rfl⟩
      · obtain rfl : j = a := by omega
        go_wp2_with (first
          | (go_at_call 78; refine (CV.out _).mono ?_; rintro r w' ⟨rfl, rfl⟩)
          | (go_at_call 76; refine CX.out.mono ?_; rintro r w' ⟨rfl, rfl⟩))
        all_goals
          go_ret2
          exact ⟨ret_two (by omega), rfl⟩

set_option maxRecDepth 100000 in
set_option maxHeartbeats 4000000 in
theorem lt_quiet (x : Ctx) (k : Nat) (ins : Bool) (e : Nat) (he : e < x.D.length) (h0 : x.D.getD e 0 = 60) (h1 : e + 1 < x.D.length → x.D.getD (e + 1) 0 = 32) (w : World) (hi : x.inv k ins w) :
    Calls Tryz.prog 51 #[ptr x.M, x.val, .int .i64 e] w fun r w' => (∃ v, r = .returned (.tuple #[.int .i64 0, v])) ∧ Below w.heap.size w w' := by
  have hcap := hi.2.2.2.1
  have hcap2 := hi.2.2.2.2
  have C72 := Lib.hid (tag_no x k ins e he h0 (fun h => by rw [h1 h]; exact ⟨by decide, by decide⟩) w hi)
  have C73 := Lib.hid (com_no x k ins e he h0 (fun h => by rw [h1 h]; decide) w hi)
  unfold Ctx.val
  obtain ⟨n, hn⟩ : ∃ n, n = x.D.length := ⟨_, rfl⟩
  rw [← hn] at he hcap C72 C73 ⊢
  clear hi hn h0 h1
  go_enter Tryz.func51, Tryz.ntmps51
  go_wp2_with (first
    | (go_at_call 72; refine C72.out.mono ?_; rintro r w' ⟨rfl, rfl⟩)
    | (go_at_call 73; refine C73.out.mono ?_; rintro r w' ⟨rfl, rfl⟩))
  go_ret2
  exact ⟨⟨_, rfl⟩, Below.refl _ _⟩

set_option maxRecDepth 100000 in
set_option maxHeartbeats 4000000 in
/-- What is between angle brackets stays as it is. -/
theorem lt_span (x : Ctx) (k : Nat) (ins : Bool) (e m p2 p3 : Nat) (l : Bs) (hm : 2 < m) (hcase : (p2 = m ∧ p3 = 0) ∨ (p2 = 0 ∧ p3 = m)) (he : e + m ≤ x.D.length) (h0 : x.D.getD e 0 = 60) (hl : (x.D.drop e).take m = l)
    (c72 : ∀ w, x.inv k ins w → Calls Tryz.prog 72 #[.slice (some ⟨x.g, x.off + e, none⟩) (x.D.length - e) (x.cap - e)] w fun r w' => r = .returned (.tuple #[.int .i64 0, .int .i64 (p2 : Nat)]) ∧ w = w')
    (c73 : ∀ w, x.inv k ins w → Calls Tryz.prog 73 #[ptr x.M, .slice (some ⟨x.g, x.off + e, none⟩) (x.D.length - e) (x.cap - e)] w fun r w' => r = .returned (.int .i64 (p3 : Nat)) ∧ w = w') :
    Takes x k ins e m (some (G.one 18 (some l) none none .nil)) := by
  refine ⟨51, by rw [h0]; rfl, fun w hi => ?_⟩
  have hcap := hi.2.2.2.1
  have hcap2 := hi.2.2.2.2
  have C72 := Lib.hid (c72 w hi)
  have C73 := Lib.hid (c73 w hi)
  have fin : ∀ (w4 : World) (c' : Nat) (r' : Int), c' = x.cap - e → r' = (m : Int) → NodeIs w4 w.heap.size (nodeArr 18 nilP nilP nilP nilP nilP (.slice (some ⟨x.g, x.off + e, none⟩) m c') nilS nilS) → Below w.heap.size w w4 → Took w m (some (G.one 18 (some l) none none .nil)) (.returned (.tuple #[.int .i64 r', ptr w.heap.size])) w4 := by
    rintro w4 c' r' rfl rfl h2 h3
    exact ⟨h3, _, rfl, lit_one (hi.below h3) (Nat.le_refl _) he hl h2⟩
  have FIN := Lib.hid fin
  unfold Ctx.val
  obtain ⟨n, hn⟩ : ∃ n, n = x.D.length := ⟨_, rfl⟩
  rw [← hn] at he hcap C72 C73 ⊢
  have CN := Lib.hid (fun w => new39 18 w)
  clear hi hn h0 hl c72 c73 fin
  rcases hcase with ⟨rfl, rfl⟩ | ⟨rfl, rfl⟩
  · go_enter Tryz.func51, Tryz.ntmps51
    go_wp2_with (first
      | (go_at_call 72; refine C72.out.mono ?_; rintro r w' ⟨rfl, rfl⟩)
      | (go_at_call 73; refine C73.out.mono ?_; rintro r w' ⟨rfl, rfl⟩)
      | (go_at_call 39; refine (CN.out _).mono ?_; rintro r w1 ⟨rfl, hn, hb, -⟩; have hc6 := hn.cell 6; have hf6 := hn.free 6; have HNN := Lib.hid hn; have HB1 := Lib.hid hb; clear hn hb; obtain ⟨u, hu⟩ : ∃ u, w1.cell? ⟨w.heap.size, 6, none⟩ = some u := ⟨_, hc6⟩; clear hc6))
    go_ret2
    exact FIN.out _ _ _ (by omega) (by omega) (HNN.out.set 6 _) (HB1.out.setCell (Nat.le_refl _) _)
  · have hp : 0 < (p3 : Int) := by omega
    go_enter Tryz.func51, Tryz.ntmps51
    go_wp2_with (first
      | (go_at_call 72; refine C72.out.mono ?_; rintro r w' ⟨rfl, rfl⟩)
      | (go_at_call 73; refine C73.out.mono ?_; rintro r w' ⟨rfl, rfl⟩)
      | (go_at_call 39; refine (CN.out _).mono ?_; rintro r w1 ⟨rfl, hn, hb, -⟩; have hc6 := hn.cell 6; have hf6 := hn.free 6; have HNN := Lib.hid hn; have HB1 := Lib.hid hb; clear hn hb; obtain ⟨u, hu⟩ : ∃ u, w1.cell? ⟨w.heap.size, 6, none⟩ = some u := ⟨_, hc6⟩; clear hc6))
    go_ret2
    exact FIN.out _ _ _ (by omega) (by omega) (HNN.out.set 6 _) (HB1.out.setCell (Nat.le_refl _) _)

/-! ### mail -/
def m9L : Bs := [109, 97, 105, 108, 116, 111, 58, 47, 47]
def m7L : Bs := [109, 97, 105, 108, 116, 111, 58]
theorem pre93 {w : World} {g g2 : Nat} {l p : Bs} {c d : Nat} (h1 : RdO w g 0 l) (h2 : RdO w g2 0 p) (hc : l.length ≤ c) : Calls Tryz.prog 93 #[.slice (some ⟨g, 0, none⟩) l.length c, .slice (some ⟨g2, 0, none⟩) p.length d] w fun e w' => e = .returned (.bool (p.isPrefixOf l)) ∧ w' = w := by
  have hb : ∀ (g : Nat) (l : Bs), RdO w g 0 l → Lib.BytesIn w (some ⟨g, 0, none⟩) l.length (l.map fun b => (b.toNat : Int)) := fun g l h _ => ⟨g, 0, rfl, fun i hi => by
    rw [h i hi]
    simp [List.getD_eq_getElem?_getD, List.getElem?_eq_getElem hi]⟩
  have := Tryz.bytes_HasPrefix_all (some ⟨g, 0, none⟩) (some ⟨g2, 0, none⟩) l.length c p.length d (l.map fun b => (b.toNat : Int)) (p.map fun b => (b.toNat : Int)) w (by simp) (by simp) hc (hb g l h1) (hb g2 p h2)
  rw [bytesOf_map, bytesOf_map] at this
  exact this

/-- stripMailto: the slice is cut, or it stays. -/
theorem rd_const' (W : World) (l : Bs) (fr : Nat × Nat) (g c : Nat) (l0 : Bs) (h : RdO W g 0 l0) (hg : g < W.heap.size) (hc : l0.length ≤ c) :
    Calls Tryz.prog 93 #[.slice (some ⟨g, 0, none⟩) l0.length c, .slice (some ⟨W.heap.size, 0, none⟩) l.length l.length] (W.alloc (.cells (cellsB l).toArray 5 fr)) fun e w' => e = .returned (.bool (l.isPrefixOf l0)) ∧ w' = (W.alloc (.cells (cellsB l).toArray 5 fr)) := by
  obtain ⟨hb, g2, C, fz, hv, hg2, hh, hr⟩ := rd_const W l fr
  injection hv with hv
  injection hv with hv
  injection hv with hv
  subst hv
  exact pre93 (rdO_below h hb hg) hr hc
set_option maxRecDepth 100000 in
set_option maxHeartbeats 4000000 in
theorem strip75 (g c : Nat) (l : Bs) (w : World) (hR : RdO w g 0 l) (hg : g < w.heap.size) (hc : l.length ≤ c) (hl : m7L.isPrefixOf l = true → 8 ≤ l.length) (hcm : c ≤ 9223372036854775807) (h9 : m9L.isPrefixOf l = false) :
    Calls Tryz.prog 75 #[.slice (some ⟨g, 0, none⟩) l.length c] w fun e w' => Below w.heap.size w w' ∧ (if m7L.isPrefixOf l = true then e = .returned (.slice (some ⟨g, 7, none⟩) (l.length - 7) (c - 7)) else e = .returned (.slice (some ⟨g, 0, none⟩) l.length c)) := by
  have hcv : ∀ (w : World) (C : Array Value) (n c : Nat), (convert 34 34 (.slice (some ⟨w.heap.size, 0, none⟩) n c)).run Tryz.prog (w.alloc (.cells C 5)) = .ok (.slice (some ⟨w.heap.size, 0, none⟩) n c) (w.alloc (.cells C 5 (C.size, C.size + 1))) := fun w C n c => Lib.run_convert_bytes_const w 34 5 C n c Tryz.underlying34 Tryz.underlying5
  have hcv2 : ∀ (w : World) (o : Obj) (C : Array Value) (n c : Nat), (convert 34 34 (.slice (some ⟨w.heap.size + 1, 0, none⟩) n c)).run Tryz.prog ((w.alloc o).alloc (.cells C 5)) = .ok (.slice (some ⟨w.heap.size + 1, 0, none⟩) n c) ((w.alloc o).alloc (.cells C 5 (C.size, C.size + 1))) := fun w o C n c => by
    have := hcv (w.alloc o) C n c
    rw [alloc_size] at this
    exact this
  have q9 : ∀ fr, Calls Tryz.prog 93 #[.slice (some ⟨g, 0, none⟩) l.length c, .slice (some ⟨w.heap.size, 0, none⟩) 9 9] (w.alloc (.cells #[.int .u8 109, .int .u8 97, .int .u8 105, .int .u8 108, .int .u8 116, .int .u8 111, .int .u8 58, .int .u8 47, .int .u8 47] 5 fr)) fun e w' => e = .returned (.bool false) ∧ w' = (w.alloc (.cells #[.int .u8 109, .int .u8 97, .int .u8 105, .int .u8 108, .int .u8 116, .int .u8 111, .int .u8 58, .int .u8 47, .int .u8 47] 5 fr)) := fun fr => by
    have := rd_const' w m9L fr g c l hR hg hc
    rw [h9] at this
    exact this
  obtain ⟨b, hb⟩ : ∃ b, b = m7L.isPrefixOf l := ⟨_, rfl⟩
  have q7 : ∀ fr fr', Calls Tryz.prog 93 #[.slice (some ⟨g, 0, none⟩) l.length c, .slice (some ⟨w.heap.size + 1, 0, none⟩) 7 7] ((w.alloc (.cells #[.int .u8 109, .int .u8 97, .int .u8 105, .int .u8 108, .int .u8 116, .int .u8 111, .int .u8 58, .int .u8 47, .int .u8 47] 5 fr)).alloc (.cells #[.int .u8 109, .int .u8 97, .int .u8 105, .int .u8 108, .int .u8 116, .int .u8 111, .int .u8 58] 5 fr')) fun e w' => e = .returned (.bool b) ∧ w' = ((w.alloc (.cells #[.int .u8 109, .int .u8 97, .int .u8 105, .int .u8 108, .int .u8 116, .int .u8 111, .int .u8 58, .int .u8 47, .int .u8 47] 5 fr)).alloc (.cells #[.int .u8 109, .int .u8 97, .int .u8 105, .int .u8 108, .int .u8 116, .int .u8 111, .int .u8 58] 5 fr')) := fun fr fr' => by
    have hb1 : Below w.heap.size w (w.alloc (.cells #[.int .u8 109, .int .u8 97, .int .u8 105, .int .u8 108, .int .u8 116, .int .u8 111, .int .u8 58, .int .u8 47, .int .u8 47] 5 fr)) := (Below.refl _ w).alloc (Nat.le_refl _) _
    have := rd_const' (w.alloc (.cells #[.int .u8 109, .int .u8 97, .int .u8 105, .int .u8 108, .int .u8 116, .int .u8 111, .int .u8 58, .int .u8 47, .int .u8 47] 5 fr)) m7L fr' g c l (rdO_below hR hb1 hg) (by rw [alloc_size]; omega) hc
    rw [← hb, alloc_size] at this
    exact this
  rw [← hb] at hl
  rw [← hb]
  have Q9 := Lib.hid q9
  have Q7 := Lib.hid q7
  obtain ⟨n, hn⟩ : ∃ n, n = l.length := ⟨_, rfl⟩
  rw [← hn] at Q9 Q7 hl hc ⊢
  have tok : True := trivial
  clear hb h9 hR q9 q7 hn
  cases b with
  | true =>
    simp only [↓reduceIte]
    have hl2 := hl rfl
    have hc8 : ¬ c = 7 := by omega
    clear hl
    go_enter Tryz.func75, Tryz.ntmps75
    go_wp2_with (first
      | (clear tok; go_at_call 93; refine (Q9.out _).mono ?_; rintro r w' ⟨rfl, rfl⟩)
      | (go_at_call 93; refine (Q7.out _ _).mono ?_; rintro r w' ⟨rfl, rfl⟩))
    go_ret
    exact ⟨((Below.refl _ w).alloc (Nat.le_refl _) _).alloc (by rw [alloc_size]; omega) _, rfl⟩
  | false =>
    simp only [Bool.false_eq_true, ↓reduceIte]
    clear hl
    go_enter Tryz.func75, Tryz.ntmps75
    go_wp2_with (first
      | (clear tok; go_at_call 93; refine (Q9.out _).mono ?_; rintro r w' ⟨rfl, rfl⟩)
      | (go_at_call 93; refine (Q7.out _ _).mono ?_; rintro r w' ⟨rfl, rfl⟩))
    go_ret
    exact ⟨((Below.refl _ w).alloc (Nat.le_refl _) _).alloc (by rw [alloc_size]; omega) _, rfl⟩
end Go.Proofs.YtalajbfpilhfgaaGreatDoor
