/-
  FnInlineAlone: links and images as pieces of a line.
  FnInlineAlone: links and images run as they are meant.
-/
import Derived.Test.YtalajbfpilhfgaaGreatDoorK11
import Derived.Test.YtalajbfpilhfgaaGreatDoorK12
import Derived.Test.YtalajbfpilhfgaaGreatDoorK13
import Derived.Test.YtalajbfpilhfgaaGreatDoorK14
import Derived.Test.YtalajbfpilhfgaaGreatDoorK15
import Derived.Test.YtalajbfpilhfgaaGreatDoorK16
import Derived.Test.YtalajbfpilhfgaaGreatDoorK17
import Derived.Test.YtalajbfpilhfgaaGreatDoorK43
set_option linter.unusedVariables false
set_option linter.unusedSimpArgs false
namespace Go.Proofs.YtalajbfpilhfgaaGreatDoor
open Go.RowKit

theorem tok_ne {c k : UInt8} (h : tOk c = true) (hk : tOk k = false) : c ≠ k := by
  rintro rfl
  rw [h] at hk; cases hk
theorem tok_sp {c : UInt8} (h : tOk c = true) : isSp c = false := by
  have e1 := tok_ne h (k := 32) (by decide)
  have e2 := tok_ne h (k := 9) (by decide)
  have e3 := tok_ne h (k := 10) (by decide)
  have e4 := tok_ne h (k := 13) (by decide)
  have e5 := tok_ne h (k := 12) (by decide)
  have e6 := tok_ne h (k := 11) (by decide)
  have f : ∀ k : UInt8, c ≠ k → (c.toNat == k.toNat) = false := fun k hk => by
    simp only [beq_eq_false_iff_ne, ne_eq]
    exact fun h => hk (UInt8.toNat_inj.1 h)
  have g1 := f _ e1
  have g2 := f _ e2
  have g3 := f _ e3
  have g4 := f _ e4
  have g5 := f _ e5
  have g6 := f _ e6
  simp only [isSp, isHs, isVs]
  show ((c.toNat == 32 || c.toNat == 9) || (c.toNat == 10 || c.toNat == 13 || c.toNat == 12 || c.toNat == 11)) = false
  rw [show (c.toNat == 32) = false from g1, show (c.toNat == 9) = false from g2, show (c.toNat == 10) = false from g3, show (c.toNat == 13) = false from g4, show (c.toNat == 12) = false from g5, show (c.toNat == 11) = false from g6]
  rfl
theorem tok_q {c : UInt8} (h : tOk c = true) : c ≠ 92 ∧ c ≠ 41 ∧ c ≠ 39 ∧ c ≠ 34 := ⟨tok_ne h (by decide), tok_ne h (by decide), tok_ne h (by decide), tok_ne h (by decide)⟩
theorem brk_flat {D : Bs} {e : Nat} {ct r : Bs} (h : At D e (91 :: (ct ++ (93 :: 40 :: r)))) (hp : 0 < ct.length) (hc : ∀ c ∈ ct, c ≠ 10 ∧ c ≠ 92 ∧ c ≠ 91 ∧ c ≠ 93) : Brk D e (ct.length + 1) (fun _ => 1) where
  at1 := rfl
  ata := rfl
  pos := by omega
  le := fun _ => by decide
  open' := h.head
  step := fun j h1 h2 => by
    have hg : D.getD (e + j) 0 = ct.getD (j - 1) 0 := by rw [← h.tail.left.1 (j - 1) (by omega), show e + 1 + (j - 1) = e + j from by omega]
    rw [hg]
    have := hc _ (mem_at (show j - 1 < ct.length by omega))
    exact ⟨by decide, by decide, this.1, this.2.1, .inr (.inr ⟨this.2.2.1, this.2.2.2, rfl⟩)⟩
  close := by rw [show e + (ct.length + 1) = e + 1 + ct.length from by omega]; exact h.tail.right.head
  paren := by rw [show e + (ct.length + 1) + 1 = e + 1 + ct.length + 1 from by omega]; exact h.tail.right.tail.head
theorem lk0 {D : Bs} {s bl q : Nat} {ct b : Bs} (h : At D s (91 :: (ct ++ (93 :: 40 :: (List.replicate bl 32 ++ (b ++ (List.replicate bl 32 ++ [41]))))))) (hb : Target b) (hq : q = ct.length + 3 + bl + b.length + bl) :
    s + q < D.length ∧ (∀ j, j < bl → isSp (D.getD (s + (ct.length + 1 + 2 + j)) 0) = true) ∧ (isSp (D.getD (s + (ct.length + 1 + 2 + bl)) 0) = false ∧ D.getD (s + (ct.length + 1 + 2 + bl)) 0 ≠ 60) ∧
    (∀ j, j < q - (ct.length + 1 + 2 + bl) → D.getD (s + (ct.length + 1 + 2 + bl + j)) 0 ≠ 92 ∧ D.getD (s + (ct.length + 1 + 2 + bl + j)) 0 ≠ 41 ∧ D.getD (s + (ct.length + 1 + 2 + bl + j)) 0 ≠ 39 ∧ D.getD (s + (ct.length + 1 + 2 + bl + j)) 0 ≠ 34) ∧
    D.getD (s + q) 0 = 41 ∧ ct.length + 1 + 2 + bl + bl < q ∧ (∀ j, j < bl → isSp (D.getD (s + (q - 1 - j)) 0) = true) ∧ (isSp (D.getD (s + (q - 1 - bl)) 0) = false ∧ D.getD (s + (q - 1 - bl)) 0 ≠ 62) ∧
    (D.drop (s + (ct.length + 1 + 2 + bl))).take (q - bl - (ct.length + 1 + 2 + bl)) = b := by
  have hR := h.tail.right.tail.tail
  have a1 := hR.left
  have a2 := hR.right.left
  have a3 := hR.right.right.left
  have a4 := hR.right.right.right.head
  have h2 := h.2
  have hp := hb.pos
  simp only [List.length_cons, List.length_append, List.length_nil, List.length_replicate] at *
  have g1 : ∀ j, j < bl → D.getD (s + (ct.length + 1 + 2 + j)) 0 = 32 := fun j hj => by
    rw [show s + (ct.length + 1 + 2 + j) = s + 1 + ct.length + 1 + 1 + j from by omega]; exact (a1.1 j (by simpa using hj)).trans (rep_get hj)
  have g2 : ∀ j, j < b.length → D.getD (s + (ct.length + 1 + 2 + bl + j)) 0 = b.getD j 0 := fun j hj => by
    rw [show s + (ct.length + 1 + 2 + bl + j) = s + 1 + ct.length + 1 + 1 + bl + j from by omega]; exact a2.1 j hj
  have g3 : ∀ j, j < bl → D.getD (s + (ct.length + 1 + 2 + bl + (b.length + j))) 0 = 32 := fun j hj => by
    rw [show s + (ct.length + 1 + 2 + bl + (b.length + j)) = s + 1 + ct.length + 1 + 1 + bl + b.length + j from by omega]; exact (a3.1 j (by simpa using hj)).trans (rep_get hj)
  have t : ∀ j, j < b.length → tOk (b.getD j 0) = true := fun j hj => hb.all _ (mem_at hj)
  have g20 := g2 0 hp
  rw [Nat.add_zero] at g20
  refine ⟨by omega, fun j hj => by rw [g1 j hj]; rfl, by rw [g20]; exact ⟨tok_sp (t 0 hp), tok_ne (t 0 hp) (by decide)⟩, fun j hj => ?_, ?_, by omega, fun j hj => ?_, ?_, ?_⟩
  · by_cases j1 : j < b.length
    · rw [g2 j j1]; exact tok_q (t j j1)
    · obtain ⟨i, rfl⟩ : ∃ i, j = b.length + i := ⟨j - b.length, by omega⟩
      rw [g3 i (by omega)]; decide
  · rw [show s + q = s + 1 + ct.length + 1 + 1 + bl + b.length + bl from by omega]; exact a4
  · rw [show q - 1 - j = ct.length + 1 + 2 + bl + (b.length + (bl - 1 - j)) from by omega, g3 _ (by omega)]; rfl
  · rw [show q - 1 - bl = ct.length + 1 + 2 + bl + (b.length - 1) from by omega, g2 _ (by omega)]
    exact ⟨tok_sp (t _ (by omega)), tok_ne (t _ (by omega)) (by decide)⟩
  · rw [show q - bl - (ct.length + 1 + 2 + bl) = b.length from by omega, show s + (ct.length + 1 + 2 + bl) = s + 1 + ct.length + 1 + 1 + bl from by omega]
    exact a2.text
theorem lkT {D : Bs} {s q r : Nat} {ct b c : Bs} {qc : UInt8} (hqc : qc = 34 ∨ qc = 39) (h : At D s (91 :: (ct ++ (93 :: 40 :: (b ++ (32 :: qc :: (c ++ [qc, 41]))))))) (hb : Target b) (hc : Words c) (hq : q = ct.length + 3 + b.length + 1) (hr : r = q + c.length + 2) :
    s + r < D.length ∧ (∀ j, j < 0 → isSp (D.getD (s + (ct.length + 1 + 2 + j)) 0) = true) ∧ (isSp (D.getD (s + (ct.length + 1 + 2 + 0)) 0) = false ∧ D.getD (s + (ct.length + 1 + 2 + 0)) 0 ≠ 60) ∧
    (∀ j, j < q - (ct.length + 1 + 2 + 0) → D.getD (s + (ct.length + 1 + 2 + 0 + j)) 0 ≠ 92 ∧ D.getD (s + (ct.length + 1 + 2 + 0 + j)) 0 ≠ 41 ∧ D.getD (s + (ct.length + 1 + 2 + 0 + j)) 0 ≠ 39 ∧ D.getD (s + (ct.length + 1 + 2 + 0 + j)) 0 ≠ 34) ∧
    D.getD (s + q) 0 = qc ∧ ct.length + 1 + 2 + 0 + 1 + 0 < q ∧ (∀ j, j < r - (q + 1) → D.getD (s + (q + 1 + j)) 0 ≠ 92 ∧ D.getD (s + (q + 1 + j)) 0 ≠ 41) ∧ D.getD (s + r) 0 = 41 ∧ q + 2 < r ∧ D.getD (s + (r - 1)) 0 = qc ∧ (D.drop (s + (q + 1))).take (r - 1 - (q + 1)) = c ∧
    (∀ j, j < 1 → isSp (D.getD (s + (q - 1 - j)) 0) = true) ∧ (isSp (D.getD (s + (q - 1 - 1)) 0) = false ∧ D.getD (s + (q - 1 - 1)) 0 ≠ 62) ∧
    (D.drop (s + (ct.length + 1 + 2 + 0))).take ((q - 1) - (ct.length + 1 + 2 + 0)) = b := by
  have hR := h.tail.right.tail.tail
  have a2 := hR.left
  have a3 := hR.right.head
  have a4 := hR.right.tail.head
  have a5 := hR.right.tail.tail.left
  have a6 := hR.right.tail.tail.right.head
  have a7 := hR.right.tail.tail.right.tail.head
  have h2 := h.2
  have hp := hb.pos
  have hcp := hc.pos
  simp only [List.length_cons, List.length_append, List.length_nil] at *
  have g2 : ∀ j, j < b.length → D.getD (s + (ct.length + 1 + 2 + 0 + j)) 0 = b.getD j 0 := fun j hj => by
    rw [show s + (ct.length + 1 + 2 + 0 + j) = s + 1 + ct.length + 1 + 1 + j from by omega]; exact a2.1 j hj
  have g3 : D.getD (s + (ct.length + 1 + 2 + 0 + b.length)) 0 = 32 := by
    rw [show s + (ct.length + 1 + 2 + 0 + b.length) = s + 1 + ct.length + 1 + 1 + b.length from by omega]; exact a3
  have g5 : ∀ j, j < c.length → D.getD (s + (q + 1 + j)) 0 = c.getD j 0 := fun j hj => by
    rw [show s + (q + 1 + j) = s + 1 + ct.length + 1 + 1 + b.length + 1 + 1 + j from by omega]; exact a5.1 j hj
  have g6 : D.getD (s + (q + 1 + c.length)) 0 = qc := by
    rw [show s + (q + 1 + c.length) = s + 1 + ct.length + 1 + 1 + b.length + 1 + 1 + c.length from by omega]; exact a6
  have t : ∀ j, j < b.length → tOk (b.getD j 0) = true := fun j hj => hb.all _ (mem_at hj)
  have g20 := g2 0 hp
  rw [Nat.add_zero (ct.length + 1 + 2 + 0)] at g20
  refine ⟨by omega, fun j hj => absurd hj (Nat.not_lt_zero _), by rw [g20]; exact ⟨tok_sp (t 0 hp), tok_ne (t 0 hp) (by decide)⟩, fun j hj => ?_, ?_, by omega, fun j hj => ?_, ?_, by omega, ?_, ?_, fun j hj => ?_, ?_, ?_⟩
  · by_cases j1 : j < b.length
    · rw [g2 j j1]; exact tok_q (t j j1)
    · obtain rfl : j = b.length := by omega
      rw [g3]; decide
  · rw [show s + q = s + 1 + ct.length + 1 + 1 + b.length + 1 from by omega]; exact a4
  · by_cases j1 : j < c.length
    · rw [g5 j j1]; exact ⟨wd_ne (hc.wd _ (mem_at j1)) rfl, wd_ne (hc.wd _ (mem_at j1)) rfl⟩
    · obtain rfl : j = c.length := by omega
      rw [g6]
      rcases hqc with rfl | rfl <;> decide
  · rw [show s + r = s + 1 + ct.length + 1 + 1 + b.length + 1 + 1 + c.length + 1 from by omega]; exact a7
  · rw [show r - 1 = q + 1 + c.length from by omega]; exact g6
  · rw [show r - 1 - (q + 1) = c.length from by omega, show s + (q + 1) = s + 1 + ct.length + 1 + 1 + b.length + 1 + 1 from by omega]
    exact a5.text
  · obtain rfl : j = 0 := by omega
    rw [show q - 1 - 0 = ct.length + 1 + 2 + 0 + b.length from by omega, g3]; rfl
  · rw [show q - 1 - 1 = ct.length + 1 + 2 + 0 + (b.length - 1) from by omega, g2 _ (by omega)]
    exact ⟨tok_sp (t _ (by omega)), tok_ne (t _ (by omega)) (by decide)⟩
  · rw [show q - 1 - (ct.length + 1 + 2 + 0) = b.length from by omega, show s + (ct.length + 1 + 2 + 0) = s + 1 + ct.length + 1 + 1 from by omega]
    exact a2.text
theorem lkA {D : Bs} {s q r : Nat} {ct b c : Bs} (h : At D s (91 :: (ct ++ (93 :: 40 :: 60 :: (b ++ (62 :: 32 :: 34 :: (c ++ [34, 41]))))))) (hb : Target b) (hc : Words c) (hq : q = ct.length + 3 + b.length + 3) (hr : r = q + c.length + 2) :
    s + r < D.length ∧ (∀ j, j < 0 → isSp (D.getD (s + (ct.length + 1 + 2 + j)) 0) = true) ∧ (isSp (D.getD (s + (ct.length + 1 + 2 + 0)) 0) = false ∧ D.getD (s + (ct.length + 1 + 2 + 0)) 0 = 60) ∧
    (∀ j, j < q - (ct.length + 1 + 2 + 0) → D.getD (s + (ct.length + 1 + 2 + 0 + j)) 0 ≠ 92 ∧ D.getD (s + (ct.length + 1 + 2 + 0 + j)) 0 ≠ 41 ∧ D.getD (s + (ct.length + 1 + 2 + 0 + j)) 0 ≠ 39 ∧ D.getD (s + (ct.length + 1 + 2 + 0 + j)) 0 ≠ 34) ∧
    D.getD (s + q) 0 = 34 ∧ ct.length + 1 + 2 + 0 + 1 + 2 < q ∧ (∀ j, j < r - (q + 1) → D.getD (s + (q + 1 + j)) 0 ≠ 92 ∧ D.getD (s + (q + 1 + j)) 0 ≠ 41) ∧ D.getD (s + r) 0 = 41 ∧ q + 2 < r ∧ D.getD (s + (r - 1)) 0 = 34 ∧ (D.drop (s + (q + 1))).take (r - 1 - (q + 1)) = c ∧
    (∀ j, j < 1 → isSp (D.getD (s + (q - 1 - j)) 0) = true) ∧ (isSp (D.getD (s + (q - 1 - 1)) 0) = false ∧ D.getD (s + (q - 1 - 1)) 0 = 62) ∧
    (D.drop (s + (ct.length + 1 + 2 + 0 + 1))).take ((q - 1 - 1) - (ct.length + 1 + 2 + 0 + 1)) = b := by
  have hR := h.tail.right.tail.tail
  have a1 := hR.head
  have a2 := hR.tail.left
  have hS := hR.tail.right
  have a3 := hS.head
  have a3' := hS.tail.head
  have a4 := hS.tail.tail.head
  have a5 := hS.tail.tail.tail.left
  have a6 := hS.tail.tail.tail.right.head
  have a7 := hS.tail.tail.tail.right.tail.head
  have h2 := h.2
  have hp := hb.pos
  have hcp := hc.pos
  simp only [List.length_cons, List.length_append, List.length_nil] at *
  have g1 : D.getD (s + (ct.length + 1 + 2 + 0)) 0 = 60 := by
    rw [show s + (ct.length + 1 + 2 + 0) = s + 1 + ct.length + 1 + 1 from by omega]; exact a1
  have g2 : ∀ j, j < b.length → D.getD (s + (ct.length + 1 + 2 + 0 + (j + 1))) 0 = b.getD j 0 := fun j hj => by
    rw [show s + (ct.length + 1 + 2 + 0 + (j + 1)) = s + 1 + ct.length + 1 + 1 + 1 + j from by omega]; exact a2.1 j hj
  have g3 : D.getD (s + (ct.length + 1 + 2 + 0 + (b.length + 1))) 0 = 62 := by
    rw [show s + (ct.length + 1 + 2 + 0 + (b.length + 1)) = s + 1 + ct.length + 1 + 1 + 1 + b.length from by omega]; exact a3
  have g3' : D.getD (s + (ct.length + 1 + 2 + 0 + (b.length + 2))) 0 = 32 := by
    rw [show s + (ct.length + 1 + 2 + 0 + (b.length + 2)) = s + 1 + ct.length + 1 + 1 + 1 + b.length + 1 from by omega]; exact a3'
  have g5 : ∀ j, j < c.length → D.getD (s + (q + 1 + j)) 0 = c.getD j 0 := fun j hj => by
    rw [show s + (q + 1 + j) = s + 1 + ct.length + 1 + 1 + 1 + b.length + 1 + 1 + 1 + j from by omega]; exact a5.1 j hj
  have g6 : D.getD (s + (q + 1 + c.length)) 0 = 34 := by
    rw [show s + (q + 1 + c.length) = s + 1 + ct.length + 1 + 1 + 1 + b.length + 1 + 1 + 1 + c.length from by omega]; exact a6
  have t : ∀ j, j < b.length → tOk (b.getD j 0) = true := fun j hj => hb.all _ (mem_at hj)
  refine ⟨by omega, fun j hj => absurd hj (Nat.not_lt_zero _), by rw [g1]; decide, fun j hj => ?_, ?_, by omega, fun j hj => ?_, ?_, by omega, ?_, ?_, fun j hj => ?_, ?_, ?_⟩
  · by_cases j0 : j = 0
    · subst j0
      rw [Nat.add_zero (ct.length + 1 + 2 + 0), g1]; decide
    · obtain ⟨i, rfl⟩ : ∃ i, j = i + 1 := ⟨j - 1, by omega⟩
      by_cases j1 : i < b.length
      · rw [g2 i j1]; exact tok_q (t i j1)
      · by_cases j2 : i = b.length
        · subst j2; rw [g3]; decide
        · obtain rfl : i = b.length + 1 := by omega
          rw [g3']; decide
  · rw [show s + q = s + 1 + ct.length + 1 + 1 + 1 + b.length + 1 + 1 from by omega]; exact a4
  · by_cases j1 : j < c.length
    · rw [g5 j j1]; exact ⟨wd_ne (hc.wd _ (mem_at j1)) rfl, wd_ne (hc.wd _ (mem_at j1)) rfl⟩
    · obtain rfl : j = c.length := by omega
      rw [g6]; decide
  · rw [show s + r = s + 1 + ct.length + 1 + 1 + 1 + b.length + 1 + 1 + 1 + c.length + 1 from by omega]; exact a7
  · rw [show r - 1 = q + 1 + c.length from by omega]; exact g6
  · rw [show r - 1 - (q + 1) = c.length from by omega, show s + (q + 1) = s + 1 + ct.length + 1 + 1 + 1 + b.length + 1 + 1 + 1 from by omega]
    exact a5.text
  · obtain rfl : j = 0 := by omega
    rw [show q - 1 - 0 = ct.length + 1 + 2 + 0 + (b.length + 2) from by omega, g3']; rfl
  · rw [show q - 1 - 1 = ct.length + 1 + 2 + 0 + (b.length + 1) from by omega, g3]; decide
  · rw [show q - 1 - 1 - (ct.length + 1 + 2 + 0 + 1) = b.length from by omega, show s + (ct.length + 1 + 2 + 0 + 1) = s + 1 + ct.length + 1 + 1 + 1 from by omega]
    exact a2.text

/-- What a link's text must be for the walk of its brackets. -/
structure Ct (ct : Bs) : Prop where
  pos : 0 < ct.length
  len : ct.length ≤ 300
  first : ct.getD 0 0 ≠ 94
  last : ct.getD (ct.length - 1) 0 ≠ 10
theorem ct_at {D : Bs} {e : Nat} {ct r : Bs} (hc : Ct ct) (h : At D e (91 :: (ct ++ r))) : D.getD (e + 1) 0 ≠ 94 ∧ D.getD (e + (ct.length + 1) - 1) 0 ≠ 10 := by
  have hA := h.tail.left
  have hp := hc.pos
  have g0 := hA.1 0 hp
  rw [Nat.add_zero] at g0
  refine ⟨by rw [g0]; exact hc.first, ?_⟩
  rw [show e + (ct.length + 1) - 1 = e + 1 + (ct.length - 1) from by omega, hA.1 _ (by omega)]
  exact hc.last
theorem runs_lk0 {x : Ctx} {k : Nat} {d : Int} {e bl : Nat} {ct b : Bs} {l : List InN} {lv : Nat → Nat} (hk : k < 16) (hx : x.ext ≤ 131070) (hc : Ct ct) (hB : Brk x.D e (ct.length + 1) lv) (h : At x.D e (91 :: (ct ++ (93 :: 40 :: (List.replicate bl 32 ++ (b ++ (List.replicate bl 32 ++ [41]))))))) (hb : Target b) (hbl : bl ≤ 1)
    (hin : InRuns x.ext (k + 1) true (d + 1) ct l) : Runs x k false d e (e + (ct.length + 3 + bl + b.length + bl + 1)) (⟨d, 10, [], b, [], false⟩ :: l) := by
  obtain ⟨f1, f2, f3, f4, f5, f6, f7, f8, f9⟩ := lk0 h hb rfl
  obtain ⟨c1, c2⟩ := ct_at hc h
  obtain ⟨sg, hs, hE, hcn⟩ := InRuns.done h.tail.left hin
  have hl := hb.len
  have hl2 := hc.len
  have hT := link_plain x k e (ct.length + 1) bl _ bl lv b sg hk hx hB f1 c1 f2 f3 f4 f5 f6 f7 f8 f9 (by omega) c2 hs
  refine (Runs.take (d := d) (by omega) hT (by simp [gw_one, gw_nil]; omega)).eqv ?_
  rw [Option.getD_some, flatG_one]
  exact hE.cons _
theorem runs_lkT {x : Ctx} {k : Nat} {d : Int} {e : Nat} {ct b c : Bs} {l : List InN} {lv : Nat → Nat} {qc : UInt8} (hqc : qc = 34 ∨ qc = 39) (hk : k < 16) (hx : x.ext ≤ 131070) (hc : Ct ct) (hB : Brk x.D e (ct.length + 1) lv) (h : At x.D e (91 :: (ct ++ (93 :: 40 :: (b ++ (32 :: qc :: (c ++ [qc, 41]))))))) (hb : Target b) (hw : Words c)
    (hin : InRuns x.ext (k + 1) true (d + 1) ct l) : Runs x k false d e (e + (ct.length + 3 + b.length + 1 + c.length + 2 + 1)) (⟨d, 10, [], b, c, true⟩ :: l) := by
  obtain ⟨f1, f2, f3, f4, f5, f6, f7, f8, f9, f10, f11, f12, f13, f14⟩ := lkT hqc h hb hw rfl rfl
  obtain ⟨c1, c2⟩ := ct_at hc h
  obtain ⟨sg, hs, hE, hcn⟩ := InRuns.done h.tail.left hin
  have hl := hb.len
  have hl2 := hc.len
  have hl3 := hw.len
  have hT : Takes x k false e (ct.length + 3 + b.length + 1 + c.length + 2 + 1) (some (G.one 10 none (some b) (some c) (outG (x.sub (e + 1) ct.length).D sg 0 0))) := by
    rcases hqc with rfl | rfl
    · exact link_t34 x k e (ct.length + 1) 0 _ 1 _ lv b c sg hk hx hB f1 c1 f2 f3 f4 f5 f6 f7 f8 f9 f10 f11 f12 f13 f14 (by omega) c2 hs
    · exact link_t39 x k e (ct.length + 1) 0 _ 1 _ lv b c sg hk hx hB f1 c1 f2 f3 f4 f5 f6 f7 f8 f9 f10 f11 f12 f13 f14 (by omega) c2 hs
  refine (Runs.take (d := d) (by omega) hT (by simp [gw_one, gw_nil]; omega)).eqv ?_
  rw [Option.getD_some, flatG_one]
  exact hE.cons _
theorem runs_lkA {x : Ctx} {k : Nat} {d : Int} {e : Nat} {ct b c : Bs} {l : List InN} {lv : Nat → Nat} (hk : k < 16) (hx : x.ext ≤ 131070) (hc : Ct ct) (hB : Brk x.D e (ct.length + 1) lv) (h : At x.D e (91 :: (ct ++ (93 :: 40 :: 60 :: (b ++ (62 :: 32 :: 34 :: (c ++ [34, 41]))))))) (hb : Target b) (hw : Words c)
    (hin : InRuns x.ext (k + 1) true (d + 1) ct l) : Runs x k false d e (e + (ct.length + 3 + b.length + 3 + c.length + 2 + 1)) (⟨d, 10, [], b, c, true⟩ :: l) := by
  obtain ⟨f1, f2, f3, f4, f5, f6, f7, f8, f9, f10, f11, f12, f13, f14⟩ := lkA h hb hw rfl rfl
  obtain ⟨c1, c2⟩ := ct_at hc h
  obtain ⟨sg, hs, hE, hcn⟩ := InRuns.done h.tail.left hin
  have hl := hb.len
  have hl2 := hc.len
  have hl3 := hw.len
  have hT := link_t34a x k e (ct.length + 1) 0 _ 1 _ lv b c sg hk hx hB f1 c1 f2 f3 f4 f5 f6 f7 f8 f9 f10 f11 f12 f13 f14 (by omega) c2 hs
  refine (Runs.take (d := d) (by omega) hT (by simp [gw_one, gw_nil]; omega)).eqv ?_
  rw [Option.getD_some, flatG_one]
  exact hE.cons _
theorem runs_im0 {x : Ctx} {k : Nat} {ins : Bool} {d : Int} {e bl : Nat} {a b : Bs} (hins : ins = true → e = 0) (hx : x.ext ≤ 131070) (ha : Words a) (h : At x.D e (33 :: 91 :: (a ++ (93 :: 40 :: (List.replicate bl 32 ++ (b ++ (List.replicate bl 32 ++ [41]))))))) (hb : Target b) (hbl : bl ≤ 1) :
    Runs x k ins d e (e + (a.length + 3 + bl + b.length + bl + 2)) [⟨d, 11, [], b, [], false⟩, inT (d + 1) a] := by
  have hS := h.tail
  obtain ⟨f1, f2, f3, f4, f5, f6, f7, f8, f9⟩ := lk0 hS hb rfl
  have hl := hb.len
  have hl2 := ha.len
  have hB := brk_flat hS ha.pos (fun c hc => ⟨wd_ne (ha.wd c hc) rfl, wd_ne (ha.wd c hc) rfl, wd_ne (ha.wd c hc) rfl, wd_ne (ha.wd c hc) rfl⟩)
  have hT := img_takes x k ins e _ _ (by omega) h.head hS.head (fun w hi => img_plain x k ins e (e + 1) (a.length + 1) bl _ bl _ b a rfl h.head hins hx hB f1 f2 f3 f4 f5 f6 f7 f8 f9 (by omega) hS.tail.left.text w hi)
  have h3 := Runs.take (d := d) (by omega) hT (by simp [gw_one, gw_text, gw_nil]; omega)
  rw [Option.getD_some, flatG_one, flatG_text] at h3
  exact h3
theorem runs_imT {x : Ctx} {k : Nat} {ins : Bool} {d : Int} {e : Nat} {a b c : Bs} {qc : UInt8} (hqc : qc = 34 ∨ qc = 39) (hins : ins = true → e = 0) (hx : x.ext ≤ 131070) (ha : Words a) (h : At x.D e (33 :: 91 :: (a ++ (93 :: 40 :: (b ++ (32 :: qc :: (c ++ [qc, 41]))))))) (hb : Target b) (hw : Words c) :
    Runs x k ins d e (e + (a.length + 3 + b.length + 1 + c.length + 2 + 2)) [⟨d, 11, [], b, c, true⟩, inT (d + 1) a] := by
  have hS := h.tail
  obtain ⟨f1, f2, f3, f4, f5, f6, f7, f8, f9, f10, f11, f12, f13, f14⟩ := lkT hqc hS hb hw rfl rfl
  have hl := hb.len
  have hl2 := ha.len
  have hl3 := hw.len
  have hB := brk_flat hS ha.pos (fun c hc => ⟨wd_ne (ha.wd c hc) rfl, wd_ne (ha.wd c hc) rfl, wd_ne (ha.wd c hc) rfl, wd_ne (ha.wd c hc) rfl⟩)
  have hT : Takes x k ins e (a.length + 3 + b.length + 1 + c.length + 2 + 2) (some (G.one 11 none (some b) (some c) (textG a))) := by
    refine img_takes x k ins e _ _ (by omega) h.head hS.head fun w hi => ?_
    rcases hqc with rfl | rfl
    · exact img_t34 x k ins e (e + 1) (a.length + 1) 0 _ 1 _ _ b c a rfl h.head hins hx hB f1 f2 f3 f4 f5 f6 f7 f8 f9 f10 f11 f12 f13 f14 (by omega) hS.tail.left.text w hi
    · exact img_t39 x k ins e (e + 1) (a.length + 1) 0 _ 1 _ _ b c a rfl h.head hins hx hB f1 f2 f3 f4 f5 f6 f7 f8 f9 f10 f11 f12 f13 f14 (by omega) hS.tail.left.text w hi
  have h3 := Runs.take (d := d) (by omega) hT (by simp [gw_one, gw_text, gw_nil]; omega)
  rw [Option.getD_some, flatG_one, flatG_text] at h3
  exact h3
theorem runs_imA {x : Ctx} {k : Nat} {ins : Bool} {d : Int} {e : Nat} {a b c : Bs} (hins : ins = true → e = 0) (hx : x.ext ≤ 131070) (ha : Words a) (h : At x.D e (33 :: 91 :: (a ++ (93 :: 40 :: 60 :: (b ++ (62 :: 32 :: 34 :: (c ++ [34, 41]))))))) (hb : Target b) (hw : Words c) :
    Runs x k ins d e (e + (a.length + 3 + b.length + 3 + c.length + 2 + 2)) [⟨d, 11, [], b, c, true⟩, inT (d + 1) a] := by
  have hS := h.tail
  obtain ⟨f1, f2, f3, f4, f5, f6, f7, f8, f9, f10, f11, f12, f13, f14⟩ := lkA hS hb hw rfl rfl
  have hl := hb.len
  have hl2 := ha.len
  have hl3 := hw.len
  have hB := brk_flat hS ha.pos (fun c hc => ⟨wd_ne (ha.wd c hc) rfl, wd_ne (ha.wd c hc) rfl, wd_ne (ha.wd c hc) rfl, wd_ne (ha.wd c hc) rfl⟩)
  have hT := img_takes x k ins e _ _ (by omega) h.head hS.head (fun w hi => img_t34a x k ins e (e + 1) (a.length + 1) 0 _ 1 _ _ b c a rfl h.head hins hx hB f1 f2 f3 f4 f5 f6 f7 f8 f9 f10 f11 f12 f13 f14 (by omega) hS.tail.left.text w hi)
  have h3 := Runs.take (d := d) (by omega) hT (by simp [gw_one, gw_text, gw_nil]; omega)
  rw [Option.getD_some, flatG_one, flatG_text] at h3
  exact h3
theorem Words.ct {a : Bs} (h : Words a) : Ct a where
  pos := h.pos
  len := by have := h.len; omega
  first := let_ne h.first rfl
  last := let_ne h.last rfl
theorem Words.flat {a : Bs} (h : Words a) : ∀ c ∈ a, c ≠ 10 ∧ c ≠ 92 ∧ c ≠ 91 ∧ c ≠ 93 := fun c hc => ⟨wd_ne (h.wd c hc) rfl, wd_ne (h.wd c hc) rfl, wd_ne (h.wd c hc) rfl, wd_ne (h.wd c hc) rfl⟩
theorem pk_6 {x : Ctx} {e v : Nat} {del auto : Bool} {o z : UInt8} {a b c : Bs} (hv : v < 5) (hx : x.ext ≤ 131070) (ha : Words a) (hb : Target b) (hc : Words c) (h : At x.D e (wrK o z a b c 6 v)) : Runs x 1 false 0 e (e + (wrK o z a b c 6 v).length) (meK del auto o z a b c 6 v) := by
  match v, hv with
  | 0, _ =>
    have hA : At x.D e (91 :: (a ++ (93 :: 40 :: (List.replicate 0 32 ++ (b ++ (List.replicate 0 32 ++ [41])))))) := h
    exact (runs_lk0 (k := 1) (d := 0) (by omega) hx ha.ct (brk_flat hA ha.pos ha.flat) hA hb (by omega) (in_words ha)).to (by simp [wrK, lkW]; omega)
  | 1, _ =>
    exact (runs_lkT (k := 1) (d := 0) (.inl rfl) (by omega) hx ha.ct (brk_flat h ha.pos ha.flat) h hb hc (in_words ha)).to (by simp [wrK, lkW]; omega)
  | 2, _ =>
    exact (runs_lkT (k := 1) (d := 0) (.inr rfl) (by omega) hx ha.ct (brk_flat h ha.pos ha.flat) h hb hc (in_words ha)).to (by simp [wrK, lkW]; omega)
  | 3, _ =>
    exact (runs_lkA (k := 1) (d := 0) (by omega) hx ha.ct (brk_flat h ha.pos ha.flat) h hb hc (in_words ha)).to (by simp [wrK, lkW]; omega)
  | 4, _ =>
    have hA : At x.D e (91 :: (a ++ (93 :: 40 :: (List.replicate 1 32 ++ (b ++ (List.replicate 1 32 ++ [41])))))) := h
    exact (runs_lk0 (k := 1) (d := 0) (by omega) hx ha.ct (brk_flat hA ha.pos ha.flat) hA hb (by omega) (in_words ha)).to (by simp [wrK, lkW]; omega)
theorem pk_7 {x : Ctx} {e v : Nat} {del auto : Bool} {o z : UInt8} {a b c : Bs} (hv : v < 5) (hx : x.ext ≤ 131070) (ha : Words a) (hb : Target b) (hc : Words c) (h : At x.D e (wrK o z a b c 7 v)) : Runs x 1 false 0 e (e + (wrK o z a b c 7 v).length) (meK del auto o z a b c 7 v) := by
  match v, hv with
  | 0, _ =>
    have hA : At x.D e (33 :: 91 :: (a ++ (93 :: 40 :: (List.replicate 0 32 ++ (b ++ (List.replicate 0 32 ++ [41])))))) := h
    exact (runs_im0 (k := 1) (ins := false) (d := 0) (fun h => by cases h) hx ha hA hb (by omega)).to (by simp [wrK, lkW]; omega)
  | 1, _ =>
    exact (runs_imT (k := 1) (ins := false) (d := 0) (.inl rfl) (fun h => by cases h) hx ha h hb hc).to (by simp [wrK, lkW]; omega)
  | 2, _ =>
    exact (runs_imT (k := 1) (ins := false) (d := 0) (.inr rfl) (fun h => by cases h) hx ha h hb hc).to (by simp [wrK, lkW]; omega)
  | 3, _ =>
    exact (runs_imA (k := 1) (ins := false) (d := 0) (fun h => by cases h) hx ha h hb hc).to (by simp [wrK, lkW]; omega)
  | 4, _ =>
    have hA : At x.D e (33 :: 91 :: (a ++ (93 :: 40 :: (List.replicate 1 32 ++ (b ++ (List.replicate 1 32 ++ [41])))))) := h
    exact (runs_im0 (k := 1) (ins := false) (d := 0) (fun h => by cases h) hx ha hA hb (by omega)).to (by simp [wrK, lkW]; omega)
theorem getD_last {l r : Bs} (h : 0 < r.length) : (l ++ r).getD ((l ++ r).length - 1) 0 = r.getD (r.length - 1) 0 := by
  rw [List.length_append, show l.length + r.length - 1 = l.length + (r.length - 1) from by omega, getD_app_r]
theorem pk_16 {x : Ctx} {e v : Nat} {del auto : Bool} {o z : UInt8} {a b c : Bs} (hx : x.ext ≤ 131070) (ho : o = 42 ∨ o = 95) (ha : Words a) (hb : Words b) (hc : Target c) (h : At x.D e (wrK o z a b c 16 v)) : Runs x 1 false 0 e (e + (wrK o z a b c 16 v).length) (meK del auto o z a b c 16 v) := by
  simp only [wrK, meK] at *
  have la := ha.len
  have lb := hb.len
  have hA : At x.D e (91 :: ((a ++ (32 :: (o :: (b ++ [o])))) ++ (93 :: 40 :: (List.replicate 0 32 ++ (c ++ (List.replicate 0 32 ++ [41])))))) := by simpa using h
  have hCt : Ct (a ++ (32 :: (o :: (b ++ [o])))) := {
    pos := by simp <;> omega
    len := by simp; omega
    first := by rw [getD_app_l ha.pos]; exact let_ne ha.first rfl
    last := by
      rw [show (a ++ (32 :: (o :: (b ++ [o])))) = (a ++ (32 :: o :: b)) ++ [o] from by simp, getD_last (by simp)]
      show o ≠ 10
      rcases ho with rfl | rfl <;> decide }
  have hflat : ∀ y ∈ a ++ (32 :: (o :: (b ++ [o]))), y ≠ 10 ∧ y ≠ 92 ∧ y ≠ 91 ∧ y ≠ 93 := by
    intro y hy
    have hoo : o ≠ 10 ∧ o ≠ 92 ∧ o ≠ 91 ∧ o ≠ 93 := by rcases ho with rfl | rfl <;> decide
    simp only [List.mem_append, List.mem_cons, List.not_mem_nil, or_false] at hy
    rcases hy with h | rfl | rfl | h | rfl
    · exact ha.flat y h
    · decide
    · exact hoo
    · exact hb.flat y h
    · exact hoo
  have hin : InRuns x.ext 2 true 1 (a ++ (32 :: (o :: (b ++ [o])))) [inT 1 (a ++ [32]), inO 1 7, inT 2 b] := by
    intro y hy hye
    have hY : At y.D 0 (a ++ (32 :: (o :: (b ++ [o])))) := by rw [hy]; exact at_full _
    have hl : y.D.length = a.length + b.length + 3 := by rw [hy]; simp; omega
    have h1 := runs_words (k := 2) (ins := true) (d := 1) ha hY.left (aft_of hY.right.head (by decide))
    have h2 := runs_blank (k := 2) (ins := true) (d := 1) (at_one hY.right) (fun _ => by rw [hY.right.tail.head]; rcases ho with rfl | rfl <;> decide)
    have h3 := runs_em1 (k := 2) (ins := true) (d := 1) ho (by omega) (by rw [hye]; exact hx) hY.right.tail (hb.inner (by rcases ho with rfl | rfl <;> rfl)) (in_words hb) (fun hh => by omega)
    refine (((h1.app h2).app h3).to (by simp; omega)).eqv ?_
    exact Eqv.app (eqv_app 1 a [32]) (Eqv.refl [inO 1 7, inT 2 b])
  exact (runs_lk0 (k := 1) (d := 0) (by omega) hx hCt (brk_flat hA hCt.pos hflat) hA hc (by omega) hin).to (by simp; omega)
theorem pk_17 {x : Ctx} {e v : Nat} {del auto : Bool} {o z : UInt8} {a b c : Bs} (hx : x.ext ≤ 131070) (ha : Words a) (hb : Words b) (hc : Target c) (h : At x.D e (wrK o z a b c 17 v)) : Runs x 1 false 0 e (e + (wrK o z a b c 17 v).length) (meK del auto o z a b c 17 v) := by
  simp only [wrK, meK] at *
  have la := ha.len
  have lb := hb.len
  have hA : At x.D e (91 :: ((a ++ (32 :: (96 :: (b ++ [96])))) ++ (93 :: 40 :: (List.replicate 0 32 ++ (c ++ (List.replicate 0 32 ++ [41])))))) := by simpa using h
  have hCt : Ct (a ++ (32 :: (96 :: (b ++ [96])))) := {
    pos := by simp <;> omega
    len := by simp; omega
    first := by rw [getD_app_l ha.pos]; exact let_ne ha.first rfl
    last := by
      rw [show (a ++ (32 :: (96 :: (b ++ [96])))) = (a ++ (32 :: 96 :: b)) ++ [96] from by simp, getD_last (by simp)]
      decide }
  have hflat : ∀ y ∈ a ++ (32 :: (96 :: (b ++ [96]))), y ≠ 10 ∧ y ≠ 92 ∧ y ≠ 91 ∧ y ≠ 93 := by
    intro y hy
    simp only [List.mem_append, List.mem_cons, List.not_mem_nil, or_false] at hy
    rcases hy with h | rfl | rfl | h | rfl
    · exact ha.flat y h
    · decide
    · decide
    · exact hb.flat y h
    · decide
  have hin : InRuns x.ext 2 true 1 (a ++ (32 :: (96 :: (b ++ [96])))) [inT 1 (a ++ [32]), ⟨1, 17, b, [], [], false⟩] := by
    intro y hy hye
    have hY : At y.D 0 (a ++ (32 :: (96 :: (b ++ [96])))) := by rw [hy]; exact at_full _
    have h1 := runs_words (k := 2) (ins := true) (d := 1) ha hY.left (aft_of hY.right.head (by decide))
    have h2 := runs_blank (k := 2) (ins := true) (d := 1) (at_one hY.right) (fun _ => by rw [hY.right.tail.head]; decide)
    have hC : At y.D (0 + a.length + 1) (List.replicate 1 96 ++ (List.replicate 0 32 ++ (b ++ (List.replicate 0 32 ++ List.replicate 1 96)))) := hY.right.tail
    have h3 := runs_code (k := 2) (ins := true) (d := 1) (by omega) hC hb.pos hb.first hb.last (words96 hb)
    refine (((h1.app h2).app h3).to (by simp; omega)).eqv ?_
    exact Eqv.app (eqv_app 1 a [32]) (Eqv.refl [⟨1, 17, b, [], [], false⟩])
  exact (runs_lk0 (k := 1) (d := 0) (by omega) hx hCt (brk_flat hA hCt.pos hflat) hA hc (by omega) hin).to (by simp; omega)
theorem pk_20 {x : Ctx} {e v : Nat} {del auto : Bool} {o z : UInt8} {a b c : Bs} (hx : x.ext ≤ 131070) (ha : Words a) (hb : Target b) (hc : Target c) (h : At x.D e (wrK o z a b c 20 v)) : Runs x 1 false 0 e (e + (wrK o z a b c 20 v).length) (meK del auto o z a b c 20 v) := by
  simp only [wrK, meK] at *
  have la := ha.len
  have lb := hb.len
  have pa := ha.pos
  obtain ⟨ct, hct⟩ : ∃ ct, ct = (33 :: 91 :: (a ++ (93 :: 40 :: (b ++ [41]))) : Bs) := ⟨_, rfl⟩
  have hcl : ct.length = a.length + b.length + 5 := by rw [hct]; simp; omega
  have hA : At x.D e (91 :: (ct ++ (93 :: 40 :: (List.replicate 0 32 ++ (c ++ (List.replicate 0 32 ++ [41])))))) := by rw [hct]; simpa using h
  have hCt : Ct ct := {
    pos := by omega
    len := by omega
    first := by rw [hct]; show (33 : UInt8) ≠ 94; decide
    last := by
      rw [hct, show (33 :: 91 :: (a ++ (93 :: 40 :: (b ++ [41]))) : Bs) = (33 :: 91 :: (a ++ (93 :: 40 :: b))) ++ [41] from by simp, getD_last (by simp)]
      decide }
  have hI : At x.D (e + 1) (33 :: 91 :: (a ++ (93 :: 40 :: (b ++ [41])))) := by rw [← hct]; exact hA.tail.left
  have g1 := hI.head
  have g2 := hI.tail.head
  have gA := hI.tail.tail.left
  have gR := hI.tail.tail.right
  obtain ⟨lv, l2, l1⟩ : ∃ lv : Nat → Nat, (∀ j, 3 ≤ j → j ≤ 3 + a.length → lv j = 2) ∧ (∀ j, (j < 3 ∨ 3 + a.length < j) → lv j = 1) :=
    ⟨fun j => if 3 ≤ j ∧ j ≤ 3 + a.length then 2 else 1, fun j h1 h2 => if_pos ⟨h1, h2⟩, fun j h => if_neg (by omega)⟩
  have hB : Brk x.D e (ct.length + 1) lv := {
    at1 := l1 1 (by omega)
    ata := l1 _ (by omega)
    pos := by omega
    le := fun j => by
      by_cases hj : 3 ≤ j ∧ j ≤ 3 + a.length
      · rw [l2 j hj.1 hj.2]; omega
      · rw [l1 j (by omega)]; omega
    open' := hA.head
    step := fun j h1 h2 => by
      by_cases j1 : j = 1
      · subst j1
        rw [g1, l1 1 (by omega), l1 (1 + 1) (by omega)]
        exact ⟨by decide, by decide, by decide, by decide, .inr (.inr ⟨by decide, by decide, rfl⟩)⟩
      by_cases j2 : j = 2
      · subst j2
        rw [show e + 2 = e + 1 + 1 from rfl, g2, l1 2 (by omega), l2 (2 + 1) (by omega) (by omega)]
        exact ⟨by decide, by decide, by decide, by decide, .inl ⟨rfl, rfl⟩⟩
      by_cases j3 : j < 3 + a.length
      · rw [show e + j = e + 1 + 1 + 1 + (j - 3) from by omega, gA.1 _ (by omega), l2 j (by omega) (by omega), l2 (j + 1) (by omega) (by omega)]
        have := ha.flat _ (mem_at (show j - 3 < a.length by omega))
        exact ⟨by decide, by decide, this.1, this.2.1, .inr (.inr ⟨this.2.2.1, this.2.2.2, rfl⟩)⟩
      by_cases j4 : j = 3 + a.length
      · rw [show e + j = e + 1 + 1 + 1 + a.length from by omega, gR.head, l2 j (by omega) (by omega), l1 (j + 1) (by omega)]
        exact ⟨by decide, by decide, by decide, by decide, .inr (.inl ⟨rfl, rfl⟩)⟩
      · rw [l1 j (by omega), l1 (j + 1) (by omega)]
        have hne : x.D.getD (e + j) 0 ≠ 10 ∧ x.D.getD (e + j) 0 ≠ 92 ∧ x.D.getD (e + j) 0 ≠ 91 ∧ x.D.getD (e + j) 0 ≠ 93 := by
          by_cases j5 : j = 4 + a.length
          · rw [show e + j = e + 1 + 1 + 1 + a.length + 1 from by omega, gR.tail.head]; decide
          by_cases j6 : j < 5 + a.length + b.length
          · rw [show e + j = e + 1 + 1 + 1 + a.length + 1 + 1 + (j - 5 - a.length) from by omega, gR.tail.tail.left.1 _ (by omega)]
            have := hb.all _ (mem_at (show j - 5 - a.length < b.length by omega))
            exact ⟨tok_ne this (by decide), tok_ne this (by decide), tok_ne this (by decide), tok_ne this (by decide)⟩
          · rw [show e + j = e + 1 + 1 + 1 + a.length + 1 + 1 + b.length from by omega, gR.tail.tail.right.head]; decide
        exact ⟨by decide, by decide, hne.1, hne.2.1, .inr (.inr ⟨hne.2.2.1, hne.2.2.2, rfl⟩)⟩
    close := by rw [show e + (ct.length + 1) = e + 1 + ct.length from by omega]; exact hA.tail.right.head
    paren := by rw [show e + (ct.length + 1) + 1 = e + 1 + ct.length + 1 from by omega]; exact hA.tail.right.tail.head }
  have hin : InRuns x.ext 2 true 1 ct [⟨1, 11, [], b, [], false⟩, inT 2 a] := by
    intro y hy hye
    have hY : At y.D 0 (33 :: 91 :: (a ++ (93 :: 40 :: (List.replicate 0 32 ++ (b ++ (List.replicate 0 32 ++ [41])))))) := by
      rw [hy, hct]; exact at_full _
    exact (runs_im0 (k := 2) (ins := true) (d := 1) (fun _ => rfl) (by rw [hye]; exact hx) ha hY hb (by omega)).to (by omega)
  exact (runs_lk0 (k := 1) (d := 0) (by omega) hx hCt hB hA hc (by omega) hin).to (by simp [hcl]; omega)
end Go.Proofs.YtalajbfpilhfgaaGreatDoor
