/-
  FnInlineAlone: automatic links without brackets: no anchor, prefixes.
  FnInlineAlone: automatic links without brackets: prefixes.
-/
import Derived.Test.YtalajbfpilhfgaaGreatDoorK09
set_option linter.unusedVariables false
set_option linter.unusedSimpArgs false
namespace Go.Proofs.YtalajbfpilhfgaaGreatDoor
open Go.RowKit

def isBl (c : UInt8) : Bool := c = 9 || c = 10 || c = 12 || c = 13 || c = 32
set_option maxHeartbeats 1000000 in
theorem bl104 (c : UInt8) (w : World) : Calls Tryz.prog 104 #[.int .u8 c.toNat] w fun r w' => r = .returned (.bool (isBl c)) ∧ w = w' := by
  unfold isBl
  by_cases h1 : c = 9 <;> by_cases h2 : c = 10 <;> by_cases h3 : c = 12 <;> by_cases h4 : c = 13 <;> by_cases h5 : c = 32 <;> first | (exfalso; subst h1; revert h2 h3 h4 h5; decide) | (exfalso; subst h2; revert h1 h3 h4 h5; decide) | (exfalso; subst h3; revert h1 h2 h4 h5; decide) | (exfalso; subst h4; revert h1 h2 h3 h5; decide) | (
    have b1 : ((c.toNat : Int) == 9) = decide (c = 9) := by first | (rw [decide_eq_true h1]; exact beq_yes (k := 9) h1) | (rw [decide_eq_false h1]; exact beq_no (k := 9) h1)
    have b2 : ((c.toNat : Int) == 10) = decide (c = 10) := by first | (rw [decide_eq_true h2]; exact beq_yes (k := 10) h2) | (rw [decide_eq_false h2]; exact beq_no (k := 10) h2)
    have b3 : ((c.toNat : Int) == 12) = decide (c = 12) := by first | (rw [decide_eq_true h3]; exact beq_yes (k := 12) h3) | (rw [decide_eq_false h3]; exact beq_no (k := 12) h3)
    have b4 : ((c.toNat : Int) == 13) = decide (c = 13) := by first | (rw [decide_eq_true h4]; exact beq_yes (k := 13) h4) | (rw [decide_eq_false h4]; exact beq_no (k := 13) h4)
    have b5 : ((c.toNat : Int) == 32) = decide (c = 32) := by first | (rw [decide_eq_true h5]; exact beq_yes (k := 32) h5) | (rw [decide_eq_false h5]; exact beq_no (k := 32) h5)
    simp only [h1, h2, h3, h4, h5, decide_true, decide_false, Bool.or_false, Bool.or_true, Bool.false_or, Bool.true_or] at b1 b2 b3 b4 b5 ⊢
    generalize (c.toNat : Int) = n at b1 b2 b3 b4 b5 ⊢
    clear h1 h2 h3 h4 h5
    go_enter Tryz.func104, Tryz.ntmps104
    go_wp2
    go_ret
    exact ⟨rfl, rfl⟩)

def hrefL : Bs := [104, 114, 101, 102, 61, 34]
set_option maxRecDepth 100000 in
set_option maxHeartbeats 4000000 in
theorem an96 (x : Ctx) (k : Nat) (ins : Bool) (s : Nat) (hs : s < x.D.length) (hA : ¬ (x.D.getD (s + 6) 0 = 102 ∧ x.D.getD (s + 7) 0 = 61 ∧ x.D.getD (s + 8) 0 = 34)) (w : World) (hi : x.inv k ins w) :
    Calls Tryz.prog 96 #[.slice (some ⟨x.g, x.off + s, none⟩) (x.D.length - s) (x.cap - s)] w fun r w' => r = .returned nilS ∧ w = w' := by
  have hcap := hi.2.2.2.1
  have hcap2 := hi.2.2.2.2
  obtain ⟨n, hn⟩ : ∃ n, n = x.D.length := ⟨_, rfl⟩
  have hc : ∀ j, s + j < n → w.cell? ⟨x.g, x.off + s + j, none⟩ = some (.int .u8 (x.D.getD (s + j) 0).toNat) := fun j hj => by
    rw [Nat.add_assoc]
    exact hi.byte (by omega)
  rw [← hn] at hs hcap ⊢
  by_cases h9 : n - s < 9
  · clear hc hA hi hn
    go_enter Tryz.func96, Tryz.ntmps96
    go_wp2
    go_ret
    exact ⟨rfl, rfl⟩
  · obtain ⟨y0, hy0⟩ : ∃ y, y = x.D.getD s 0 := ⟨_, rfl⟩
    obtain ⟨y1, hy1⟩ : ∃ y, y = x.D.getD (s + 1) 0 := ⟨_, rfl⟩
    obtain ⟨y2, hy2⟩ : ∃ y, y = x.D.getD (s + 2) 0 := ⟨_, rfl⟩
    have c0 := hc 0 (by omega)
    have c1 := hc 1 (by omega)
    have c2 := hc 2 (by omega)
    rw [Nat.add_zero, Nat.add_zero, ← hy0] at c0
    rw [← hy1] at c1
    rw [← hy2] at c2
    obtain ⟨T, hT⟩ : ∃ T, T = (x.D.drop (s + 3)).take 6 := ⟨_, rfl⟩
    have hTl : T.length = 6 := by rw [hT]; simp; omega
    have hcv0 := conv_rd (cap := x.cap - s - 3) (rdO_sub hi.2.1 (s + 3) 6)
    rw [← hT, hTl, ← Nat.add_assoc] at hcv0
    have hTn : T ≠ hrefL := fun h => hA (by
      have e : ∀ j, j < 6 → x.D.getD (s + 3 + j) 0 = hrefL.getD j 0 := fun j hj => by
        rw [← h, hT]; simp [List.getD_eq_getElem?_getD, List.getElem?_take, hj]
      exact ⟨e 3 (by decide), e 4 (by decide), e 5 (by decide)⟩)
    have hd1 : decide (0 < n - s) = true := decide_eq_true (by omega)
    have C104 := Lib.hid (fun w => bl104 y2 w)
    clear hc hi hn hy0 hy1 hy2 hA hT
    by_cases q0 : y0 = 60
    · by_cases q1 : y1 = 97
      · have b0 : ((y0.toNat : Int) != 60) = false := bne_yes (k := 60) q0
        have b1 : ((y1.toNat : Int) != 97) = false := bne_yes (k := 97) q1
        clear q0 q1
        generalize isBl y2 = bl at C104
        cases bl with
        | false =>
          go_enter Tryz.func96, Tryz.ntmps96
          go_wp2_with (go_at_call 104; refine (C104.out _).mono ?_; rintro r w' ⟨rfl, rfl⟩)
          go_ret
          exact ⟨rfl, rfl⟩
        | true =>
          have bT : (T == [104, 114, 101, 102, 61, 34]) = false := by rw [beq_eq_false_iff_ne]; exact hTn
          clear hTn hTl
          go_enter Tryz.func96, Tryz.ntmps96
          go_wp2_with (go_at_call 104; refine (C104.out _).mono ?_; rintro r w' ⟨rfl, rfl⟩)
          go_ret
          exact ⟨rfl, rfl⟩
      · have b0 : ((y0.toNat : Int) != 60) = false := bne_yes (k := 60) q0
        have b1 : ((y1.toNat : Int) != 97) = true := bne_no (k := 97) q1
        clear q0 q1
        go_enter Tryz.func96, Tryz.ntmps96
        go_wp2
        go_ret
        exact ⟨rfl, rfl⟩
    · have b0 : ((y0.toNat : Int) != 60) = true := bne_no (k := 60) q0
      clear q0
      go_enter Tryz.func96, Tryz.ntmps96
      go_wp2
      go_ret
      exact ⟨rfl, rfl⟩

set_option maxRecDepth 100000 in
set_option maxHeartbeats 4000000 in
theorem pre81_yes (g o m c g2 o2 c2 : Nat) (P T : Bs) (hT : T.length = m) (hp : P.length ≤ m) (hm : m ≤ 1000) (w : World) (h1 : RdO w g o T) (h2 : RdO w g2 o2 P) (he : ∀ i, i < P.length → P.getD i 0 = T.getD i 0) :
    Calls Tryz.prog 81 #[.slice (some ⟨g, o, none⟩) m c, .slice (some ⟨g2, o2, none⟩) P.length c2] w fun r w' => r = .returned (.bool true) ∧ w = w' := by
  have H1 := Lib.hid h1
  have H2 := Lib.hid h2
  have HE := Lib.hid he
  have HT := Lib.hid hT
  obtain ⟨p, hpp⟩ : ∃ p, p = P.length := ⟨_, rfl⟩
  rw [← hpp] at hp ⊢
  have HP := Lib.hid hpp
  clear h1 h2 he hpp hT
  go_enter Tryz.func81, Tryz.ntmps81
  go_wp2
  go_loopg [15] (p + 1) (fun q v15 wr => w = wr ∧ ∃ j : Nat, v15 = .int .i64 (j : Nat) ∧ q + j = p + 1 ∧ j ≤ p)
  case atStart => exact ⟨rfl, 0, rfl, by omega, by omega⟩
  case round =>
    obtain ⟨rfl, j, rfl, hq, hj⟩ := hrel
    have HQ := Lib.hid hq
    clear hq
    by_cases hjp : j < p
    · obtain ⟨y, hy⟩ : ∃ y, y = T.getD j 0 := ⟨_, rfl⟩
      have c1 : w.cell? ⟨g, o + j, none⟩ = some (.int .u8 y.toNat) := by rw [hy]; exact H1.out j (by rw [HT.out]; omega)
      have c2' : w.cell? ⟨g2, o2 + j, none⟩ = some (.int .u8 y.toNat) := by rw [hy, ← HE.out j (by rw [← HP.out]; exact hjp)]; exact H2.out j (by rw [← HP.out]; exact hjp)
      have b1 : ((y.toNat : Int) != (y.toNat : Int)) = false := by simp
      clear hy
      go_wp2
      go_roundg (p - j)
      case measure => have := HQ.out; omega
      case rel => exact ⟨rfl, j + 1, by go_num, by have := HQ.out; omega, by omega⟩
    · go_wp2
      go_ret
      exact ⟨rfl, rfl⟩

theorem plus32 (y : UInt8) : ((y.toNat : Int) + 32) % 256 = ((y + 32).toNat : Int) := by
  rw [UInt8.toNat_add]
  rfl
theorem mis_ne {a b : UInt8} (h : a ≠ b) : ((a.toNat : Int) != (b.toNat : Int)) = true := bne_no h
set_option maxRecDepth 100000 in
set_option maxHeartbeats 4000000 in
theorem pre81_no (g o m c g2 o2 c2 : Nat) (P T : Bs) (hT : T.length = m) (hm : m ≤ 1000) (w : World) (h1 : RdO w g o T) (h2 : RdO w g2 o2 P) (he : P.length ≤ m → ∃ i, i < P.length ∧ P.getD i 0 ≠ T.getD i 0 ∧ P.getD i 0 ≠ T.getD i 0 + 32) (hp1 : P.length ≤ 1000) :
    Calls Tryz.prog 81 #[.slice (some ⟨g, o, none⟩) m c, .slice (some ⟨g2, o2, none⟩) P.length c2] w fun r w' => r = .returned (.bool false) ∧ w = w' := by
  have H1 := Lib.hid h1
  have H2 := Lib.hid h2
  have HT := Lib.hid hT
  obtain ⟨p, hpp⟩ : ∃ p, p = P.length := ⟨_, rfl⟩
  rw [← hpp] at hp1 he ⊢
  have HP := Lib.hid hpp
  clear h1 h2 hpp hT
  by_cases hp : p ≤ m
  · obtain ⟨i, hi, he1, he2⟩ := he hp
    have HE1 := Lib.hid he1
    have HE2 := Lib.hid he2
    clear he he1 he2
    go_enter Tryz.func81, Tryz.ntmps81
    go_wp2
    go_loopg [15] (i + 1) (fun q v15 wr => w = wr ∧ ∃ j : Nat, v15 = .int .i64 (j : Nat) ∧ q + j = i + 1 ∧ j ≤ i)
    case atStart => exact ⟨rfl, 0, rfl, by omega, by omega⟩
    case round =>
      obtain ⟨rfl, j, rfl, hq, hj⟩ := hrel
      have HQ := Lib.hid hq
      clear hq
      obtain ⟨y, hy⟩ : ∃ y, y = T.getD j 0 := ⟨_, rfl⟩
      obtain ⟨z, hz⟩ : ∃ z, z = P.getD j 0 := ⟨_, rfl⟩
      have c1 : w.cell? ⟨g, o + j, none⟩ = some (.int .u8 y.toNat) := by rw [hy]; exact H1.out j (by rw [HT.out]; omega)
      have c2' : w.cell? ⟨g2, o2 + j, none⟩ = some (.int .u8 z.toNat) := by rw [hz]; exact H2.out j (by rw [← HP.out]; omega)
      by_cases hm1 : z = y
      · have b1 : ((z.toNat : Int) != (y.toNat : Int)) = false := bne_yes hm1
        have hji : j < i := by
          rcases Nat.lt_or_ge j i with h | h
          · exact h
          · obtain rfl : j = i := by omega
            exact absurd (hz.symm.trans (hm1.trans hy)) HE1.out
        clear hy hz hm1
        go_wp2
        go_roundg (i - j)
        case measure => have := HQ.out; omega
        case rel => exact ⟨rfl, j + 1, by go_num, by have := HQ.out; omega, by omega⟩
      · have b1 : ((z.toNat : Int) != (y.toNat : Int)) = true := bne_no hm1
        by_cases hm2 : z = y + 32
        · have b2 : ((z.toNat : Int) != ((y.toNat : Int) + 32) % 256) = false := by
            rw [plus32 y, hm2, bne_self_eq_false]
          have hji : j < i := by
            rcases Nat.lt_or_ge j i with h | h
            · exact h
            · obtain rfl : j = i := by omega
              exact absurd (hz.symm.trans (hm2.trans (by rw [hy]))) HE2.out
          clear hy hz hm1 hm2
          go_wp2
          go_roundg (i - j)
          case measure => have := HQ.out; omega
          case rel => exact ⟨rfl, j + 1, by go_num, by have := HQ.out; omega, by omega⟩
        · have b2 : ((z.toNat : Int) != ((y.toNat : Int) + 32) % 256) = true := by
            rw [plus32 y]
            exact bne_no hm2
          clear hy hz hm1 hm2
          go_wp2
          go_ret
          exact ⟨rfl, rfl⟩
  · clear he
    go_enter Tryz.func81, Tryz.ntmps81
    go_wp2
    go_ret
    exact ⟨rfl, rfl⟩
end Go.Proofs.YtalajbfpilhfgaaGreatDoor
