/- FnUnescape returns true. -/
import Derived.Test.YtkogokjlpgnmlaaL1
import Derived.Test.YtkogokjlpgnmlaaF4
import Derived.Test.YtkogokjlpgnmlaaP1
set_option linter.unusedVariables false
set_option linter.unusedSimpArgs false
namespace Go.Proofs.Ytkogokjlpgnmlaa
open Go.RowKit

/-- What the first i parts are as they are written, and what they stand for. -/
def wrOf (K N : Nat → Int) (T : Nat → ByteArray) : Nat → Bs
  | 0 => []
  | i + 1 => wrOf K N T i ++ (partOf (K i) (N i) (T i).data.toList).1
def mnOf (K N : Nat → Int) (T : Nat → ByteArray) : Nat → Bs
  | 0 => []
  | i + 1 => mnOf K N T i ++ (partOf (K i) (N i) (T i).data.toList).2.1
theorem parts_law (K N : Nat → Int) (T : Nat → ByteArray) : ∀ (i : Nat) (r : Bs), (∀ j, j < i → (partOf (K j) (N j) (T j).data.toList).2.2 = true) → unescape (wrOf K N T i ++ r) = mnOf K N T i ++ unescape r
  | 0, r, _ => rfl
  | i + 1, r, h => by
    rw [wrOf, mnOf, List.append_assoc, parts_law K N T i _ (fun j hj => h j (by omega))]
    rw [part_law (K i) (N i) (T i).data.toList _ (partOf (K i) (N i) (T i).data.toList).2.1 r (by rw [← h i (by omega)]), List.append_assoc]
theorem part_len (k n : Int) (t : Bs) (h : (partOf k n t).2.2 = true) : (partOf k n t).1.length ≤ 1200000 ∧ (partOf k n t).2.1.length ≤ 1200000 := by
  have hd : ∀ base, (digs base (n.toNat + 1) n.toNat).length ≤ n.toNat + 1 := fun base => digs_len base _ _
  unfold partOf at h ⊢
  split
  · rename_i h0
    rw [if_pos h0] at h
    split
    · simp
    · rename_i hc
      rw [if_neg hc] at h
      have := of_decide_eq_true h
      exact ⟨by show t.length ≤ _; omega, by show t.length ≤ _; omega⟩
  · split
    · split
      · simp
      · constructor
        · show (nameW n).length ≤ _; unfold nameW; split <;> (try split) <;> (try split) <;> simp
        · show (nameM n).length ≤ _; unfold nameM; split <;> (try split) <;> (try split) <;> simp
    · have hr : ∀ (hc : isCh n = true), (runeB n).length ≤ 1200000 := fun hc => by
        have hn := of_decide_eq_true hc
        obtain ⟨N, rfl⟩ : ∃ N : Nat, n = N := ⟨n.toNat, by omega⟩
        rw [runeB_encB N (by omega)]
        have := encB_length (N : Int)
        omega
      split
      · split
        · rename_i hc
          have hn := of_decide_eq_true hc
          have := hd 10
          exact ⟨by simp; omega, hr hc⟩
        · simp
      · split
        · split
          · rename_i hc
            have hn := of_decide_eq_true hc
            have := hd 16
            exact ⟨by simp; omega, hr hc⟩
          · simp
        · simp

set_option maxRecDepth 100000 in
set_option maxHeartbeats 2000000 in
theorem unescape_law (A : Option Addr) (b off len cap : Nat) (hA : 0 < len → A = some ⟨b, off, none⟩) (K N : Nat → Int) (T : Nat → ByteArray) (w : World) (hl : len ≤ 9223372036854775807) (h : PartsAt w b off len K N T) (hlt : 0 < len → b < w.heap.size) (hT : ∀ i, (T i).size ≤ 9223372036854775807) :
    Calls Try.prog 3 #[.slice A len cap] w fun e w' => e = .returned (.bool true) ∧ Below w.heap.size w w' := by
  have H := Lib.hid h
  have HT := Lib.hid hT
  clear h hT
  have cf := Lib.hid (fits26 A b off len cap hA K N T w hl H.out hlt)
  have HA := Lib.hid hA
  clear hA
  by_cases hbig : 60 < len
  · go_enter Try.func3, Try.ntmps3
    go_wp2_with (go_at_call 7; refine cf.out.mono ?_; rintro e w1 ⟨bb, rfl, hb1⟩; cases bb)
    all_goals
      go_ret
      exact ⟨rfl, hb1⟩
  · go_enter Try.func3, Try.ntmps3
    go_wp2_with (go_at_call 7; refine cf.out.mono ?_; rintro e w1 ⟨bb, rfl, hb1⟩; cases bb)
    · go_ret
      exact ⟨rfl, hb1⟩
    · have HB1 := Lib.hid hb1
      clear hb1
      go_loopg [3, 4, 18] len (fun q v3 v4 v wr => ∃ (i : Nat) (W M : Bs), v = .int .i64 i ∧ v3 = .string ⟨W.toArray⟩ ∧ v4 = .string ⟨M.toArray⟩ ∧ q + i = len ∧ W.length ≤ 1200000 * i ∧ M.length ≤ 1200000 * i ∧ Hid (Below w.heap.size w wr) ∧ Hid (W = wrOf K N T i) ∧ Hid (M = mnOf K N T i) ∧ Hid (∀ j, j < i → (partOf (K j) (N j) (T j).data.toList).2.2 = true))
      case atStart => exact ⟨0, [], [], rfl, rfl, rfl, by omega, by simp, by simp, HB1.out, rfl, rfl, fun j hj => by omega⟩
      case round =>
        obtain ⟨i, W, M, rfl, rfl, rfl, hq, hwl, hml, HB, HW, HM, HO⟩ := hrel
        have HQ := Lib.hid hq
        clear hq
        by_cases hi : i < len
        · have hAe := HA.out (by omega)
          subst hAe
          have hp := H.out.below HB.out hlt i hi
          obtain ⟨c0, c1, c2⟩ := hp
          obtain ⟨ki, hki⟩ : ∃ ki, ki = K i := ⟨_, rfl⟩
          obtain ⟨ni, hni⟩ : ∃ ni, ni = N i := ⟨_, rfl⟩
          obtain ⟨ti, hti⟩ : ∃ ti, ti = T i := ⟨_, rfl⟩
          have cp := fun W => part_any ki ni ti W (by rw [hti]; exact HT.out i)
          obtain ⟨pa, pb, pc, hpp⟩ : ∃ pa pb pc, partOf ki ni ti.data.toList = (pa, pb, pc) := ⟨_, _, _, rfl⟩
          rw [hpp] at cp
          have hpl := part_len ki ni ti.data.toList
          rw [hpp] at hpl
          have hpp2 : partOf (K i) (N i) (T i).data.toList = (pa, pb, pc) := by rw [← hki, ← hni, ← hti, hpp]
          rw [← hki] at c0
          rw [← hni] at c1
          rw [← hti] at c2
          have CP := Lib.hid cp
          have HPL := Lib.hid hpl
          have HPP := Lib.hid hpp2
          clear hki hni hti cp hpp hpl hpp2
          have hblt := hlt (by omega)
          cases pc with
          | false =>
            go_wp2_with (go_at_call 8; refine (CP.out _).mono ?_; rintro e w' ⟨rfl, hb'⟩)
            go_ret
            exact ⟨rfl, HB.out.trans (((Below.refl _ wr).alloc (Nat.le_refl _) _ |>.trans (hb'.mono (by simp))).mono HB.out.size)⟩
          | true =>
            have hla := (HPL.out rfl).1
            have hlb := (HPL.out rfl).2
            simp only at hla hlb
            go_wp2_with (go_at_call 8; refine (CP.out _).mono ?_; rintro e w' ⟨rfl, hb'⟩)
            go_roundg (gk - 1)
            case measure => have := HQ.out; omega
            case rel =>
              refine ⟨i + 1, W ++ pa, M ++ pb, by go_num, ?_, ?_, by have := HQ.out; omega, by rw [List.length_append]; omega, by rw [List.length_append]; omega, HB.out.trans (((Below.refl _ wr).alloc (Nat.le_refl _) _ |>.trans (hb'.mono (by simp))).mono HB.out.size), ?_, ?_, ?_⟩
              · congr 1
              · congr 1
              · show _ = _; rw [wrOf, HPP.out, HW.out]
              · show _ = _; rw [mnOf, HPP.out, HM.out]
              · intro j hj
                by_cases e : j = i
                · subst e; rw [HPP.out]
                · exact HO.out j (by omega)
        · have hil : i = len := by have := HQ.out; omega
          have hlaw := parts_law K N T i [] HO.out
          rw [unescape_nil, List.append_nil, List.append_nil, ← HW.out, ← HM.out] at hlaw
          have cu1 := fun W' => unesc9 ⟨W.toArray⟩ W' (by show W.toArray.size ≤ _; simp; omega)
          have e1 : (⟨W.toArray⟩ : ByteArray).data.toList = W := rfl
          rw [e1, hlaw] at cu1
          have cu2 := fun W' => unesc9 ⟨#[38, 108, 116, 59]⟩ W' (by decide)
          have e2 : (⟨#[38, 108, 116, 59]⟩ : ByteArray).data.toList = [38, 108, 116, 59] := rfl
          rw [e2, unesc_lt] at cu2
          obtain ⟨WB, hWB⟩ : ∃ WB : ByteArray, WB = ⟨W.toArray⟩ := ⟨_, rfl⟩
          obtain ⟨MB, hMB⟩ : ∃ MB : ByteArray, MB = ⟨M.toArray⟩ := ⟨_, rfl⟩
          unfold StrPost at cu1 cu2
          rw [← hWB, ← hMB] at cu1 ⊢
          have CU1 := Lib.hid cu1
          have CU2 := Lib.hid cu2
          clear cu1 cu2 e1 e2 hlaw hWB hMB
          go_wp2_with (first | (go_at_call_of 9 (Value.string WB); refine (CU1.out _).mono ?_; rintro e w2 ⟨rfl, hb2⟩) | (go_at_call 9; refine (CU2.out _).mono ?_; rintro e w3 ⟨rfl, hb3⟩))
          go_ret
          exact ⟨rfl, HB.out.trans ((hb2.trans (hb3.mono hb2.size)).mono HB.out.size)⟩
end Go.Proofs.Ytkogokjlpgnmlaa
