/- FnUnescapeInfo: unescapeChar; what is written of an info string. -/
import Derived.Test.YtkogokjlpgnmlaaI10
import Derived.Test.YtkogokjlpgnmlaaG11
import Derived.Lib.BufSteps
import Derived.StillTailTactics
set_option linter.unusedVariables false
set_option linter.unusedSimpArgs false
namespace Go.Proofs.Ytkogokjlpgnmlaa
open Go.RowKit

/-- v reads as o, in a new block. -/
def NewS (w : World) (o : Bs) (v : Value) (w' : World) : Prop :=
  ∃ g cap, v = .slice (some ⟨g, 0, none⟩) o.length cap ∧ w.heap.size ≤ g ∧ g < w'.heap.size ∧ (∀ j x, (cellsB o)[j]? = some x → w'.cell? ⟨g, j, none⟩ = some x) ∧ Below w.heap.size w w'

set_option maxRecDepth 100000 in
set_option maxHeartbeats 2000000 in
theorem uchar_esc (b off n c : Nat) (l : Bs) (w : World) (hn : l.length = n) (h2 : 2 ≤ n) (hR : RdO w b off l) (h0 : l.getD 0 0 = 92) :
    Calls Try.prog 46 #[.slice (some ⟨b, off, none⟩) n c] w fun e w' => ∃ v', e = .returned v' ∧ NewS w [l.getD 1 0] v' w' := by
  have hc0 : w.cell? ⟨b, off, none⟩ = some (.int .u8 92) := by
    have := hR 0 (by omega)
    rw [h0, Nat.add_zero] at this
    exact this
  have hc1 := hR 1 (by omega)
  obtain ⟨x, hx⟩ : ∃ x, x = l.getD 1 0 := ⟨_, rfl⟩
  rw [← hx] at hc1 ⊢
  clear hx hR h0 hn
  go_enter Try.func46, Try.ntmps46
  go_wp2
  go_ret
  refine ⟨_, rfl, w.heap.size, 1, rfl, Nat.le_refl _, by simp, fun j u hj => ?_, (Below.refl _ _).alloc (Nat.le_refl _) _⟩
  have hh : (w.alloc (.cells #[.int .u8 x.toNat] 5)).heap[w.heap.size]? = some (.cells #[.int .u8 x.toNat] 5) := by
    show (w.heap.push _)[w.heap.size]? = _
    simp
  rw [Lib.cell_of_heap hh]
  simpa [cellsB] using hj

set_option maxRecDepth 100000 in
set_option maxHeartbeats 2000000 in
theorem uchar_ent (b off n c : Nat) (l : Bs) (w : World) (hn : l.length = n) (h2 : 1 ≤ n) (hc : n ≤ 9223372036854775807) (hR : RdO w b off l) (h0 : l.getD 0 0 ≠ 92) :
    Calls Try.prog 46 #[.slice (some ⟨b, off, none⟩) n c] w fun e w' => ∃ v', e = .returned v' ∧ NewS w (unescape l) v' w' := by
  have hc0 : w.cell? ⟨b, off, none⟩ = some (.int .u8 (l.getD 0 0).toNat) := by
    have := hR 0 (by omega)
    rw [Nat.add_zero] at this
    exact this
  have b92 : (((l.getD 0 0).toNat : Int) == 92) = false := byte_ne (by decide) h0
  obtain ⟨x, hx⟩ : ∃ x, x = l.getD 0 0 := ⟨_, rfl⟩
  rw [← hx] at hc0 b92
  obtain ⟨S, hS⟩ : ∃ S : ByteArray, S = ⟨l.toArray⟩ := ⟨_, rfl⟩
  obtain ⟨U, hU⟩ : ∃ U : ByteArray, U = ⟨(unescape l).toArray⟩ := ⟨_, rfl⟩
  have hul := unescape_len l.length l (Nat.le_refl _)
  have hcv : (convert 29 9 (.slice (some ⟨b, off, none⟩) n c)).run Try.prog w = .ok (.string S) w := by
    rw [hS]
    subst hn
    exact run_convert_bytes_back (P := Try.prog) w 29 9 5 ⟨b, off, none⟩ c l Try.underlying29 Try.underlying5 Try.underlying9 (fun j hj => by
      rw [add_at, hR j hj]
      simp [List.getD_eq_getElem?_getD, List.getElem?_eq_getElem hj])
  have cu : Calls Try.prog 36 #[.string S] w fun e w' => e = .returned (.string U) ∧ ∃ (w4 : World) (c4 : Nat), (convert 9 29 (.string U)).run Try.prog w' = .ok (.slice (some ⟨w'.heap.size, 0, none⟩) U.size c4) w4 ∧ Hid (NewS w (unescape l) (.slice (some ⟨w'.heap.size, 0, none⟩) U.size c4) w4) := by
    refine (ustr_any S w (by rw [hS]; show l.toArray.size ≤ _; simp; omega)).mono ?_
    rintro e w' ⟨rfl, h2⟩
    have e1 : S.data.toList = l := by rw [hS]
    rw [e1, ← hU]
    have e2 : U.size = (unescape l).length := by rw [hU]; rfl
    obtain ⟨w1, c4, hc4, k1, k2, hB, hbel, hsz⟩ := bytes_buf w' U (by omega)
    have e3 : U.data.toList = unescape l := by rw [hU]
    rw [e3] at hB
    have hs := slB_of_buf e2 hB k1 (by unfold maxLen; omega) (by omega)
    refine ⟨rfl, w1, c4, hc4, ?_⟩
    rcases hs with ⟨hs, _⟩ | ⟨g, cap, hs, q1, q2, q3, q4⟩
    · cases hs
    · injection hs with a1 a2 a3
      injection a1 with a1
      injection a1 with a1
      subst a1
      exact ⟨w'.heap.size, c4, by rw [e2], h2.size, q3, q4, h2.trans (hbel.mono h2.size)⟩
  have CU := Lib.hid cu
  clear cu hx hS hU hR h0 hn hul
  go_enter Try.func46, Try.ntmps46
  go_wp2_with (go_at_call 36; refine CU.out.mono ?_; rintro e w' ⟨rfl, w4, c4, hc4, H4⟩)
  go_ret
  exact ⟨_, rfl, H4.out⟩

/-- What is written of the text from i on; f bounds how many steps there are. -/
noncomputable def infoW (l : Bs) : Nat → Nat → Bs
  | 0, _ => []
  | f + 1, i =>
    if i < l.length then
      if l.getD i 0 = 92 ∧ i + 1 < l.length ∧ isPun (l.getD (i + 1) 0) = true then l.getD (i + 1) 0 :: infoW l f (i + 2)
      else if 0 < infoE l i then unescape ((l.drop i).take (infoE l i - i)) ++ infoW l f (infoE l i)
      else l.getD i 0 :: infoW l f (i + 1)
    else []
theorem semiB_ge {l : Bs} {e : Nat} (h : 0 < semiB l e) : semiB l e = e + 1 ∧ e < l.length := by
  unfold semiB at h ⊢
  split
  · rename_i h1
    exact ⟨rfl, atB_lt h1⟩
  · rename_i h1
    rw [if_neg h1] at h
    omega
theorem infoE_le {l : Bs} {i : Nat} (h : 0 < infoE l i) : i + 1 < infoE l i ∧ infoE l i ≤ l.length ∧ l.getD i 0 = 38 := by
  have h38 : atB l i 38 = true := by
    cases h38 : atB l i 38 with
    | true => rfl
    | false => unfold infoE at h; rw [if_pos h38] at h; omega
  have hlt := atB_lt h38
  refine ⟨?_, ?_, by unfold atB at h38; simp at h38; simpa using h38.2⟩
  all_goals
    unfold infoE at h ⊢
    rw [if_neg (by rw [h38]; decide)] at h ⊢
    split at h
    · rename_i h35
      rw [if_pos h35]
      split at h
      · omega
      · rename_i hn
        rw [if_neg hn]
        obtain ⟨q1, q2⟩ := semiB_ge h
        have := (runB_ge isAln (l.drop (i + 1)) (i + 1)).1
        omega
    · rename_i h35
      rw [if_neg h35]
      split at h
      · rename_i hx
        rw [if_pos hx]
        split at h
        · omega
        · rename_i hn
          rw [if_neg hn]
          obtain ⟨q1, q2⟩ := semiB_ge h
          have := (runB_ge isHx (l.drop (i + 3)) (i + 3)).1
          omega
      · rename_i hx
        rw [if_neg hx]
        split at h
        · omega
        · rename_i hn
          rw [if_neg hn]
          obtain ⟨q1, q2⟩ := semiB_ge h
          have := (runB_ge isDig (l.drop (i + 2)) (i + 2)).1
          omega

theorem wpList_append_new {ops : Array Oper} {rest : List Oper} {o : Oper} {a : Act} {Q : Exit → Act → World → Prop} {w : World} (hgd : o.guard = none) (s x : Operand)
    (ho : o.op = .call { callee := .builtin .append, args := #[s, x], argTypes := #[29, 29] })
    (B : Nat) (v : Value) (n : Nat) (xs : List Value) (hs : a.eval s = v) (W0 : World) (hb : Lib.OwnBuf B 5 v n xs W0 w) (g cap : Nat) (O : Bs)
    (hx : a.eval x = .slice (some ⟨g, 0, none⟩) O.length cap) (hc : ∀ j u, (cellsB O)[j]? = some u → w.cell? ⟨g, j, none⟩ = some u) (hlen : n + O.length ≤ 140737488355328)
    (h : ∀ v' w', Lib.OwnBuf B 5 v' (n + O.length) (xs ++ cellsB O) W0 w' → wpList Try.prog ops Q rest (a.put o.dst v') w') : wpList Try.prog ops Q (o :: rest) a w := by
  obtain ⟨i0, hi, hz0, hz1, hz2⟩ := info_parts info5
  refine wpList_append_ownF _ hgd s x 29 ho B 5 i0 (.int .u8 0) 1 1 Try.underlying29 hi hz0 hz1 hz2 rfl (by decide) v n xs hs hb.1 ⟨g, 0, none⟩ O.length cap (cellsB O) hx (by rw [cellsB_length]; omega) ?_ ?_ (by unfold maxLen; omega) (by omega) hb.2.2 ?_
  · intro j u hj
    rw [add_at, Nat.zero_add]
    exact hc j u hj
  · intro u hu
    obtain ⟨y, _, rfl⟩ := List.mem_map.1 hu
    rfl
  · intro v' w' ho' hg _
    exact h v' w' (hb.grown ho' hg)
end Go.Proofs.Ytkogokjlpgnmlaa
