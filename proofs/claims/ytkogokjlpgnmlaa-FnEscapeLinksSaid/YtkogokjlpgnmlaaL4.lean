/- FnEscapeLinks: the walk of the law. -/
import Derived.Test.YtkogokjlpgnmlaaG11
set_option linter.unusedVariables false
set_option linter.unusedSimpArgs false
namespace Go.Proofs.Ytkogokjlpgnmlaa
open Go.RowKit

theorem lt_law : esc true (unescape [38, 108, 116, 59]) 0 = [38, 108, 116, 59] := by
  rw [unesc_lt, esc_esc true [60] 0 (by decide) (by decide) (Or.inr (by unfold nodeT; rw [if_neg (by decide)])), esc_end_ true [60] (0 + 1) (by decide)]
  decide

theorem slB_const (W : World) (l : Bs) (fr : Nat × Nat) (hl : l.length ≤ maxLen) : SlB (W.alloc (.cells (cellsB l).toArray 5 fr)) (.slice (some ⟨W.heap.size, 0, none⟩) l.length l.length) l := by
  have hh : (W.alloc (.cells (cellsB l).toArray 5 fr)).heap[W.heap.size]? = some (.cells (cellsB l).toArray 5 fr) := by
    show (W.heap.push _)[W.heap.size]? = _
    simp
  refine Or.inr ⟨W.heap.size, l.length, rfl, Nat.le_refl _, hl, Lib.lt_of_heap hh, fun j x hj => ?_⟩
  unfold World.cell?
  rw [hh]
  simpa using hj

set_option maxRecDepth 100000 in
set_option maxHeartbeats 8000000 in
theorem links_walk (A : Option Addr) (len cap : Nat) (l : Bs) (w : World) (hA : RowB w A len cap l) :
    Calls Try.prog 5 #[.slice A len cap] w fun e w' => e = .returned (.bool true) ∧ Below w.heap.size w w' := by
  by_cases hbig : 2000 < len
  · clear hA
    by_cases hb2 : 2147483647 < len
    · go_enter Try.func5, Try.ntmps5
      go_wp2
      go_ret
      exact ⟨rfl, Below.refl _ _⟩
    · go_enter Try.func5, Try.ntmps5
      go_wp2
      go_ret
      exact ⟨rfl, Below.refl _ _⟩
  · have hll := rowB_len hA
    obtain ⟨u, hu⟩ : ∃ u, u = unescape l := ⟨_, rfl⟩
    have hul : u.length ≤ 2000 := by
      have := unescape_len l.length l (Nat.le_refl _)
      rw [hu]
      omega
    obtain ⟨o, ho⟩ : ∃ o, o = esc true u 0 := ⟨_, rfl⟩
    have hol : o.length ≤ 12000 := by
      have := esc_len true u u.length 0 (by omega)
      rw [ho]
      omega
    obtain ⟨LB, hLB⟩ : ∃ LB : ByteArray, LB = ⟨l.toArray⟩ := ⟨_, rfl⟩
    obtain ⟨UB, hUB⟩ : ∃ UB : ByteArray, UB = ⟨u.toArray⟩ := ⟨_, rfl⟩
    have c1 : ∀ W, Below w.heap.size w W → Calls Try.prog 11 #[.slice A len cap] W fun e w' => ∃ v', e = .returned v' ∧ SlB w' v' l ∧ Below w.heap.size w w' ∧ (convert 29 9 (.slice A len cap)).run Try.prog w' = .ok (.string LB) w' := fun W hW => by
      refine (clone_row (rowB_below hA hW) (by omega)).mono ?_
      rintro e w' ⟨v', rfl, h1, h2, h3⟩
      have hb := hW.trans (h2.mono hW.size)
      exact ⟨v', rfl, h1, hb, by rw [hLB]; exact conv_row (rowB_below hA hb)⟩
    have c2 : ∀ v1 W, SlB W v1 l → Below w.heap.size w W → Calls Try.prog 13 #[v1] W fun e w' => ∃ v', e = .returned v' ∧ SlB w' v' o ∧ Below w.heap.size w w' ∧ (convert 29 9 (.slice A len cap)).run Try.prog w' = .ok (.string LB) w' := fun v1 W h1 hW => by
      refine (impl13 v1 l o W h1 (by omega) (by omega) (by rw [ho, hu]; exact fills27 W l (by omega))).mono ?_
      rintro e w' ⟨v', rfl, h1, h2, h3⟩
      have hb := hW.trans (h2.mono hW.size)
      exact ⟨v', rfl, h1, hb, by rw [hLB]; exact conv_row (rowB_below hA hb)⟩
    have c3 : ∀ v2 W, SlB W v2 o → Below w.heap.size w W → Calls Try.prog 9 #[.string LB] W fun e w' => e = .returned (.string UB) ∧ ∃ (w4 : World) (c : Nat), (convert 9 29 (.string UB)).run Try.prog w' = .ok (.slice (some ⟨w'.heap.size, 0, none⟩) UB.size c) w4 ∧ Hid (SlB w4 (.slice (some ⟨w'.heap.size, 0, none⟩) UB.size c) u ∧ SlB w4 v2 o ∧ Below w.heap.size w w4) := fun v2 W h1 hW => by
      refine (unesc9 LB W (by rw [hLB]; simp [ByteArray.size]; omega)).mono ?_
      rintro e w' ⟨rfl, h2⟩
      have e1 : LB.data.toList = l := by rw [hLB]
      rw [e1, ← hu, ← hUB]
      have e2 : UB.size = u.length := by rw [hUB]; rfl
      have hs := slB_below h1 h2
      have hb := hW.trans (h2.mono hW.size)
      obtain ⟨w1, c, hc, k1, k2, hB, hbel, hsz⟩ := bytes_buf w' UB (by omega)
      have e3 : UB.data.toList = u := by rw [hUB]
      rw [e3] at hB
      exact ⟨rfl, w1, c, hc, slB_of_buf e2 hB k1 (by unfold maxLen; omega) (by omega), slB_below hs hbel, hb.trans (hbel.mono hb.size)⟩
    have c4 : ∀ v2 v4 W, SlB W v4 u → SlB W v2 o → Below w.heap.size w W → Calls Try.prog 14 #[v4] W fun e w' => ∃ v', e = .returned v' ∧ SlB w' v' o ∧ SlB w' v2 o ∧ Below w.heap.size w w' := fun v2 v4 W h1 h2 hW => by
      refine (impl14 v4 u o W h1 (by omega) (by omega) (by rw [ho]; exact fills28 W u (by rw [← ho]; omega))).mono ?_
      rintro e w' ⟨v', rfl, k1, k2, k3⟩
      exact ⟨v', rfl, k1, slB_below h2 k2, hW.trans (k2.mono hW.size)⟩
    have c5 : ∀ v2 v5 W, SlB W v2 o → SlB W v5 o → Calls Try.prog 12 #[v2, v5] W fun e w' => e = .returned (.bool true) ∧ W = w' := fun v2 v5 W h1 h2 => by
      refine (Try.bytes_Equal_strs v2 v5 _ _ W (conv_sl h1) (conv_sl h2)).mono ?_
      rintro e w' ⟨rfl, rfl⟩
      exact ⟨by rw [beq_self_eq_true], rfl⟩
    have c6 : ∀ W fr, Below w.heap.size w W → Calls Try.prog 13 #[.slice (some ⟨W.heap.size, 0, none⟩) 4 4] (W.alloc (.cells #[.int .u8 38, .int .u8 108, .int .u8 116, .int .u8 59] 5 fr)) fun e w' => ∃ v', e = .returned v' ∧ Below w.heap.size w w' ∧ (convert 29 9 v').run Try.prog w' = .ok (.string ⟨#[38, 108, 116, 59]⟩) w' := fun W fr hW => by
      have hs := slB_const W [38, 108, 116, 59] fr (by unfold maxLen; decide)
      have hb := hW.alloc hW.size (.cells #[.int .u8 38, .int .u8 108, .int .u8 116, .int .u8 59] 5 fr)
      have hf := fills27 (W.alloc (.cells (cellsB [38, 108, 116, 59]).toArray 5 fr)) [38, 108, 116, 59] (by decide)
      rw [lt_law] at hf
      refine (impl13 _ [38, 108, 116, 59] [38, 108, 116, 59] _ hs (by decide) (by decide) hf).mono ?_
      rintro e w' ⟨v', rfl, k1, k2, k3⟩
      exact ⟨v', rfl, hb.trans (k2.mono hb.size), conv_sl k1⟩
    have hd : Below w.heap.size w w.drew := (Below.refl _ w).drew
    have hc0 : (convert 29 9 (.slice A len cap)).run Try.prog w.drew = .ok (.string LB) w.drew := by rw [hLB]; exact conv_row (rowB_below hA hd)
    have hcv : ∀ (w : World) (C : Array Value) (n c : Nat), (convert 29 29 (.slice (some ⟨w.heap.size, 0, none⟩) n c)).run Try.prog (w.alloc (.cells C 5)) = .ok (.slice (some ⟨w.heap.size, 0, none⟩) n c) (w.alloc (.cells C 5 (C.size, C.size + 1))) := fun w C n c => Lib.run_convert_bytes_const w 29 5 C n c Try.underlying29 Try.underlying5
    have C1 := Lib.hid c1
    have C2 := Lib.hid c2
    have C3 := Lib.hid c3
    have C4 := Lib.hid c4
    have C5 := Lib.hid c5
    have C6 := Lib.hid c6
    have HD := Lib.hid hd
    have tok : True := trivial
    clear c1 c2 c3 c4 c5 c6 hd hA hol hul hLB hUB ho hu hll
    go_enter Try.func5, Try.ntmps5
    go_wp2_with fail
    go_region_with (first
      | (go_at_call 11; refine (C1.out _ HD.out).mono ?_; rintro e w1 ⟨v1, rfl, hs1, hb1, hc1⟩; have HS1 := Lib.hid hs1; have HB1 := Lib.hid hb1; clear hs1 hb1)
      | (clear tok; go_at_call 13; refine (C2.out _ _ HS1.out HB1.out).mono ?_; rintro e w2 ⟨v2, rfl, hs2, hb2, hc2⟩; have HS2 := Lib.hid hs2; have HB2 := Lib.hid hb2; clear hs2 hb2)
      | (go_at_call 9; refine (C3.out v2 _ HS2.out HB2.out).mono ?_; rintro e w3 ⟨rfl, w4, c4, hc4, H4⟩)
      | (go_at_call 14; refine (C4.out v2 _ _ H4.out.1 H4.out.2.1 H4.out.2.2).mono ?_; rintro e w5 ⟨v5, rfl, hs5, hs25, hb5⟩; have HS5 := Lib.hid hs5; have HS25 := Lib.hid hs25; have HB5 := Lib.hid hb5; clear hs5 hs25 hb5)
      | (go_at_call 12; refine (C5.out _ _ _ HS25.out HS5.out).mono ?_; rintro e w6 ⟨rfl, rfl⟩)
      | (go_at_call 13; refine (C6.out _ _ HB5.out).mono ?_; rintro e w8 ⟨v8, rfl, hb8, hc8⟩; have HB8 := Lib.hid hb8; clear hb8))
    all_goals (go_wp2; go_ret; exact ⟨rfl, HB8.out⟩)
end Go.Proofs.Ytkogokjlpgnmlaa
