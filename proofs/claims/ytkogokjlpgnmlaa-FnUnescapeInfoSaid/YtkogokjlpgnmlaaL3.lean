/- FnUnescapeBack: the walk of the law. -/
import Derived.Test.YtkogokjlpgnmlaaG10
import Derived.Test.YtkogokjlpgnmlaaP2
import Derived.Test.YtkogokjlpgnmlaaL1
import Derived.Laws.BytesArg
set_option linter.unusedVariables false
set_option linter.unusedSimpArgs false
namespace Go.Proofs.Ytkogokjlpgnmlaa
open Go.RowKit

/-- A slice of bytes that came in. -/
def RowB (w : World) (A : Option Addr) (len cap : Nat) (l : Bs) : Prop :=
  (A = none ∧ len = 0 ∧ cap = 0 ∧ l = []) ∨ ∃ x, A = some x ∧ l.length = len ∧ ∀ i, i < len → w.cell? (x.add i) = some (.int .u8 (l.getD i 0).toNat)
theorem rowB_len {w : World} {A : Option Addr} {len cap : Nat} {l : Bs} (h : RowB w A len cap l) : l.length = len := by
  rcases h with ⟨_, rfl, _, rfl⟩ | ⟨_, _, h, _⟩
  · rfl
  · exact h
theorem rowB_below {w W : World} {A : Option Addr} {len cap : Nat} {l : Bs} (h : RowB w A len cap l) (hb : Below w.heap.size w W) : RowB W A len cap l := by
  rcases h with h | ⟨x, hx, h1, h2⟩
  · exact Or.inl h
  · refine Or.inr ⟨x, hx, h1, fun i hi => ?_⟩
    rw [hb.cell (Lib.lt_of_cell (h2 i hi))]
    exact h2 i hi
theorem clone_row {w : World} {A : Option Addr} {len cap : Nat} {l : Bs} (h : RowB w A len cap l) (hl : len ≤ 140737488355328) :
    Calls Try.prog 11 #[.slice A len cap] w fun e w' => ∃ v', e = .returned v' ∧ NewB w l v' w' := by
  rcases h with ⟨rfl, rfl, rfl, rfl⟩ | ⟨x, rfl, h1, h2⟩
  · refine (Try.bytes_Clone_nil 0 0 w).mono ?_
    rintro e w' ⟨rfl, rfl⟩
    exact ⟨_, rfl, Or.inl ⟨rfl, rfl⟩, Below.refl _ _, fun g hg => by simp [Value.ownBlock] at hg⟩
  · refine (Try.bytes_Clone_at x len cap (l.map fun b => (b.toNat : Int)) w (by simp [h1]) hl (fun i hi => ?_)).mono ?_
    · rw [h2 i hi]
      simp [List.getD_eq_getElem?_getD, List.getElem?_eq_getElem (show i < l.length by omega)]
    · rintro e w' ⟨v', rfl, ho, -, hb⟩
      have hc : (l.map fun b => (b.toNat : Int)).map (Value.int .u8) = cellsB l := by
        unfold cellsB
        rw [List.map_map]
        rfl
      rw [hc] at ho
      obtain ⟨q1, q2⟩ := slB_of_owns h1.symm ho
      exact ⟨v', rfl, q1, hb, q2⟩
theorem conv_row {w : World} {A : Option Addr} {len cap : Nat} {l : Bs} (h : RowB w A len cap l) : (convert 29 9 (.slice A len cap)).run Try.prog w = .ok (.string ⟨l.toArray⟩) w := by
  rcases h with ⟨rfl, rfl, rfl, rfl⟩ | ⟨x, rfl, rfl, h2⟩
  · exact run_convert_bytes_nil w 29 5 Try.underlying29 Try.underlying5 0 0 9 Try.underlying9
  · exact run_convert_bytes_back (P := Try.prog) w 29 9 5 x cap l Try.underlying29 Try.underlying5 Try.underlying9 (fun j hj => by
      rw [h2 j hj]
      simp [List.getD_eq_getElem?_getD, List.getElem?_eq_getElem hj])
theorem conv_sl {w : World} {v : Value} {l : Bs} (h : SlB w v l) : (convert 29 9 v).run Try.prog w = .ok (.string ⟨l.toArray⟩) w := by
  rcases h with ⟨rfl, rfl⟩ | ⟨g, cap, rfl, h1, h2, h3, h4⟩
  · exact run_convert_bytes_nil w 29 5 Try.underlying29 Try.underlying5 0 0 9 Try.underlying9
  · exact run_convert_bytes_back (P := Try.prog) w 29 9 5 ⟨g, 0, none⟩ cap l Try.underlying29 Try.underlying5 Try.underlying9 (fun j hj => by
      rw [add_at, Nat.zero_add, h4 j _ (cellsB_get l j hj)]
      simp [List.getD_eq_getElem?_getD, List.getElem?_eq_getElem hj])

set_option maxRecDepth 100000 in
set_option maxHeartbeats 4000000 in
theorem back_walk (A : Option Addr) (len cap : Nat) (l : Bs) (w : World) (hA : RowB w A len cap l) :
    Calls Try.prog 4 #[.slice A len cap] w fun e w' => e = .returned (.bool true) ∧ Below w.heap.size w w' := by
  by_cases hbig : 2000 < len
  · clear hA
    by_cases hb2 : 2147483647 < len
    · go_enter Try.func4, Try.ntmps4
      go_wp2
      go_ret
      exact ⟨rfl, Below.refl _ _⟩
    · go_enter Try.func4, Try.ntmps4
      go_wp2
      go_ret
      exact ⟨rfl, Below.refl _ _⟩
  · have hll := rowB_len hA
    obtain ⟨o, ho⟩ : ∃ o, o = esc false l 0 := ⟨_, rfl⟩
    have hol : o.length ≤ 12000 := by
      have := esc_len false l l.length 0 (by omega)
      rw [ho]
      omega
    have hback : unescape o = l := by rw [ho]; exact back_all l
    obtain ⟨LB, hLB⟩ : ∃ LB : ByteArray, LB = ⟨l.toArray⟩ := ⟨_, rfl⟩
    obtain ⟨OB, hOB⟩ : ∃ OB : ByteArray, OB = ⟨o.toArray⟩ := ⟨_, rfl⟩
    have c1 : ∀ W, Below w.heap.size w W → Calls Try.prog 11 #[.slice A len cap] W fun e w' => ∃ v', e = .returned v' ∧ SlB w' v' l ∧ Below w.heap.size w w' ∧ (convert 29 9 (.slice A len cap)).run Try.prog w' = .ok (.string LB) w' := fun W hW => by
      refine (clone_row (rowB_below hA hW) (by omega)).mono ?_
      rintro e w' ⟨v', rfl, h1, h2, h3⟩
      have hb := hW.trans (h2.mono hW.size)
      exact ⟨v', rfl, h1, hb, by rw [hLB]; exact conv_row (rowB_below hA hb)⟩
    have c2 : ∀ v1 W, SlB W v1 l → Below w.heap.size w W → Calls Try.prog 10 #[v1] W fun e w' => ∃ v', e = .returned v' ∧ Below w.heap.size w w' ∧ (convert 29 9 (.slice A len cap)).run Try.prog w' = .ok (.string LB) w' ∧ (convert 29 9 v').run Try.prog w' = .ok (.string OB) w' := fun v1 W h1 hW => by
      refine (impl10 v1 l o W h1 (by omega) (by omega) (by rw [ho]; exact fills24 W l (by rw [← ho]; omega))).mono ?_
      rintro e w' ⟨v', rfl, h1, h2, h3⟩
      have hb := hW.trans (h2.mono hW.size)
      exact ⟨v', rfl, hb, by rw [hLB]; exact conv_row (rowB_below hA hb), by rw [hOB]; exact conv_sl h1⟩
    have c3 : ∀ W, Below w.heap.size w W → Calls Try.prog 9 #[.string OB] W fun e w' => e = .returned (.string LB) ∧ Below w.heap.size w w' ∧ (convert 29 9 (.slice A len cap)).run Try.prog w' = .ok (.string LB) w' := fun W hW => by
      have := unesc9 OB W (by rw [hOB]; simp [ByteArray.size]; omega)
      refine this.mono ?_
      rintro e w' ⟨rfl, h2⟩
      have hb := hW.trans (h2.mono hW.size)
      have e1 : OB.data.toList = o := by rw [hOB]
      exact ⟨by rw [hLB, e1, hback], hb, by rw [hLB]; exact conv_row (rowB_below hA hb)⟩
    have c4 : ∀ W, Below w.heap.size w W → Calls Try.prog 9 #[.string ⟨#[38, 108, 116, 59]⟩] W fun e w' => e = .returned (.string ⟨#[60]⟩) ∧ Below w.heap.size w w' := fun W hW => by
      have := unesc9 ⟨#[38, 108, 116, 59]⟩ W (by decide)
      refine this.mono ?_
      rintro e w' ⟨rfl, h2⟩
      have e2 : (⟨#[38, 108, 116, 59]⟩ : ByteArray).data.toList = [38, 108, 116, 59] := rfl
      exact ⟨by rw [e2, unesc_lt], hW.trans (h2.mono hW.size)⟩
    have hd : Below w.heap.size w w.drew := (Below.refl _ w).drew
    have hc0 : (convert 29 9 (.slice A len cap)).run Try.prog w.drew = .ok (.string LB) w.drew := by rw [hLB]; exact conv_row (rowB_below hA hd)
    have C1 := Lib.hid c1
    have C2 := Lib.hid c2
    have C3 := Lib.hid c3
    have C4 := Lib.hid c4
    have HD := Lib.hid hd
    clear c1 c2 c3 c4 hd hA hback hol hLB hOB ho hll
    go_enter Try.func4, Try.ntmps4
    go_wp2_with fail
    go_region_with (first
      | (go_at_call 11; refine (C1.out _ HD.out).mono ?_; rintro e w1 ⟨v1, rfl, hs1, hb1, hc1⟩; have HS1 := Lib.hid hs1; have HB1 := Lib.hid hb1; clear hs1 hb1)
      | (go_at_call 10; refine (C2.out _ _ HS1.out HB1.out).mono ?_; rintro e w2 ⟨v2, rfl, hb2, hc2, hv2⟩; have HB2 := Lib.hid hb2; clear hb2)
      | (go_at_call_of 9 (Value.string OB); refine (C3.out _ HB2.out).mono ?_; rintro e w3 ⟨rfl, hb3, hc3⟩; have HB3 := Lib.hid hb3; clear hb3)
      | (go_at_call 9; refine (C4.out _ HB3.out).mono ?_; rintro e w4 ⟨rfl, hb4⟩; have HB4 := Lib.hid hb4; clear hb4))
    all_goals (go_wp2; go_ret; exact ⟨rfl, HB4.out⟩)
end Go.Proofs.Ytkogokjlpgnmlaa
