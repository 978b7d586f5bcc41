/- FnUnescape: the walk of the law. -/
import Derived.Test.YtkogokjlpgnmlaaF3
import Derived.Test.YtkogokjlpgnmlaaU7
set_option linter.unusedVariables false
set_option linter.unusedSimpArgs false
namespace Go.Proofs.Ytkogokjlpgnmlaa
open Go.RowKit

set_option maxHeartbeats 400000 in
theorem unesc23 (s : ByteArray) (w : World) (hs : s.size ≤ 9223372036854775807) : Calls Try.prog 23 #[.string s] w (StrPost w (unescape s.data.toList)) := by
  have c := Lib.hid (ustr_any s w hs)
  go_enter Try.func23, Try.ntmps23
  go_wp2_with (go_at_call 36; refine c.out.mono ?_; rintro e w' ⟨rfl, hb⟩)
  go_ret
  exact ⟨rfl, hb⟩
set_option maxHeartbeats 400000 in
theorem unesc9 (s : ByteArray) (w : World) (hs : s.size ≤ 9223372036854775807) : Calls Try.prog 9 #[.string s] w (StrPost w (unescape s.data.toList)) := by
  have c := Lib.hid (unesc23 s w hs)
  go_enter Try.func9, Try.ntmps9
  go_wp2_with (go_at_call 23; refine c.out.mono ?_; rintro e w' ⟨rfl, hb⟩)
  go_ret
  exact ⟨rfl, hb⟩

/-- A call that returns some bool and turns nothing old. -/
def SomeBool (w : World) (e : Ending) (w' : World) : Prop := ∃ b : Bool, e = .returned (.bool b) ∧ Below w.heap.size w w'
set_option maxHeartbeats 400000 in
theorem fits27 (k n : Int) (t : ByteArray) (w : World) : Calls Try.prog 20 #[.agg #[.int .i64 k, .int .i64 n, .string t]] w (SomeBool w) := by
  go_enter Try.func20, Try.ntmps20
  go_wp2_with fail
  all_goals
    go_ret
    exact ⟨_, rfl, (Below.refl _ _).alloc (Nat.le_refl _) _⟩

/-- The parts that came in: element i's three cells. -/
def PartsAt (w : World) (b off len : Nat) (K N : Nat → Int) (T : Nat → ByteArray) : Prop :=
  ∀ i, i < len → w.cell? ⟨b, off + i * 3, none⟩ = some (.int .i64 (K i)) ∧ w.cell? ⟨b, off + i * 3 + 1, none⟩ = some (.int .i64 (N i)) ∧ w.cell? ⟨b, off + i * 3 + 2, none⟩ = some (.string (T i))
theorem PartsAt.below {w w' : World} {b off len : Nat} {K N : Nat → Int} {T : Nat → ByteArray} (h : PartsAt w b off len K N T) (hb : Below w.heap.size w w') (hlt : 0 < len → b < w.heap.size) : PartsAt w' b off len K N T := by
  intro i hi
  have hl := hlt (by omega)
  rw [hb.cell (p := ⟨b, off + i * 3, none⟩) hl, hb.cell (p := ⟨b, off + i * 3 + 1, none⟩) hl, hb.cell (p := ⟨b, off + i * 3 + 2, none⟩) hl]
  exact h i hi

set_option maxRecDepth 100000 in
set_option maxHeartbeats 1000000 in
theorem fits26 (A : Option Addr) (b off len cap : Nat) (hA : 0 < len → A = some ⟨b, off, none⟩) (K N : Nat → Int) (T : Nat → ByteArray) (w : World) (hl : len ≤ 9223372036854775807) (h : PartsAt w b off len K N T) (hlt : 0 < len → b < w.heap.size) :
    Calls Try.prog 7 #[.slice A len cap] w (SomeBool w) := by
  have H := Lib.hid h
  have HA := Lib.hid hA
  clear h hA
  by_cases hbig : 2147483647 < len
  · go_enter Try.func7, Try.ntmps7
    go_wp2_with fail
    go_ret
    exact ⟨_, rfl, Below.refl _ _⟩
  · go_enter Try.func7, Try.ntmps7
    go_wp2_with fail
    go_loopg [10] len (fun q v wr => ∃ i : Nat, v = .int .i64 i ∧ q + i = len ∧ Hid (Below w.heap.size w wr))
    case atStart => exact ⟨0, rfl, by omega, Below.refl _ _⟩
    case round =>
      obtain ⟨i, rfl, hq, HB⟩ := hrel
      have HQ := Lib.hid hq
      clear hq
      by_cases hi : i < len
      · have hAe := HA.out (by omega)
        subst hAe
        have hp := H.out.below HB.out hlt i hi
        obtain ⟨c0, c1, c2⟩ := hp
        obtain ⟨ki, hki⟩ : ∃ ki, ki = K i := ⟨_, rfl⟩
        obtain ⟨ni, hni⟩ : ∃ ni, ni = N i := ⟨_, rfl⟩
        obtain ⟨ti, hti⟩ : ∃ ti, ti = T i := ⟨_, rfl⟩
        rw [← hki] at c0
        rw [← hni] at c1
        rw [← hti] at c2
        clear hki hni hti
        have hblt := hlt (by omega)
        go_wp2_with (go_at_call 20; refine (fits27 ki ni ti _).mono ?_; rintro e w' ⟨bb, rfl, hb'⟩; cases bb)
        · go_ret
          exact ⟨_, rfl, HB.out.trans (((Below.refl _ wr).alloc (Nat.le_refl _) _ |>.trans (hb'.mono (by simp))).mono HB.out.size)⟩
        · go_roundg (gk - 1)
          case measure => have := HQ.out; omega
          case rel => exact ⟨i + 1, by go_num, by have := HQ.out; omega, HB.out.trans (((Below.refl _ wr).alloc (Nat.le_refl _) _ |>.trans (hb'.mono (by simp))).mono HB.out.size)⟩
      · have hq := HQ.out
        go_wp2_with fail
        go_ret
        exact ⟨_, rfl, HB.out⟩
end Go.Proofs.Ytkogokjlpgnmlaa
