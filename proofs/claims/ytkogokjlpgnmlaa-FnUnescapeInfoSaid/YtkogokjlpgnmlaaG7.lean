/- Writes into the buffer, seen from the world at the call. -/
import Derived.Test.YtkogokjlpgnmlaaG6
set_option linter.unusedVariables false
set_option linter.unusedSimpArgs false
namespace Go.Proofs.Ytkogokjlpgnmlaa
open Go.RowKit

/-- The buffer at b holds B; all that was there in w0, but b, is as it was. -/
def BufIn (w0 : World) (b : Nat) (B : Bs) (w : World) : Prop :=
  ∃ v, BufAt w b v B ∧ w0.grownBy w (some b) ∧ ∀ g, v.ownBlock = some g → w0.heap.size ≤ g

theorem bufAt_own {w : World} {b : Nat} {v : Value} {B : Bs} (h : BufAt w b v B) : ∀ g, v.ownBlock = some g → g < w.heap.size := by
  obtain ⟨lr, hb, ⟨rfl, _⟩ | ⟨g, cap, cur, h0, rfl, hg, _⟩⟩ := h
  · intro g hg
    simp [Value.ownBlock] at hg
  · intro g' hg'
    simp [Value.ownBlock] at hg'
    subst hg'
    exact Lib.lt_of_heap hg
theorem bufAt_lt {w : World} {b : Nat} {v : Value} {B : Bs} (h : BufAt w b v B) : b < w.heap.size := by
  obtain ⟨lr, hb, _⟩ := h
  exact Lib.lt_of_heap hb
theorem bufAt_same {w w' : World} {b : Nat} {v : Value} {B : Bs} (h : BufAt w b v B) (hk : ∀ k, k < w.heap.size → w'.heap[k]? = w.heap[k]?) : BufAt w' b v B := by
  have hb := bufAt_lt h
  have ho := bufAt_own h
  obtain ⟨lr, h1, h2⟩ := h
  refine ⟨lr, (hk b hb).trans h1, ?_⟩
  rcases h2 with h | ⟨g, cap, cur, h0, rfl, hg, rest⟩
  · exact Or.inl h
  · exact Or.inr ⟨g, cap, cur, h0, rfl, (hk g (ho g rfl)).trans hg, rest⟩
theorem bufAt_inj {w : World} {b : Nat} {v v' : Value} {B B' : Bs} (h : BufAt w b v B) (h' : BufAt w b v' B') : v = v' := by
  obtain ⟨lr, h1, _⟩ := h
  obtain ⟨lr', h1', _⟩ := h'
  rw [h1] at h1'
  simp at h1'
  exact h1'.1
theorem bufIn_below {w0 w w' : World} {b : Nat} {B : Bs} (h : BufIn w0 b B w) (hb : Below w.heap.size w w') : BufIn w0 b B w' := by
  obtain ⟨v, h1, h2, h3⟩ := h
  exact ⟨v, bufAt_same h1 hb.block, Lib.grownBy_below h2 hb, h3⟩
/-- Block g is not the buffer's own row. -/
def Apart (w : World) (b g : Nat) (B : Bs) : Prop := ∀ v, BufAt w b v B → v.ownBlock ≠ some g
theorem apart_new {w0 w w' : World} {b g : Nat} {B : Bs} (h : BufIn w0 b B w) (hb : Below w.heap.size w w') (hg : w.heap.size ≤ g) : Apart w' b g B := by
  obtain ⟨v, h1, h2, h3⟩ := h
  intro v' h' hv
  have := bufAt_inj (bufAt_same h1 hb.block) h'
  subst this
  have := bufAt_own h1 g hv
  omega
theorem bufIn_written {w0 w w' : World} {b : Nat} {v : Value} {B B' : Bs} (h1 : BufAt w b v B) (h2 : w0.grownBy w (some b)) (h3 : ∀ g, v.ownBlock = some g → w0.heap.size ≤ g) (hw : Written w b v B' w') : BufIn w0 b B' w' := by
  obtain ⟨v', k1, ⟨o1, o2, o3, o4, o5⟩, k3⟩ := hw
  refine ⟨v', k1, ⟨o1.trans h2.os, o2.trans h2.tape, o3.trans h2.output, Nat.le_trans h2.size o4, fun k hk hkb => ?_⟩, fun g hg => ?_⟩
  · have hs := h2.size
    refine (o5 k (by omega) (by simpa using hkb) ?_).trans (h2.block k hk hkb)
    intro h
    have := h3 k h.symm
    omega
  · have hs := h2.size
    rcases k3 with k3 | ⟨g', k3, k4⟩
    · exact h3 g (by rw [← k3]; exact hg)
    · rw [k3] at hg
      cases hg
      omega

/-- Write of bytes that were there in w0; a new block gn of bytes o stays as it is. -/
theorem write_in (w0 w : World) (b g off n c : Nat) (l B : Bs) (h : BufIn w0 b B w) (hR : Rd w0 g l) (hgb : g ≠ b) (hoff : off + n ≤ l.length) (hlim : B.length + n ≤ 140737488355328) :
    Calls Try.prog 81 #[.pointer (some ⟨b, 0, none⟩), .slice (some ⟨g, off, none⟩) n c] w fun e w' => e = .returned (.tuple #[.int .i64 n, .nilIface]) ∧ BufIn w0 b (B ++ (l.drop off).take n) w' ∧
      ∀ gn o, Rd w gn o → gn < w.heap.size → gn ≠ b → Apart w b gn B → Rd w' gn o := by
  obtain ⟨v, h1, h2, h3⟩ := h
  have hk : ((l.drop off).take n).length = n := by simp; omega
  refine (write_any b v B ((l.drop off).take n) ⟨g, off, none⟩ n c w h1 hk hgb (fun j x hj => ?_) hlim).mono ?_
  · obtain ⟨hj1, rfl⟩ := cellsB_some hj
    rw [add_at]
    have hj2 : j < n := by omega
    refine h2.cell (?_ : w0.cell? ⟨g, off + j, none⟩ = _) (by simpa using hgb)
    rw [hR (off + j) (by omega), List.getElem_take, List.getElem_drop, List.getD_eq_getElem?_getD, List.getElem?_eq_getElem (by omega)]
    rfl
  · rintro e w' ⟨rfl, hw⟩
    refine ⟨rfl, bufIn_written h1 h2 h3 hw, fun gn o hr hlt hne hap i hi => ?_⟩
    obtain ⟨v', k1, ⟨o1, o2, o3, o4, o5⟩, k3⟩ := hw
    have hb := o5 gn hlt hne (fun he => hap v h1 he.symm)
    rw [World.cell?_of_block (a := ⟨gn, i, none⟩) hb]
    exact hr i hi

/-- Write of new bytes. -/
theorem write_new (w0 w : World) (b g n c : Nat) (o B : Bs) (h : BufIn w0 b B w) (hR : Rd w g o) (hgb : g ≠ b) (hn : o.length = n) (hlim : B.length + n ≤ 140737488355328) :
    Calls Try.prog 81 #[.pointer (some ⟨b, 0, none⟩), .slice (some ⟨g, 0, none⟩) n c] w fun e w' => e = .returned (.tuple #[.int .i64 n, .nilIface]) ∧ BufIn w0 b (B ++ o) w' := by
  obtain ⟨v, h1, h2, h3⟩ := h
  refine (write_any b v B o ⟨g, 0, none⟩ n c w h1 hn hgb (fun j x hj => ?_) hlim).mono ?_
  · obtain ⟨hj1, rfl⟩ := cellsB_some hj
    rw [add_at, Nat.zero_add, hR j hj1, List.getD_eq_getElem?_getD, List.getElem?_eq_getElem hj1]
    rfl
  · rintro e w' ⟨rfl, hw⟩
    exact ⟨rfl, bufIn_written h1 h2 h3 hw⟩
theorem rd_of_slB {w : World} {g n cap : Nat} {l : Bs} (h : SlB w (.slice (some ⟨g, 0, none⟩) n cap) l) : Rd w g l ∧ n = l.length ∧ n ≤ cap ∧ cap ≤ maxLen ∧ g < w.heap.size := by
  rcases h with ⟨h, _⟩ | ⟨g', cap', h, h1, h2, h3, h4⟩
  · cases h
  · cases h
    refine ⟨fun i hi => ?_, rfl, h1, h2, h3⟩
    rw [h4 i _ (cellsB_get l i hi)]
theorem inv_len {keep : Bool} {l B : Bs} {st e : Nat} (h : EscInv keep l B st e) : B.length ≤ (esc keep l 0).length := by
  rcases h with ⟨_, _, h⟩ | ⟨_, _, _, h⟩ <;> rw [h] <;> simp <;> omega
end Go.Proofs.Ytkogokjlpgnmlaa
