/- impl.EscapeAll, impl.Escape: a buffer of their own; what they hand back. -/
import Derived.Test.YtkogokjlpgnmlaaG8
set_option linter.unusedVariables false
set_option linter.unusedSimpArgs false
namespace Go.Proofs.Ytkogokjlpgnmlaa
open Go.RowKit

set_option maxRecDepth 100000 in
set_option maxHeartbeats 2000000 in
theorem escE_nil (keep : Bool) (b : Nat) (w : World) (hb : BufIn w b [] w) :
    Calls Try.prog 43 #[.iface 45 (.pointer (some ⟨b, 0, none⟩)), .slice none 0 0, .bool (!keep)] w fun e w' => e = .returned (.tuple #[]) ∧ BufIn w b (esc keep [] 0) w' := by
  rw [esc_end_ keep [] 0 (Nat.le_refl _)]
  have HB := Lib.hid hb
  clear hb
  go_enter Try.func43, Try.ntmps43
  go_wp2
  go_loopg [6, 7] 0 (fun q i j wr => i = .int .i64 0 ∧ j = .int .i64 0 ∧ w = wr)
  case atStart => exact ⟨rfl, rfl, rfl⟩
  case round =>
    obtain ⟨rfl, rfl, rfl⟩ := hrel
    go_wp2
    go_end0
    exact ⟨rfl, HB.out⟩

theorem escE_sl (keep : Bool) (b : Nat) (v : Value) (l : Bs) (w : World) (hs : SlB w v l) (hvb : v.ownBlock ≠ some b) (hb : BufIn w b [] w) (hL : (esc keep l 0).length ≤ 140737488355328) :
    Calls Try.prog 43 #[.iface 45 (.pointer (some ⟨b, 0, none⟩)), v, .bool (!keep)] w fun e w' => e = .returned (.tuple #[]) ∧ BufIn w b (esc keep l 0) w' := by
  rcases hs with ⟨rfl, rfl⟩ | ⟨g, cap, rfl, h1, h2, h3, h4⟩
  · exact escE_nil keep b w hb
  · have hR := (rd_of_slB (w := w) (g := g) (n := l.length) (cap := cap) (l := l) (Or.inr ⟨g, cap, rfl, h1, h2, h3, h4⟩)).1
    exact escE_any keep b g l.length cap l w rfl h1 (by unfold maxLen at h2; omega) hR (fun he => hvb (by rw [← he]; rfl)) hb hL

section
variable (x v : Value) (w : World) (R : World → Prop)
theorem wrap37 (h : Calls Try.prog 43 #[x, v, .bool true] w fun e w' => e = .returned (.tuple #[]) ∧ R w') : Calls Try.prog 37 #[x, v] w fun e w' => e = .returned (.tuple #[]) ∧ R w' := by
  go_enter Try.func37, Try.ntmps37
  go_wp2_with (go_at_call 43; refine h.mono ?_; rintro e w' ⟨rfl, hr⟩)
  go_end0
  exact ⟨rfl, hr⟩
theorem wrap24 (h : Calls Try.prog 37 #[x, v] w fun e w' => e = .returned (.tuple #[]) ∧ R w') : Calls Try.prog 24 #[x, v] w fun e w' => e = .returned (.tuple #[]) ∧ R w' := by
  go_enter Try.func24, Try.ntmps24
  go_wp2_with (go_at_call 37; refine h.mono ?_; rintro e w' ⟨rfl, hr⟩)
  go_end0
  exact ⟨rfl, hr⟩
theorem wrap39 (h : Calls Try.prog 43 #[x, v, .bool false] w fun e w' => e = .returned (.tuple #[]) ∧ R w') : Calls Try.prog 39 #[x, v] w fun e w' => e = .returned (.tuple #[]) ∧ R w' := by
  go_enter Try.func39, Try.ntmps39
  go_wp2_with (go_at_call 43; refine h.mono ?_; rintro e w' ⟨rfl, hr⟩)
  go_end0
  exact ⟨rfl, hr⟩
theorem wrap28 (h : Calls Try.prog 39 #[x, v] w fun e w' => e = .returned (.tuple #[]) ∧ R w') : Calls Try.prog 28 #[x, v] w fun e w' => e = .returned (.tuple #[]) ∧ R w' := by
  go_enter Try.func28, Try.ntmps28
  go_wp2_with (go_at_call 39; refine h.mono ?_; rintro e w' ⟨rfl, hr⟩)
  go_end0
  exact ⟨rfl, hr⟩
theorem wrap27 (h : Calls Try.prog 38 #[x, v] w fun e w' => e = .returned (.tuple #[]) ∧ R w') : Calls Try.prog 27 #[x, v] w fun e w' => e = .returned (.tuple #[]) ∧ R w' := by
  go_enter Try.func27, Try.ntmps27
  go_wp2_with (go_at_call 38; refine h.mono ?_; rintro e w' ⟨rfl, hr⟩)
  go_end0
  exact ⟨rfl, hr⟩
end

theorem below_le {B B' : Nat} {w w' : World} (h : Below B w w') (hb : B' ≤ B) : Below B' w w' := ⟨h.os, h.tape, h.output, h.size, fun k hk => h.block k (by omega)⟩
theorem below_grown {B b : Nat} {w w' : World} (h : w.grownBy w' (some b)) (hb : B ≤ b) (hB : B ≤ w.heap.size) : Below B w w' :=
  ⟨h.os, h.tape, h.output, h.size, fun k hk => h.block k (by omega) (by simp; omega)⟩

theorem bytes_any (w0 w : World) (b : Nat) (B : Bs) (h : BufIn w0 b B w) : Calls Try.prog 26 #[.pointer (some ⟨b, 0, none⟩)] w fun e w' => ∃ v, e = .returned v ∧ SlB w' v B ∧ ∃ n, w' = w.drewN n := by
  obtain ⟨v, ⟨lr, hbk, hv⟩, -, -⟩ := h
  have hcl : (cellsB B).length = B.length := cellsB_length B
  have hIs : Lib.IsBuffer 43 5 0 b (cellsB B) w := by
    rcases hv with ⟨rfl, rfl⟩ | ⟨g, cap, cur, h0, rfl, hg, hcs, hlc, hcm, htk, hgb⟩
    · exact ⟨Nat.zero_le _, _, _, hbk, World.ownsRow_nil _ _ _ _, by simp [Value.ownBlock]⟩
    · exact ⟨Nat.zero_le _, _, _, hbk, ⟨by simp [hcl], .inr ⟨g, cap, cur, by rw [hcl], Nat.zero_le _, hg, by omega, hcm, by omega, by rw [hcl, Nat.mul_one]; exact htk⟩⟩, by simp [Value.ownBlock]; exact hgb⟩
  refine (Try.Buffer_Bytes 0 b (cellsB B) w hIs).mono ?_
  rintro e w' ⟨v', rfl, ho, hn⟩
  exact ⟨v', rfl, (slB_of_owns hcl ho).1, hn⟩
end Go.Proofs.Ytkogokjlpgnmlaa
