/- FnUnescapeInfo: zzLetter, at plain bytes. -/
import Derived.Test.YtkogokjlpgnmlaaI6
set_option linter.unusedVariables false
set_option linter.unusedSimpArgs false
namespace Go.Proofs.Ytkogokjlpgnmlaa
open Go.RowKit

def letB (l : Bs) (i : Nat) : Nat := if decide (i < l.length) && isLet (l.getD i 0) then 1 else 0
def PlainL (l : Bs) : Prop := ∀ j, j < l.length → (l.getD j 0).toNat < 128

set_option maxRecDepth 100000 in
set_option maxHeartbeats 2000000 in
theorem let60 (A : Option Addr) (b off n c i : Nat) (l : Bs) (w : World) (hA : 0 < n → A = some ⟨b, off, none⟩) (hn : l.length = n) (hc : n ≤ 9223372036854775800) (hi : i ≤ n) (hR : RdO w b off l) (hp : PlainL l) :
    Calls Try.prog 60 #[.slice A n c, .int .i64 i] w fun e w' => e = .returned (.int .i64 (letB l i : Nat)) ∧ w = w' := by
  by_cases hlt : i < n
  · obtain rfl := hA (by omega)
    have hck := hR i (by omega)
    have hpl := hp i (by omega)
    have e : letB l i = if isLet (l.getD i 0) = true then 1 else 0 := by unfold letB; rw [decide_eq_true (by omega), Bool.true_and]
    rw [e]
    obtain ⟨x, hx⟩ : ∃ x, x = l.getD i 0 := ⟨_, rfl⟩
    rw [← hx] at hck hpl ⊢
    have CL := Lib.hid (fun w => let_any x w)
    have b1 : ((x.toNat : Int) == 197) = false := by rw [beq_eq_false_iff_ne]; omega
    have b2 : ((x.toNat : Int) == 226) = false := by rw [beq_eq_false_iff_ne]; omega
    clear hx e hR hA hp hn hpl
    cases hl : isLet x with
    | true =>
      rw [hl] at CL
      rw [if_pos rfl]
      clear hl
      go_enter Try.func60, Try.ntmps60
      go_wp2_with (go_at_call 62; refine (CL.out _).mono ?_; rintro e w' ⟨rfl, rfl⟩)
      go_ret
      exact ⟨rfl, rfl⟩
    | false =>
      rw [hl] at CL
      rw [if_neg (by decide)]
      clear hl
      by_cases h1 : i + 1 < n
      · by_cases h2 : i + 2 < n
        · go_enter Try.func60, Try.ntmps60
          go_wp2_with (go_at_call 62; refine (CL.out _).mono ?_; rintro e w' ⟨rfl, rfl⟩)
          go_ret
          exact ⟨rfl, rfl⟩
        · go_enter Try.func60, Try.ntmps60
          go_wp2_with (go_at_call 62; refine (CL.out _).mono ?_; rintro e w' ⟨rfl, rfl⟩)
          go_ret
          exact ⟨rfl, rfl⟩
      · go_enter Try.func60, Try.ntmps60
        go_wp2_with (go_at_call 62; refine (CL.out _).mono ?_; rintro e w' ⟨rfl, rfl⟩)
        go_ret
        exact ⟨rfl, rfl⟩
  · have e : letB l i = 0 := by unfold letB; rw [decide_eq_false (by omega)]; rfl
    rw [e]
    clear e hR hA hn hp
    go_enter Try.func60, Try.ntmps60
    go_wp2
    go_ret
    exact ⟨rfl, rfl⟩
end Go.Proofs.Ytkogokjlpgnmlaa
