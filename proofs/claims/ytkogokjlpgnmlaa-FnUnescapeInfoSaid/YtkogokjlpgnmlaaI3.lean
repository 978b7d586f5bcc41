/- FnUnescapeInfo: places of bytes and of runs. -/
import Derived.Test.YtkogokjlpgnmlaaI2
set_option linter.unusedVariables false
set_option linter.unusedSimpArgs false
namespace Go.Proofs.Ytkogokjlpgnmlaa
open Go.RowKit

/-- The bytes of a slice at b, from off on. -/
def RdO (w : World) (b off : Nat) (l : Bs) : Prop := ∀ i, i < l.length → w.cell? ⟨b, off + i, none⟩ = some (.int .u8 (l.getD i 0).toNat)
def atB (l : Bs) (i : Nat) (k : UInt8) : Bool := decide (i < l.length) && (l.getD i 0 == k)
/-- The first place from i on whose byte is not in the class. -/
def runB (p : UInt8 → Bool) : Bs → Nat → Nat
  | [], i => i
  | c :: r, i => if p c = true then runB p r (i + 1) else i

theorem inAt_any (A : Option Addr) (b off n c i : Nat) (k : UInt8) (l : Bs) (w : World) (hA : 0 < n → A = some ⟨b, off, none⟩) (hn : l.length = n) (hc : n ≤ 9223372036854775807) (hR : RdO w b off l) :
    Calls Try.prog 30 #[.slice A n c, .int .i64 i, .int .u8 k.toNat] w fun e w' => e = .returned (.bool (atB l i k)) ∧ w = w' := by
  by_cases hlt : i < n
  · obtain rfl := hA (by omega)
    have hck := hR i (by omega)
    have e : atB l i k = (l.getD i 0 == k) := by unfold atB; rw [decide_eq_true (by omega), Bool.true_and]
    rw [e]
    obtain ⟨x, hx⟩ : ∃ x, x = l.getD i 0 := ⟨_, rfl⟩
    rw [← hx] at hck ⊢
    clear hx e hR hA
    by_cases hxk : x = k
    · have hb : ((x.toNat : Int) == (k.toNat : Int)) = true := by rw [hxk]; simp
      have e2 : (x == k) = true := by rw [hxk]; simp
      rw [e2]
      clear hxk e2 hn
      go_enter Try.func30, Try.ntmps30
      go_wp2
      go_ret
      exact ⟨rfl, rfl⟩
    · have hb : ((x.toNat : Int) == (k.toNat : Int)) = false := by
        rw [beq_eq_false_iff_ne]
        intro h
        exact hxk (UInt8.toNat_inj.mp (by omega))
      have e2 : (x == k) = false := by simpa using hxk
      rw [e2]
      clear hxk e2 hn
      go_enter Try.func30, Try.ntmps30
      go_wp2
      go_ret
      exact ⟨rfl, rfl⟩
  · have e : atB l i k = false := by unfold atB; rw [decide_eq_false (by omega), Bool.false_and]
    rw [e]
    clear e hR hA hn
    go_enter Try.func30, Try.ntmps30
    go_wp2
    go_ret
    exact ⟨rfl, rfl⟩
end Go.Proofs.Ytkogokjlpgnmlaa
