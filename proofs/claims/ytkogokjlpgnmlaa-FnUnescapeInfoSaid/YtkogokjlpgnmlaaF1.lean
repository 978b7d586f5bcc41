/- decimalOf, isCharacter. -/
import Derived.Test.YtkogokjlpgnmlaaProg
import Derived.WalkKit
import Derived.WalkSpells
import Derived.WalkLawsBesides
import Derived.Lib.Hide
import Derived.Deep.QuietTactic
import Derived.BigQuiet
import Derived.IntWalk
set_option linter.unusedVariables false
set_option linter.unusedSimpArgs false
namespace Go.Proofs.Ytkogokjlpgnmlaa
open Go.RowKit

/-- A character that stands for itself in an entity. -/
def isCh (n : Int) : Bool := decide (32 ≤ n ∧ n ≤ 126 ∨ 160 ≤ n ∧ n ≤ 55295 ∨ 57344 ≤ n ∧ n ≤ 65533 ∨ 65536 ≤ n ∧ n ≤ 1114111)
/-- A digit's byte. -/
def digB (n : Nat) : UInt8 := if n < 10 then UInt8.ofNat (48 + n) else UInt8.ofNat (87 + n)
/-- A number's digits to a base. -/
def digs (base : Nat) : Nat → Nat → List UInt8
  | 0, _ => []
  | f + 1, n => if n < base then [digB n] else digs base f (n / base) ++ [digB (n % base)]

theorem ret_bool {a b : Bool} (h : a = b) : Ending.returned (.bool a) = .returned (.bool b) := by rw [h]
set_option maxHeartbeats 400000 in
theorem isCh_any (n : Int) (w : World) : Calls Try.prog 21 #[.int .i64 n] w fun e w' => e = .returned (.bool (isCh n)) ∧ w = w' := by
  obtain ⟨b, hb⟩ : ∃ b, b = isCh n := ⟨_, rfl⟩
  rw [← hb]
  have HB := Lib.hid hb
  clear hb
  go_enter Try.func21, Try.ntmps21
  go_wp2
  all_goals
    go_ret
    refine ⟨ret_bool ?_, rfl⟩
    rw [HB.out, isCh]
    first
      | (exact (decide_eq_true (by omega)).symm)
      | (exact (decide_eq_false (by omega)).symm)
      | (rw [Bool.eq_iff_iff]; simp; omega)

theorem hexB : ∀ n : Fin 16, Utf8.encode (((⟨#[48, 49, 50, 51, 52, 53, 54, 55, 56, 57, 97, 98, 99, 100, 101, 102]⟩ : ByteArray)[n.val]'(by show n.val < 16; omega)).toNat : Int) = ⟨#[digB n.val]⟩ := by decide
theorem hex_enc (n : Nat) (h : n < 16) (h' : n < (⟨#[48, 49, 50, 51, 52, 53, 54, 55, 56, 57, 97, 98, 99, 100, 101, 102]⟩ : ByteArray).size) :
    Utf8.encode (((⟨#[48, 49, 50, 51, 52, 53, 54, 55, 56, 57, 97, 98, 99, 100, 101, 102]⟩ : ByteArray)[n]'h').toNat : Int) = ⟨#[digB n]⟩ := hexB ⟨n, h⟩
theorem digs_len (base : Nat) : ∀ (f n : Nat), (digs base f n).length ≤ f
  | 0, _ => by simp [digs]
  | f + 1, n => by
    have := digs_len base f (n / base)
    unfold digs
    split
    · simp
    · simp; omega
theorem ret_str {a b : ByteArray} (h : a = b) : Ending.returned (.string a) = .returned (.string b) := by rw [h]

set_option maxRecDepth 100000 in
set_option maxHeartbeats 1000000 in
theorem dec_any (f : Nat) (hf0 : f ≤ 4294967296) : ∀ (n base : Nat) (w : World), n < f → 2 ≤ base → base ≤ 16 → n ≤ 2147483647 →
    Calls Try.prog 22 #[.int .i64 n, .int .i64 base] w fun e w' => e = .returned (.string ⟨(digs base f n).toArray⟩) ∧ ∃ q, w' = w.drewN q := by
  induction f with
  | zero => intro n base w h; omega
  | succ f ih =>
    intro n base w hf hb1 hb2 hn
    have ih := ih (by omega)
    obtain ⟨o, ho⟩ : ∃ o : ByteArray, o = ⟨(digs base (f + 1) n).toArray⟩ := ⟨_, rfl⟩
    rw [← ho]
    have HO := Lib.hid ho
    clear ho
    by_cases hlt : n < base
    · go_enter Try.func22, Try.ntmps22
      go_wp2_with fail
      go_ret
      refine ⟨ret_str ?_, 0, rfl⟩
      rw [HO.out, digs, if_pos hlt, hex_enc n (by omega)]
    · obtain ⟨qn, hqn⟩ : ∃ qn, qn = n / base := ⟨_, rfl⟩
      obtain ⟨rn, hrn⟩ : ∃ rn, rn = n % base := ⟨_, rfl⟩
      have hq : ((n : Int).tdiv base) = (qn : Int) := by rw [hqn, Int.ofNat_tdiv]
      have hr : ((n : Int).tmod base) = (rn : Int) := by rw [hrn, Int.ofNat_tmod]
      have hq2 : (n : Int) / (base : Int) = (qn : Int) := by rw [hqn]; rfl
      have hr2 : (n : Int) % (base : Int) = (rn : Int) := by rw [hrn]; rfl
      have hdl : qn < f := by have := Nat.div_lt_self (n := n) (k := base) (by omega) (by omega); omega
      have hrl : rn < 16 := by have := Nat.mod_lt n (show 0 < base by omega); omega
      have hqn2 : qn ≤ 2147483647 := by have := Nat.div_le_self n base; omega
      have HQ := Lib.hid hqn
      have HR := Lib.hid hrn
      clear hqn hrn
      have HIH := Lib.hid ih
      clear ih
      have hb0 : ¬ (base : Int) = 0 := by omega
      have hb3 : ((base : Int) == 0) = false := by simpa using hb0
      have hb4 : ¬ base = 0 := by omega
      have hrl2 : (rn : Int) < 16 := by omega
      have henc := hex_enc rn hrl
      have hdlen : ¬ 9223372036854775807 < (digs base f qn).length + 1 := by have := digs_len base f qn; omega
      have hw1 : IntKind.i64.wrap (qn : Int) = (qn : Int) := IntWalk.i64_in _ (by omega)
      have hw2 : IntKind.i64.wrap (rn : Int) = (rn : Int) := IntWalk.i64_in _ (by omega)
      have hw3 : wrap64 (qn : Int) = (qn : Int) := by unfold wrap64; omega
      have hw4 : wrap64 (rn : Int) = (rn : Int) := by unfold wrap64; omega
      go_enter Try.func22, Try.ntmps22
      go_wp2_with fail
      go_quiet ((go_at_call 22; exact Calls.quiet_of (HIH.out qn base _ (by omega) hb1 hb2 (by omega))))
      clear hw1 hw2 hw3 hw4 hq hr hq2 hr2 henc hdlen
      go_wp2
      go_ret
      refine ⟨ret_str ?_, nq, rfl⟩
      rw [HO.out, digs, if_neg hlt, ← HQ.out, ← HR.out]
      apply ByteArray.ext
      simp
end Go.Proofs.Ytkogokjlpgnmlaa
