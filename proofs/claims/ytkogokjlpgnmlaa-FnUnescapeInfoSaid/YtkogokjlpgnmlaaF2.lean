/- entityPart. -/
import Derived.Test.YtkogokjlpgnmlaaF1
import Derived.Test.YtkogokjlpgnmlaaT1
import Derived.Deep.RegionLaw
import Derived.RegionTactic
import Derived.ChangeAlike
set_option linter.unusedVariables false
set_option linter.unusedSimpArgs false
namespace Go.Proofs.Ytkogokjlpgnmlaa
open Go.RowKit

def ampIn (t : Bs) : Bool := t.any (fun c => c == 38)
def nameW (n : Int) : Bs := if n = 0 then [38, 97, 109, 112, 59] else if n = 1 then [38, 108, 116, 59] else if n = 2 then [38, 103, 116, 59] else [38, 113, 117, 111, 116, 59]
def nameM (n : Int) : Bs := if n = 0 then [38] else if n = 1 then [60] else if n = 2 then [62] else [34]
def runeB (n : Int) : Bs := (Utf8.encode (IntKind.i32.wrap n)).data.toList
/-- A part as it is written, and what it stands for; false: it is none. -/
def partOf (k n : Int) (t : Bs) : Bs × Bs × Bool :=
  if k = 0 then (if ampIn t then ([], [], false) else (t, t, decide (t.length ≤ 100)))
  else if k = 1 then (if n < 0 ∨ 3 < n then ([], [], false) else (nameW n, nameM n, true))
  else if k = 2 then (if isCh n then ([38, 35] ++ digs 10 (n.toNat + 1) n.toNat ++ [59], runeB n, true) else ([], [], false))
  else if k = 3 then (if isCh n then ([38, 35, 120] ++ digs 16 (n.toNat + 1) n.toNat ++ [59], runeB n, true) else ([], [], false))
  else ([], [], false)

def PartPost (w : World) (r : Bs × Bs × Bool) (e : Ending) (w' : World) : Prop :=
  e = .returned (.tuple #[.string ⟨r.1.toArray⟩, .string ⟨r.2.1.toArray⟩, .bool r.2.2]) ∧ Below w.heap.size w w'

theorem below_drewN {B : Nat} {w W : World} (h : Below B w W) (n : Nat) : Below B w (W.drewN n) := ⟨h.os, h.tape, h.output, h.size, h.block⟩

set_option maxRecDepth 100000 in
set_option maxHeartbeats 1000000 in
theorem part_name (n : Int) (t : ByteArray) (w : World) :
    Calls Try.prog 8 #[.agg #[.int .i64 1, .int .i64 n, .string t]] w (PartPost w (if n < 0 ∨ 3 < n then ([], [], false) else (nameW n, nameM n, true))) := by
  by_cases h : n < 0 ∨ 3 < n
  · rw [if_pos h]
    rcases h with h | h
    · go_enter Try.func8, Try.ntmps8
      go_wp2_with fail
      go_ret3
      exact ⟨rfl, (Below.refl _ _).alloc (Nat.le_refl _) _⟩
    · go_enter Try.func8, Try.ntmps8
      go_wp2_with fail
      go_ret3
      exact ⟨rfl, (Below.refl _ _).alloc (Nat.le_refl _) _⟩
  · rw [if_neg h]
    have h4 : n = 0 ∨ n = 1 ∨ n = 2 ∨ n = 3 := by omega
    clear h
    rcases h4 with rfl | rfl | rfl | rfl
    all_goals
      go_enter Try.func8, Try.ntmps8
      go_wp2_with fail
      go_region
      all_goals
        go_wp2_with fail
        go_ret3
        exact ⟨rfl, by repeat (first | exact Below.refl _ _ | refine Below.alloc ?_ (by simp; try omega) _ | refine Below.drew ?_)⟩

set_option maxRecDepth 100000 in
set_option maxHeartbeats 1000000 in
theorem part_none (k n : Int) (t : ByteArray) (w : World) (h0 : k ≠ 0) (h1 : k ≠ 1) (h2 : k ≠ 2) (h3 : k ≠ 3) :
    Calls Try.prog 8 #[.agg #[.int .i64 k, .int .i64 n, .string t]] w (PartPost w ([], [], false)) := by
  have b0 : (k == 0) = false := by simpa using h0
  have b1 : (k == 1) = false := by simpa using h1
  have b2 : (k == 2) = false := by simpa using h2
  have b3 : (k == 3) = false := by simpa using h3
  clear h0 h1 h2 h3
  go_enter Try.func8, Try.ntmps8
  go_wp2_with fail
  go_ret3
  exact ⟨rfl, (Below.refl _ _).alloc (Nat.le_refl _) _⟩

end Go.Proofs.Ytkogokjlpgnmlaa
