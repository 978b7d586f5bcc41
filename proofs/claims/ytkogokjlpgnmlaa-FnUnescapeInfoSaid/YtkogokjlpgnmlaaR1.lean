/- EncodeRune: every rune, room for its bytes. -/
import Derived.Test.YtkogokjlpgnmlaaProg
import Derived.WalkKit
import Derived.WalkSpells
import Derived.WalkLawsBesides
import Derived.Lib.Hide
import Derived.Lib.RuneBytes
import Derived.Laws.IdiomCopy
set_option linter.unusedVariables false
namespace Go.Proofs.Ytkogokjlpgnmlaa
open Go.RowKit

theorem runeCells_of {r : Int} {l : List Int} (h : Lib.encodeRuneZ r = l) : Lib.runeCells r = l.map fun x => Value.int .u8 x := by rw [Lib.runeCells, h]

set_option maxHeartbeats 4000000 in
set_option maxRecDepth 100000 in
theorem encN_two (b off len cap : Nat) (r : Int) (h0 : 128 ≤ r) (h1 : r ≤ 2047) (w : World) (hl : 2 ≤ len)
    (hc : ∀ j, j < 2 → (w.cell? ⟨b, off + j, none⟩).isSome = true) (hf : ∀ j, j < 2 → w.frozen? ⟨b, off + j, none⟩ = false) :
    Calls Try.prog 54 #[.slice (some ⟨b, off, none⟩) len cap, .int .i32 r] w fun e w' => e = .returned (.int .i64 2) ∧ w' = w.setCells b off [.int .u8 (192 + r / 64), .int .u8 (128 + r % 64)] := by
  obtain ⟨c0, hc0⟩ := Option.isSome_iff_exists.1 (hc 0 (by omega)); have hf0 := hf 0 (by omega)
  obtain ⟨c1, hc1⟩ := Option.isSome_iff_exists.1 (hc 1 (by omega)); have hf1 := hf 1 (by omega)
  simp only [Nat.add_zero] at hc0 hf0
  clear hc hf
  go_enter Try.func54, Try.ntmps54
  go_wp2
  go_ret
  exact ⟨rfl, rfl⟩

set_option maxHeartbeats 4000000 in
set_option maxRecDepth 100000 in
theorem encN_three_lo (b off len cap : Nat) (r : Int) (h0 : 2048 ≤ r) (h1 : r < 55296) (w : World) (hl : 3 ≤ len)
    (hc : ∀ j, j < 3 → (w.cell? ⟨b, off + j, none⟩).isSome = true) (hf : ∀ j, j < 3 → w.frozen? ⟨b, off + j, none⟩ = false) :
    Calls Try.prog 54 #[.slice (some ⟨b, off, none⟩) len cap, .int .i32 r] w fun e w' => e = .returned (.int .i64 3) ∧ w' = w.setCells b off [.int .u8 (224 + r / 4096), .int .u8 (128 + r / 64 % 64), .int .u8 (128 + r % 64)] := by
  obtain ⟨c0, hc0⟩ := Option.isSome_iff_exists.1 (hc 0 (by omega)); have hf0 := hf 0 (by omega)
  obtain ⟨c1, hc1⟩ := Option.isSome_iff_exists.1 (hc 1 (by omega)); have hf1 := hf 1 (by omega)
  obtain ⟨c2, hc2⟩ := Option.isSome_iff_exists.1 (hc 2 (by omega)); have hf2 := hf 2 (by omega)
  simp only [Nat.add_zero] at hc0 hf0
  clear hc hf
  go_enter Try.func54, Try.ntmps54
  go_wp2
  go_ret
  exact ⟨rfl, rfl⟩

set_option maxHeartbeats 4000000 in
set_option maxRecDepth 100000 in
theorem encN_three_hi (b off len cap : Nat) (r : Int) (h0 : 57343 < r) (h1 : r ≤ 65535) (w : World) (hl : 3 ≤ len)
    (hc : ∀ j, j < 3 → (w.cell? ⟨b, off + j, none⟩).isSome = true) (hf : ∀ j, j < 3 → w.frozen? ⟨b, off + j, none⟩ = false) :
    Calls Try.prog 54 #[.slice (some ⟨b, off, none⟩) len cap, .int .i32 r] w fun e w' => e = .returned (.int .i64 3) ∧ w' = w.setCells b off [.int .u8 (224 + r / 4096), .int .u8 (128 + r / 64 % 64), .int .u8 (128 + r % 64)] := by
  obtain ⟨c0, hc0⟩ := Option.isSome_iff_exists.1 (hc 0 (by omega)); have hf0 := hf 0 (by omega)
  obtain ⟨c1, hc1⟩ := Option.isSome_iff_exists.1 (hc 1 (by omega)); have hf1 := hf 1 (by omega)
  obtain ⟨c2, hc2⟩ := Option.isSome_iff_exists.1 (hc 2 (by omega)); have hf2 := hf 2 (by omega)
  simp only [Nat.add_zero] at hc0 hf0
  clear hc hf
  go_enter Try.func54, Try.ntmps54
  go_wp2
  go_ret
  exact ⟨rfl, rfl⟩

set_option maxHeartbeats 4000000 in
set_option maxRecDepth 100000 in
theorem encN_four (b off len cap : Nat) (r : Int) (h0 : 65536 ≤ r) (h1 : r ≤ 1114111) (w : World) (hl : 4 ≤ len)
    (hc : ∀ j, j < 4 → (w.cell? ⟨b, off + j, none⟩).isSome = true) (hf : ∀ j, j < 4 → w.frozen? ⟨b, off + j, none⟩ = false) :
    Calls Try.prog 54 #[.slice (some ⟨b, off, none⟩) len cap, .int .i32 r] w fun e w' => e = .returned (.int .i64 4) ∧ w' = w.setCells b off [.int .u8 (240 + r / 262144), .int .u8 (128 + r / 4096 % 64), .int .u8 (128 + r / 64 % 64), .int .u8 (128 + r % 64)] := by
  obtain ⟨c0, hc0⟩ := Option.isSome_iff_exists.1 (hc 0 (by omega)); have hf0 := hf 0 (by omega)
  obtain ⟨c1, hc1⟩ := Option.isSome_iff_exists.1 (hc 1 (by omega)); have hf1 := hf 1 (by omega)
  obtain ⟨c2, hc2⟩ := Option.isSome_iff_exists.1 (hc 2 (by omega)); have hf2 := hf 2 (by omega)
  obtain ⟨c3, hc3⟩ := Option.isSome_iff_exists.1 (hc 3 (by omega)); have hf3 := hf 3 (by omega)
  simp only [Nat.add_zero] at hc0 hf0
  clear hc hf
  go_enter Try.func54, Try.ntmps54
  go_wp2
  go_ret
  exact ⟨rfl, rfl⟩

set_option maxHeartbeats 4000000 in
set_option maxRecDepth 100000 in
theorem encN_neg (b off len cap : Nat) (r : Int) (h0 : -2147483648 ≤ r) (h1 : r < 0) (w : World) (hl : 3 ≤ len)
    (hc : ∀ j, j < 3 → (w.cell? ⟨b, off + j, none⟩).isSome = true) (hf : ∀ j, j < 3 → w.frozen? ⟨b, off + j, none⟩ = false) :
    Calls Try.prog 54 #[.slice (some ⟨b, off, none⟩) len cap, .int .i32 r] w fun e w' => e = .returned (.int .i64 3) ∧ w' = w.setCells b off [.int .u8 239, .int .u8 191, .int .u8 189] := by
  obtain ⟨c0, hc0⟩ := Option.isSome_iff_exists.1 (hc 0 (by omega)); have hf0 := hf 0 (by omega)
  obtain ⟨c1, hc1⟩ := Option.isSome_iff_exists.1 (hc 1 (by omega)); have hf1 := hf 1 (by omega)
  obtain ⟨c2, hc2⟩ := Option.isSome_iff_exists.1 (hc 2 (by omega)); have hf2 := hf 2 (by omega)
  simp only [Nat.add_zero] at hc0 hf0
  clear hc hf
  go_enter Try.func54, Try.ntmps54
  go_wp2
  go_ret
  exact ⟨rfl, rfl⟩

set_option maxHeartbeats 4000000 in
set_option maxRecDepth 100000 in
theorem encN_sur (b off len cap : Nat) (r : Int) (h0 : 55296 ≤ r) (h1 : r ≤ 57343) (w : World) (hl : 3 ≤ len)
    (hc : ∀ j, j < 3 → (w.cell? ⟨b, off + j, none⟩).isSome = true) (hf : ∀ j, j < 3 → w.frozen? ⟨b, off + j, none⟩ = false) :
    Calls Try.prog 54 #[.slice (some ⟨b, off, none⟩) len cap, .int .i32 r] w fun e w' => e = .returned (.int .i64 3) ∧ w' = w.setCells b off [.int .u8 239, .int .u8 191, .int .u8 189] := by
  obtain ⟨c0, hc0⟩ := Option.isSome_iff_exists.1 (hc 0 (by omega)); have hf0 := hf 0 (by omega)
  obtain ⟨c1, hc1⟩ := Option.isSome_iff_exists.1 (hc 1 (by omega)); have hf1 := hf 1 (by omega)
  obtain ⟨c2, hc2⟩ := Option.isSome_iff_exists.1 (hc 2 (by omega)); have hf2 := hf 2 (by omega)
  simp only [Nat.add_zero] at hc0 hf0
  clear hc hf
  go_enter Try.func54, Try.ntmps54
  go_wp2
  go_ret
  exact ⟨rfl, rfl⟩

set_option maxHeartbeats 4000000 in
set_option maxRecDepth 100000 in
theorem encN_big (b off len cap : Nat) (r : Int) (h0 : 1114111 < r) (h1 : r ≤ 2147483647) (w : World) (hl : 3 ≤ len)
    (hc : ∀ j, j < 3 → (w.cell? ⟨b, off + j, none⟩).isSome = true) (hf : ∀ j, j < 3 → w.frozen? ⟨b, off + j, none⟩ = false) :
    Calls Try.prog 54 #[.slice (some ⟨b, off, none⟩) len cap, .int .i32 r] w fun e w' => e = .returned (.int .i64 3) ∧ w' = w.setCells b off [.int .u8 239, .int .u8 191, .int .u8 189] := by
  obtain ⟨c0, hc0⟩ := Option.isSome_iff_exists.1 (hc 0 (by omega)); have hf0 := hf 0 (by omega)
  obtain ⟨c1, hc1⟩ := Option.isSome_iff_exists.1 (hc 1 (by omega)); have hf1 := hf 1 (by omega)
  obtain ⟨c2, hc2⟩ := Option.isSome_iff_exists.1 (hc 2 (by omega)); have hf2 := hf 2 (by omega)
  simp only [Nat.add_zero] at hc0 hf0
  clear hc hf
  go_enter Try.func54, Try.ntmps54
  go_wp2
  go_ret
  exact ⟨rfl, rfl⟩
end Go.Proofs.Ytkogokjlpgnmlaa
