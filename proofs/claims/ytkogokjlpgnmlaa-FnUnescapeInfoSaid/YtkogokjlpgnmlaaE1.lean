/- zzReplacement, zzEntity. -/
import Derived.Test.YtkogokjlpgnmlaaT2
import Derived.Test.YtkogokjlpgnmlaaH1
set_option linter.unusedVariables false
set_option linter.unusedSimpArgs false
namespace Go.Proofs.Ytkogokjlpgnmlaa
open Go.RowKit


/-- The bytes of Windows-1252 from 0x80 on, as runes. -/
def replL : List Int := [8364, 129, 8218, 402, 8222, 8230, 8224, 8225, 710, 8240, 352, 8249, 338, 141, 381, 143, 144, 8216, 8217, 8220, 8221, 8226, 8211, 8212, 732, 8482, 353, 8250, 339, 157, 382, 376]
def replZ (x : Int) : Int := replL.getD (x - 128).toNat 0
theorem size21 (w : World) : (sizeOf 21).run Try.prog w = .ok 1 w := by kernel_rfl
theorem isAgg21 (w : World) : (isAgg 21).run Try.prog w = .ok false w := by kernel_rfl
theorem idx67 (cs : Array Value) (i : Int) (v : Value) (h0 : 0 ≤ i) (h1 : i < 32) (hv : cs[i.toNat]? = some v) (w : World) :
    (Instr.index 67 (.agg cs) (.int .i32 i)).run Try.prog w = .ok v w := by
  simp [Instr.index, run_underlying Try.underlying67, asIntOf, part, size21, isAgg21, h0, h1, hv, go_sem]
theorem replZ_range (x : Int) (h0 : 128 ≤ x) (h1 : x ≤ 159) : 129 ≤ replZ x ∧ replZ x ≤ 8482 := by
  obtain ⟨k, rfl⟩ : ∃ k : Nat, x = 128 + k := ⟨(x - 128).toNat, by omega⟩
  have hk : k < 32 := by omega
  have : ∀ k : Fin 32, 129 ≤ replZ (128 + (k.val : Int)) ∧ replZ (128 + (k.val : Int)) ≤ 8482 := by decide
  exact this ⟨k, hk⟩
set_option maxRecDepth 100000 in
set_option maxHeartbeats 400000 in
theorem repl_any (x : Int) (h0 : 128 ≤ x) (h1 : x ≤ 159) (w : World) :
    Calls Try.prog 47 #[.int .i32 x] w fun e w' => e = .returned (.int .i32 (replZ x)) ∧ w = w' := by
  have hix := fun (w : World) => idx67 ((replL.map fun r => Value.int .i32 r).toArray) (x - 128) (.int .i32 (replZ x)) (by omega) (by omega) (by
    rw [List.getElem?_toArray, List.getElem?_map, replZ, List.getD_eq_getElem?_getD]
    have : (x - 128).toNat < replL.length := by simp [replL]; omega
    rw [List.getElem?_eq_getElem this]; rfl) w
  simp only [replL, List.map_cons, List.map_nil] at hix
  obtain ⟨z, hz⟩ : ∃ z, z = replZ x := ⟨_, rfl⟩
  rw [← hz] at hix ⊢
  clear hz
  go_enter Try.func47, Try.ntmps47
  go_wp2
  go_ret
  exact ⟨rfl, rfl⟩
end Go.Proofs.Ytkogokjlpgnmlaa
