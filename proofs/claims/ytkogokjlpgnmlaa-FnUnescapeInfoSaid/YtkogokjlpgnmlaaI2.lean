/- ispunct, zzEscapable; places of runs. -/
import Derived.Test.YtkogokjlpgnmlaaI1
import Derived.Test.YtkogokjlpgnmlaaG5
set_option linter.unusedVariables false
set_option linter.unusedSimpArgs false
namespace Go.Proofs.Ytkogokjlpgnmlaa
open Go.RowKit

def pL : Bs := [33, 34, 35, 36, 37, 38, 39, 40, 41, 42, 43, 44, 45, 46, 47, 58, 59, 60, 61, 62, 63, 64, 91, 92, 93, 94, 95, 96, 123, 124, 125, 126]
def memF (c : UInt8) : Bs → Bool
  | [] => false
  | d :: r => if c = d then true else memF c r
theorem memF_all : ∀ n : Fin 256, memF (UInt8.ofNat n.val) pL = isPun (UInt8.ofNat n.val) := by decide +kernel
theorem memF_pun (c : UInt8) : memF c pL = isPun c := by
  have := memF_all ⟨c.toNat, c.toNat_lt⟩
  simpa using this

theorem rd_const (W : World) (l : Bs) (fr : Nat × Nat) : Rd (W.alloc (.cells (cellsB l).toArray 5 fr)) W.heap.size l := by
  have hh : (W.alloc (.cells (cellsB l).toArray 5 fr)).heap[W.heap.size]? = some (.cells (cellsB l).toArray 5 fr) := by
    show (W.heap.push _)[W.heap.size]? = _
    simp
  intro i hi
  unfold World.cell?
  rw [hh]
  have := cellsB_get l i hi
  simpa using this

set_option maxRecDepth 100000 in
set_option maxHeartbeats 2000000 in
theorem punct58 (c : UInt8) (w : World) : Calls Try.prog 58 #[.int .u8 c.toNat] w fun e w' => e = .returned (.bool (isPun c)) ∧ Below w.heap.size w w' := by
  rw [← memF_pun c]
  obtain ⟨r, hr⟩ : ∃ r, r = memF c pL := ⟨_, rfl⟩
  rw [← hr]
  have HR0 := Lib.hid hr
  clear hr
  have hcv : ∀ (w : World) (C : Array Value) (n c : Nat), (convert 29 29 (.slice (some ⟨w.heap.size, 0, none⟩) n c)).run Try.prog (w.alloc (.cells C 5)) = .ok (.slice (some ⟨w.heap.size, 0, none⟩) n c) (w.alloc (.cells C 5 (C.size, C.size + 1))) := fun w C n c => Lib.run_convert_bytes_const w 29 5 C n c Try.underlying29 Try.underlying5
  go_enter Try.func58, Try.ntmps58
  go_wp2
  go_loopg [8] 32 (fun q i wr => ∃ k : Nat, i = .int .i64 k ∧ q + k = 32 ∧ k ≤ 32 ∧ Hid (Rd wr w.heap.size pL ∧ Below w.heap.size w wr) ∧ Hid (r = memF c (pL.drop k)))
  case atStart => exact ⟨0, rfl, rfl, Nat.zero_le _, ⟨rd_const w pL (32, 33), (Below.refl _ w).alloc (Nat.le_refl _) _⟩, HR0.out⟩
  case round =>
    obtain ⟨k, rfl, hq, hk, HW, HR⟩ := hrel
    have HQ := Lib.hid hq
    clear hq
    by_cases hlt : k < 32
    · obtain ⟨d, hd⟩ : ∃ d, d = pL.getD k 0 := ⟨_, rfl⟩
      have hck : wr.cell? ⟨w.heap.size, k, none⟩ = some (.int .u8 d.toNat) := by rw [hd]; exact HW.out.1 k hlt
      have hst : r = if c = d then true else memF c (pL.drop (k + 1)) := by rw [HR.out, getD_drop_cons pL k hlt, memF, hd]
      have HST := Lib.hid hst
      clear hst hd HR
      by_cases hcd : c = d
      · have hb : ((c.toNat : Int) == (d.toNat : Int)) = true := by rw [hcd]; simp
        have HR : Hid (r = true) := by show _ = _; rw [HST.out, if_pos hcd]
        clear hcd HST
        go_wp2_with fail
        go_ret
        rw [HR.out]
        exact ⟨rfl, HW.out.2⟩
      · have hb : ((c.toNat : Int) == (d.toNat : Int)) = false := by
          rw [beq_eq_false_iff_ne]
          intro h
          exact hcd (UInt8.toNat_inj.mp (by omega))
        have HR : Hid (r = memF c (pL.drop (k + 1))) := by show _ = _; rw [HST.out, if_neg hcd]
        clear hcd HST
        go_wp2_with fail
        go_roundg (gk - 1)
        case measure => have := HQ.out; omega
        case rel => exact ⟨k + 1, by go_num, by have := HQ.out; omega, by omega, HW, HR⟩
    · have hd : pL.drop k = [] := List.drop_eq_nil_of_le (by show 32 ≤ k; omega)
      have HR1 : Hid (r = false) := by show _ = _; rw [HR.out, hd]; rfl
      clear hd HR
      go_wp2_with fail
      go_ret
      rw [HR1.out]
      exact ⟨rfl, HW.out.2⟩
theorem escb52 (c : UInt8) (w : World) : Calls Try.prog 52 #[.int .u8 c.toNat] w fun e w' => e = .returned (.bool (isPun c)) ∧ Below w.heap.size w w' := by
  have CL := Lib.hid (punct58 c w)
  obtain ⟨b, hb⟩ : ∃ b : Bool, b = isPun c := ⟨_, rfl⟩
  rw [← hb] at CL ⊢
  clear hb
  go_enter Try.func52, Try.ntmps52
  go_wp2_with (go_at_call 58; refine CL.out.mono ?_; rintro e w' ⟨rfl, hw⟩; have HW := Lib.hid hw; clear hw)
  go_ret
  exact ⟨rfl, HW.out⟩
end Go.Proofs.Ytkogokjlpgnmlaa
