/- zzUnescapeEntity: what it writes and how far it reads: short texts. -/
import Derived.Test.YtkogokjlpgnmlaaE2
import Derived.Deep.DeepCutAuto
import Derived.Deep.CutBlock
import Derived.Deep.LoopGhost
import Derived.Deep.QuietTactic
import Derived.BigQuiet
set_option linter.unusedVariables false
set_option linter.unusedSimpArgs false
namespace Go.Proofs.Ytkogokjlpgnmlaa
open Go.RowKit

/-- What zzUnescapeEntity does: o is laid at dst, k bytes are read. -/
def UPost (w : World) (g : Nat) (bs : Bs) (dst src : Nat) (o : Bs) (k : Nat) (e : Ending) (w' : World) : Prop :=
  e = .returned (.tuple #[.int .i64 ((dst + o.length : Nat) : Int), .int .i64 ((src + k : Nat) : Int)]) ∧ Buf w' g (putB bs dst o) ∧ w.grownBy w' (some g)

theorem Buf.cell {w : World} {g : Nat} {l : Bs} (h : Buf w g l) (i : Nat) (hi : i < l.length) : w.cell? ⟨g, i, none⟩ = some (.int .u8 (l.getD i 0).toNat) := (h i hi).1
theorem Buf.free {w : World} {g : Nat} {l : Bs} (h : Buf w g l) (i : Nat) (hi : i < l.length) : w.frozen? ⟨g, i, none⟩ = false := (h i hi).2
theorem Buf.put1 {w : World} {g : Nat} {l : Bs} (h : Buf w g l) (off : Nat) (x : UInt8) (hfit : off < l.length) :
    Buf (w.setCell ⟨g, off, none⟩ (.int .u8 x.toNat)) g (putB l off [x]) := h.put off [x] (by simp; omega)

set_option maxRecDepth 100000 in
set_option maxHeartbeats 1000000 in
theorem uent_short (g n c dst src : Nat) (bs : Bs) (w : World) (hn : bs.length = n) (hnc : n ≤ c) (hc : c ≤ 9223372036854775807) (hsrc : src < n) (hdst : dst ≤ src) (hB : Buf w g bs) (h1 : n - src ≤ 1) :
    Calls Try.prog 42 #[.slice (some ⟨g, 0, none⟩) n c, .int .i64 dst, .int .i64 src] w (UPost w g bs dst src [bs.getD src 0] 1) := by
  have hcell := hB.cell src (by omega)
  obtain ⟨x, hx⟩ : ∃ x, x = bs.getD src 0 := ⟨_, rfl⟩
  rw [← hx] at hcell ⊢
  obtain ⟨v2, hv2⟩ : ∃ v, w.cell? ⟨g, dst, none⟩ = some v := ⟨_, hB.cell dst (by omega)⟩
  have hfr := hB.free dst (by omega)
  have HB := Lib.hid hB
  have HN := Lib.hid hn
  have HX := Lib.hid hx
  clear hB hn hx
  go_enter Try.func42, Try.ntmps42
  go_wp2
  go_quiet (fail)
  go_wp2
  go_ret2
  exact ⟨rfl, (Buf.drewN HB.out _).put1 dst x (by rw [HN.out]; omega), grownBy_trans (grownBy_drewN w _ _) (grownBy_setCell1 _ g dst _)⟩
end Go.Proofs.Ytkogokjlpgnmlaa
