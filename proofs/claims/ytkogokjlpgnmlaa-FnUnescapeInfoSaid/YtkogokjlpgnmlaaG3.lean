/- Copies of bytes; what is written for a byte; letters; names of entities. -/
import Derived.Test.YtkogokjlpgnmlaaG2
import Derived.Test.YtkogokjlpgnmlaaT2
import Derived.Shelf.Slices.Clone
import Derived.Lib.SlBytesConst
set_option linter.unusedVariables false
set_option linter.unusedSimpArgs false
namespace Go.Proofs.Ytkogokjlpgnmlaa
open Go.RowKit

/-- The slice v reads as the bytes l: nil, or the head of a block. -/
def SlB (w : World) (v : Value) (l : Bs) : Prop :=
  (v = .slice none 0 0 ∧ l = []) ∨ ∃ g cap, v = .slice (some ⟨g, 0, none⟩) l.length cap ∧ l.length ≤ cap ∧ cap ≤ maxLen ∧ g < w.heap.size ∧ ∀ j x, (cellsB l)[j]? = some x → w.cell? ⟨g, j, none⟩ = some x
/-- A new copy: the slice reads as l and lies in memory that was not there in w. -/
def NewB (w : World) (l : Bs) (v : Value) (w' : World) : Prop :=
  SlB w' v l ∧ Below w.heap.size w w' ∧ ∀ g, v.ownBlock = some g → w.heap.size ≤ g

theorem cellsB_some {l : Bs} {j : Nat} {x : Value} (h : (cellsB l)[j]? = some x) : ∃ hj : j < l.length, x = .int .u8 (l[j]).toNat := by
  unfold cellsB at h
  rw [List.getElem?_map] at h
  obtain ⟨c, hc, rfl⟩ := Option.map_eq_some_iff.1 h
  obtain ⟨hj, rfl⟩ := List.getElem?_eq_some_iff.1 hc
  exact ⟨hj, rfl⟩
theorem add_at (g o j : Nat) : Addr.add ⟨g, o, none⟩ j = ⟨g, o + j, none⟩ := by
  unfold Addr.add
  by_cases h : j = 0
  · subst h; simp
  · simp [h]

theorem slB_of_owns {w : World} {B : Nat} {v : Value} {l : Bs} {n : Nat} (hn : n = l.length) (h : w.ownsRow B 5 1 v n (cellsB l)) : SlB w v l ∧ ∀ g, v.ownBlock = some g → B ≤ g := by
  obtain ⟨hl, ⟨rfl, h0⟩ | ⟨g, cap, cur, rfl, hB, hg, hnc, hcm, hcs, htk⟩⟩ := h
  · exact ⟨Or.inl ⟨rfl, List.eq_nil_of_length_eq_zero (by omega)⟩, fun g hg => by simp [Value.ownBlock] at hg⟩
  · refine ⟨Or.inr ⟨g, cap, by rw [hn], by omega, hcm, Lib.lt_of_heap hg, fun j x hj => ?_⟩, fun g' hg' => by simp [Value.ownBlock] at hg'; omega⟩
    obtain ⟨hj1, rfl⟩ := cellsB_some hj
    have hjc : j < cur.size := by omega
    have : cur[j]? = some (.int .u8 (l[j]).toNat) := by
      rw [← htk, List.getElem?_take] at hj
      rw [if_pos (by omega), Array.getElem?_toList] at hj
      exact hj
    rw [Lib.cell_of_heap hg]
    exact this

theorem slB_below {w w' : World} {v : Value} {l : Bs} (h : SlB w v l) (hb : Below w.heap.size w w') : SlB w' v l := by
  rcases h with h | ⟨g, cap, rfl, h1, h2, h3, h4⟩
  · exact Or.inl h
  · exact Or.inr ⟨g, cap, rfl, h1, h2, Nat.lt_of_lt_of_le h3 hb.size, fun j x hj => (hb.cell (p := ⟨g, j, none⟩) h3).trans (h4 j x hj)⟩

set_option maxHeartbeats 2000000 in
set_option maxRecDepth 100000 in
theorem own_some (g n c : Nat) (l : Bs) (w : World) (hn : l.length = n) (hbig : n ≤ 140737488355328) (hc : ∀ j x, (cellsB l)[j]? = some x → w.cell? ⟨g, j, none⟩ = some x) :
    Calls Try.prog 25 #[.slice (some ⟨g, 0, none⟩) n c] w fun e w' => ∃ v', e = .returned v' ∧ NewB w l v' w' := by
  obtain ⟨i0, hi, hz0, hz1, hz2⟩ := info_parts info5
  have q22 : ∀ (w : World) (a : Option Addr) (n c n' c' : Nat), (binOp .eql 29 (.slice a n c) (.slice none n' c')).run Try.prog w = .ok (.bool a.isNone) w := fun w a n c n' c' => Lib.run_eql_slice_nil w _ _ a n c n' c' Try.underlying29
  have u22 : ∀ w, Sem.run Try.prog (underlying 29) w = .ok (TypeDesc.slice 5) w := run_underlying Try.underlying29
  have z5 : ∀ w, Sem.run Try.prog (Go.sizeOf 5) w = .ok 1 w := fun w => by simp [Go.sizeOf, typeInfo, hi, hz1]
  have A := Lib.hid hc
  have HN := Lib.hid hn
  clear hc hn
  go_enter Try.func25, Try.ntmps25
  go_wp2_with (at_builtin; refine wpList_append_own _ rfl _ _ 29 rfl w.heap.size 5 i0 (.int .u8 0) 1 1 Try.underlying29 hi hz0 hz1 hz2 rfl (by decide) _ _ _ rfl (World.ownsRow_made w #[] 0 (Nat.le_refl _) (Nat.zero_le _) rfl) ⟨g, 0, none⟩ n c (cellsB l) rfl ?qc1 ?qc2 ?qc3 ?qc4 ?qc5 ?qc6 ?_)
  case qc1 => rw [cellsB_length, HN.out]; omega
  case qc2 =>
    intro j u hj
    refine Lib.cell?_alloc_some _ ?_
    rw [add_at, Nat.zero_add]
    exact A.out j u hj
  case qc3 =>
    intro u hu
    obtain ⟨x, _, rfl⟩ := List.mem_map.1 hu
    rfl
  case qc4 => unfold maxLen; omega
  case qc5 => omega
  case qc6 => simp
  intro v' w1 hown hgrow hnil
  have HO := Lib.hid hown
  have HG := Lib.hid hgrow
  clear hown hgrow hnil
  go_wp2
  go_ret
  obtain ⟨h1, h2⟩ := slB_of_owns (v := v') (l := l) (n := n) HN.out.symm (by simpa using HO.out)
  exact ⟨v', rfl, h1, ((Below.refl _ w).alloc (Nat.le_refl _) _).grown HG.out (by simp) (by intro k hk; simp [Value.ownBlock] at hk; omega), h2⟩

set_option maxHeartbeats 1000000 in
theorem own_nil (w : World) : Calls Try.prog 25 #[.slice none 0 0] w fun e w' => ∃ v', e = .returned v' ∧ NewB w [] v' w' := by
  have q22 : ∀ (w : World) (a : Option Addr) (n c n' c' : Nat), (binOp .eql 29 (.slice a n c) (.slice none n' c')).run Try.prog w = .ok (.bool a.isNone) w := fun w a n c n' c' => Lib.run_eql_slice_nil w _ _ a n c n' c' Try.underlying29
  have u22 : ∀ w, Sem.run Try.prog (underlying 29) w = .ok (TypeDesc.slice 5) w := run_underlying Try.underlying29
  go_enter Try.func25, Try.ntmps25
  go_wp2
  go_ret
  exact ⟨_, rfl, Or.inl ⟨rfl, rfl⟩, Below.refl _ _, fun g hg => by simp [Value.ownBlock] at hg⟩

theorem own_any (v : Value) (l : Bs) (w : World) (h : SlB w v l) (hbig : l.length ≤ 140737488355328) :
    Calls Try.prog 25 #[v] w fun e w' => ∃ v', e = .returned v' ∧ NewB w l v' w' := by
  rcases h with ⟨rfl, rfl⟩ | ⟨g, cap, rfl, h1, h2, h3, h4⟩
  · exact own_nil w
  · exact own_some g l.length cap l w rfl hbig h4

/-- What is written for a byte. -/
def isE (c : UInt8) : Bool := c == 38 || c == 60 || c == 62 || c == 34
def escOf (c : UInt8) : Bs := if c = 38 then [38, 97, 109, 112, 59] else if c = 60 then [38, 108, 116, 59] else if c = 62 then [38, 103, 116, 59] else [38, 113, 117, 111, 116, 59]

theorem eq_of_int {c : UInt8} {k : Nat} (hk : k < 256) (h : ((c.toNat : Int) == (k : Int)) = true) : c = UInt8.ofNat k := by
  have : c.toNat = k := by
    have h1 : (c.toNat : Int) = (k : Int) := by simpa using h
    omega
  exact UInt8.toNat_inj.mp (by rw [this]; simp; omega)

set_option maxHeartbeats 1000000 in
theorem esc_nil (c : UInt8) (w : World) (h : isE c = false) : Calls Try.prog 50 #[.int .u8 c.toNat] w fun e w' => e = .returned (.slice none 0 0) ∧ w = w' := by
  have hh : ∀ k : Nat, k < 256 → c ≠ UInt8.ofNat k → ((c.toNat : Int) == (k : Int)) = false := by
    intro k hk hc
    rw [Bool.eq_false_iff]
    intro h
    exact hc (eq_of_int hk h)
  have hc : c ≠ 38 ∧ c ≠ 60 ∧ c ≠ 62 ∧ c ≠ 34 := by
    simp [isE] at h
    exact ⟨h.1.1.1, h.1.1.2, h.1.2, h.2⟩
  have b1 := hh 38 (by decide) hc.1
  have b2 := hh 60 (by decide) hc.2.1
  have b3 := hh 62 (by decide) hc.2.2.1
  have b4 := hh 34 (by decide) hc.2.2.2
  obtain ⟨x, hx⟩ : ∃ x : Int, x = (c.toNat : Int) := ⟨_, rfl⟩
  rw [← hx] at b1 b2 b3 b4 ⊢
  clear hh hc h hx
  simp only [Int.cast_ofNat_Int] at b1 b2 b3 b4
  go_enter Try.func50, Try.ntmps50
  go_wp2
  go_ret
  exact ⟨rfl, rfl⟩
end Go.Proofs.Ytkogokjlpgnmlaa
