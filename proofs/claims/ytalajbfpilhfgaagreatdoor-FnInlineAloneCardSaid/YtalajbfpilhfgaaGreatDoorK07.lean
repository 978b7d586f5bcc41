/-
  FnInlineAlone: unescapeText into a new buffer.
  FnInlineAlone: how long a tag is.
-/
import Derived.Test.YtalajbfpilhfgaaGreatDoorK06
set_option linter.unusedVariables false
set_option linter.unusedSimpArgs false
namespace Go.Proofs.YtalajbfpilhfgaaGreatDoor
open Go.RowKit

theorem cellsB_some {l : Bs} {j : Nat} {x : Value} (h : (cellsB l)[j]? = some x) : ∃ hj : j < l.length, x = .int .u8 (l.getD j 0).toNat := by
  have hj : j < l.length := by
    have := (List.getElem?_eq_some_iff.1 h).1
    rw [cellsB_length] at this
    exact this
  exact ⟨hj, by rw [cellsB_get l j hj] at h; injection h with h; exact h.symm⟩
theorem cellsB_one (l : Bs) : ∀ v ∈ cellsB l, v.oneCell' = true := by
  intro v hv
  obtain ⟨y, _, rfl⟩ := List.mem_map.1 hv
  rfl

set_option maxRecDepth 100000 in
set_option maxHeartbeats 4000000 in
theorem unesc70 (b B g o m c : Nat) (l : Bs) (w : World) (hl : l.length = m) (hm0 : 0 < m) (hm : m ≤ 1000000) (hc : m ≤ c) (hb : Lib.IsBuffer 120 5 B b [] w) (hB : B ≤ w.heap.size) (hg : g < B) (hR : RdO w g o l) (h92 : ∀ j, j < m → l.getD j 0 ≠ 92) :
    Calls Tryz.prog 70 #[ptr b, .slice (some ⟨g, o, none⟩) m c] w fun e w' => e = .returned (.tuple #[]) ∧ Lib.IsBuffer 120 5 B b (cellsB l) w' ∧ Below B w w' := by
  have hw := Tryz.Buffer_Write B b [] (cellsB l) ⟨g, o, none⟩ m c w hb hB (fun v hv => by cases hv) (by rw [cellsB_length, hl]) hg (fun j v hj => by
    obtain ⟨hj1, rfl⟩ := cellsB_some hj
    rw [add_at]
    exact hR j hj1) (cellsB_one l) (by simp; omega)
  rw [List.nil_append] at hw
  have CW := Lib.hid hw
  have HR := Lib.hid hR
  have H92 := Lib.hid h92
  have HL := Lib.hid hl
  have em : (m : Int) + 1 ≥ (m : Int) := by omega
  clear hw hR h92 hl hb
  go_enter Tryz.func70, Tryz.ntmps70
  go_wp2
  go_loopg [4] 1 (fun q v4 wr => v4 = .int .i64 0 ∧ w = wr)
  case atStart => exact ⟨rfl, rfl⟩
  case round =>
    obtain ⟨rfl, rfl⟩ := hrel
    have hd0 : decide (0 < m) = true := decide_eq_true hm0
    go_wp2
    go_loopg [4] (m + 1) (fun q v4 wr => ∃ j : Nat, v4 = .int .i64 (j : Nat) ∧ q + j = m + 1 ∧ j ≤ m ∧ w = wr)
    case atStart => exact ⟨0, rfl, by omega, by omega, rfl⟩
    case round =>
      obtain ⟨j, rfl, hq, hj, rfl⟩ := hrel
      have HQ := Lib.hid hq
      clear hq
      by_cases hjm : j < m
      · have c1 := HR.out j (by rw [HL.out]; exact hjm)
        have b1 : (((l.getD j 0).toNat : Int) != 92) = true := bne_no (k := 92) (H92.out j hjm)
        obtain ⟨y, hy⟩ : ∃ y, y = l.getD j 0 := ⟨_, rfl⟩
        rw [← hy] at c1 b1
        clear hy
        go_wp2
        go_roundg (m - j)
        case measure => have := HQ.out; omega
        case rel => exact ⟨j + 1, by go_num, by omega, by omega, rfl⟩
      · obtain rfl : j = m := by omega
        have hp : 0 < (j : Int) := by omega
        go_wp2_with (go_at_call 91; refine CW.out.mono ?_; rintro r w1 ⟨rfl, hw1, hw2⟩; have HW1 := Lib.hid hw1; have HW2 := Lib.hid hw2; clear hw1 hw2)
        go_end0
        exact ⟨rfl, HW1.out, HW2.out⟩
/-- What a buffer's bytes are: a slice that reads as them. -/
theorem rdV_owns {w : World} {B : Nat} {v : Value} {l : Bs} (h : w.ownsRow B 5 1 v l.length (cellsB l)) (h0 : 0 < l.length) : ∃ g cap cur, v = .slice (some ⟨g, 0, none⟩) l.length cap ∧ B ≤ g ∧ w.heap[g]? = some (.cells cur 5 (0, 0)) ∧ l.length ≤ cap ∧ cap ≤ maxLen ∧ RdO w g 0 l ∧ RdV w v (some l) := by
  have hcells := fun (g : Nat) (hg : v.ownBlock = some g) => h.cells (g := g) hg
  obtain ⟨hl, ⟨rfl, hn⟩ | ⟨g, cap, cur, rfl, hB, hg, hnc, hcm, hcs, htk⟩⟩ := h
  · omega
  · have hR : RdO w g 0 l := fun i hi => by
      have := hcells g rfl i _ (cellsB_get l i hi)
      rw [add_at] at this
      exact this
    exact ⟨g, cap, cur, rfl, hB, hg, hnc, hcm, hR, g, 0, cap, cur, (0, 0), rfl, hnc, hcm, hg, hR⟩
theorem len74 (B b : Nat) (l : Bs) (w : World) (h : Lib.IsBuffer 120 5 B b (cellsB l) w) : Calls Tryz.prog 74 #[ptr b] w fun e w' => e = .returned (.int .i64 (l.length : Nat)) ∧ Below w.heap.size w w' ∧ Lib.IsBuffer 120 5 B b (cellsB l) w' := by
  refine (Tryz.Buffer_Len B b (cellsB l) w h).mono ?_
  rintro e w' ⟨rfl, n, rfl⟩
  exact ⟨by rw [cellsB_length], below_drewN _ _, h⟩
theorem bytes66 (B b : Nat) (l : Bs) (w : World) (h0 : 0 < l.length) (h : Lib.IsBuffer 120 5 B b (cellsB l) w) : Calls Tryz.prog 66 #[ptr b] w fun e w' => ∃ g cap, e = .returned (.slice (some ⟨g, 0, none⟩) l.length cap) ∧ B ≤ g ∧ g < w'.heap.size ∧ l.length ≤ cap ∧ cap ≤ maxLen ∧ RdO w' g 0 l ∧ RdV w' (.slice (some ⟨g, 0, none⟩) l.length cap) (some l) ∧ Below w.heap.size w w' := by
  refine (Tryz.Buffer_Bytes B b (cellsB l) w h).mono ?_
  rintro e w' ⟨v, rfl, ho, n, rfl⟩
  rw [cellsB_length] at ho
  obtain ⟨g, cap, cur, rfl, q1, q2, q3, q4, q5, q6⟩ := rdV_owns ho h0
  exact ⟨g, cap, rfl, q1, Lib.lt_of_heap q2, q3, q4, q5, q6, below_drewN _ _⟩

theorem Ctx.inv.at {x : Ctx} {k : Nat} {ins : Bool} {w : World} (h : x.inv k ins w) (s : Nat) : ∀ j, s + j < x.D.length → w.cell? ⟨x.g, x.off + s + j, none⟩ = some (.int .u8 (x.D.getD (s + j) 0).toNat) := fun j hj => by
  rw [Nat.add_assoc]
  exact h.byte hj
theorem indexByte_at : ∀ (l : Bs) (c : UInt8) (p : Nat), p < l.length → l.getD p 0 = c → (∀ j, j < p → l.getD j 0 ≠ c) → Lib.indexByte l c = p
  | [], c, p, h, _, _ => by simp at h
  | b :: l, c, 0, h, h1, h2 => by
    have : b = c := by simpa using h1
    rw [Lib.indexByte, this]; simp
  | b :: l, c, p + 1, h, h1, h2 => by
    have hb : b ≠ c := by simpa using h2 0 (by omega)
    have ih := indexByte_at l c p (by simpa using h) (by simpa using h1) (fun j hj => by simpa using h2 (j + 1) (by omega))
    rw [Lib.indexByte, ih]
    have : (b == c) = false := by simpa using hb
    rw [this]
    simp

/-! ### the comment -/
set_option maxRecDepth 100000 in
set_option maxHeartbeats 4000000 in
theorem com_no (x : Ctx) (k : Nat) (ins : Bool) (s : Nat) (hs : s < x.D.length) (h0 : x.D.getD s 0 = 60) (h1 : s + 1 < x.D.length → x.D.getD (s + 1) 0 ≠ 33) (w : World) (hi : x.inv k ins w) :
    Calls Tryz.prog 73 #[ptr x.M, .slice (some ⟨x.g, x.off + s, none⟩) (x.D.length - s) (x.cap - s)] w fun e w' => e = .returned (.int .i64 0) ∧ w = w' := by
  have hcap := hi.2.2.2.1
  have hcap2 := hi.2.2.2.2
  have hc := hi.at s
  obtain ⟨n, hn⟩ : ∃ n, n = x.D.length := ⟨_, rfl⟩
  rw [← hn] at hs h1 hcap hc ⊢
  by_cases h5 : n - s < 5
  · clear hc hi hn h0 h1
    go_enter Tryz.func73, Tryz.ntmps73
    go_wp2
    go_ret
    exact ⟨rfl, rfl⟩
  · have c0 : w.cell? ⟨x.g, x.off + s, none⟩ = some (.int .u8 60) := by
      have := hc 0 (by omega)
      rw [Nat.add_zero, Nat.add_zero, h0] at this
      exact this
    have c1 := hc 1 (by omega)
    obtain ⟨y, hy⟩ : ∃ y, y = x.D.getD (s + 1) 0 := ⟨_, rfl⟩
    rw [← hy] at c1
    have b1 : ((y.toNat : Int) != 33) = true := bne_no (k := 33) (by rw [hy]; exact h1 (by omega))
    have hd0 : decide (0 < n - s) = true := decide_eq_true (by omega)
    clear hc hi hn h0 h1 hy
    go_enter Tryz.func73, Tryz.ntmps73
    go_wp2
    go_ret
    exact ⟨rfl, rfl⟩
def comL : Bs := [60, 33, 45, 45, 32, 97, 32, 45, 45, 62]
set_option maxRecDepth 100000 in
set_option maxHeartbeats 8000000 in
theorem com_yes (x : Ctx) (k : Nat) (ins : Bool) (s : Nat) (hs : s + 10 ≤ x.D.length) (h : ∀ j, j < 10 → x.D.getD (s + j) 0 = comL.getD j 0) (w : World) (hi : x.inv k ins w) :
    Calls Tryz.prog 73 #[ptr x.M, .slice (some ⟨x.g, x.off + s, none⟩) (x.D.length - s) (x.cap - s)] w fun e w' => e = .returned (.int .i64 10) ∧ w = w' := by
  have hcap := hi.2.2.2.1
  have hcap2 := hi.2.2.2.2
  have hc := hi.at s
  obtain ⟨n, hn⟩ : ∃ n, n = x.D.length := ⟨_, rfl⟩
  rw [← hn] at hs hcap hc ⊢
  have cc : ∀ j, j < 10 → w.cell? ⟨x.g, x.off + s + j, none⟩ = some (.int .u8 (comL.getD j 0).toNat) := fun j hj => by
    rw [hc j (by omega), h j hj]
  have c0 : w.cell? ⟨x.g, x.off + s, none⟩ = some (.int .u8 60) := cc 0 (by omega)
  have c1 : w.cell? ⟨x.g, x.off + s + 1, none⟩ = some (.int .u8 33) := cc 1 (by omega)
  have c2 : w.cell? ⟨x.g, x.off + s + 2, none⟩ = some (.int .u8 45) := cc 2 (by omega)
  have c3 : w.cell? ⟨x.g, x.off + s + 3, none⟩ = some (.int .u8 45) := cc 3 (by omega)
  have c4 : w.cell? ⟨x.g, x.off + s + 4, none⟩ = some (.int .u8 32) := cc 4 (by omega)
  have c5 : w.cell? ⟨x.g, x.off + s + 5, none⟩ = some (.int .u8 97) := cc 5 (by omega)
  have c6 : w.cell? ⟨x.g, x.off + s + 6, none⟩ = some (.int .u8 32) := cc 6 (by omega)
  have c7 : w.cell? ⟨x.g, x.off + s + 7, none⟩ = some (.int .u8 45) := cc 7 (by omega)
  have c8 : w.cell? ⟨x.g, x.off + s + 8, none⟩ = some (.int .u8 45) := cc 8 (by omega)
  have c9 : w.cell? ⟨x.g, x.off + s + 9, none⟩ = some (.int .u8 62) := cc 9 (by omega)
  have hd0 : decide (0 < n - s) = true := decide_eq_true (by omega)
  clear hc hi hn h cc
  go_enter Tryz.func73, Tryz.ntmps73
  go_wp2
  go_loopg [5] 10 (fun q v5 wr => ∃ j : Nat, v5 = .int .i64 (j : Nat) ∧ q + j = 15 ∧ 5 ≤ j ∧ j ≤ 9 ∧ w = wr)
  case atStart => exact ⟨5, rfl, by omega, by omega, by omega, rfl⟩
  case round =>
    obtain ⟨j, rfl, hq, h5, h9, rfl⟩ := hrel
    have HQ := Lib.hid hq
    clear hq
    have hj : j = 5 ∨ j = 6 ∨ j = 7 ∨ j = 8 ∨ j = 9 := by omega
    rcases hj with rfl | rfl | rfl | rfl | rfl
    · go_wp2
      go_roundg 9
      case measure => have := HQ.out; omega
      case rel => exact ⟨6, rfl, by omega, by omega, by omega, rfl⟩
    · go_wp2
      go_roundg 8
      case measure => have := HQ.out; omega
      case rel => exact ⟨7, rfl, by omega, by omega, by omega, rfl⟩
    · go_wp2
      go_roundg 7
      case measure => have := HQ.out; omega
      case rel => exact ⟨8, rfl, by omega, by omega, by omega, rfl⟩
    · go_wp2
      go_roundg 6
      case measure => have := HQ.out; omega
      case rel => exact ⟨9, rfl, by omega, by omega, by omega, rfl⟩
    · go_wp2
      go_ret
      exact ⟨rfl, rfl⟩

/-! ### the address of a mail -/
set_option maxRecDepth 100000 in
set_option maxHeartbeats 4000000 in
theorem mail92 (x : Ctx) (k : Nat) (ins : Bool) (s m : Nat) (hs : s + m < x.D.length) (hm : 0 < m) (h0 : x.D.getD s 0 = 64) (h1 : ∀ j, 0 < j → j < m → isAln (x.D.getD (s + j) 0) = true ∨ x.D.getD (s + j) 0 = 46) (h2 : x.D.getD (s + m) 0 = 62) (w : World) (hi : x.inv k ins w) :
    Calls Tryz.prog 92 #[.slice (some ⟨x.g, x.off + s, none⟩) (x.D.length - s) (x.cap - s)] w fun e w' => e = .returned (.int .i64 ((m + 1 : Nat) : Int)) ∧ w = w' := by
  have hcap := hi.2.2.2.1
  have hcap2 := hi.2.2.2.2
  have hc := hi.at s
  obtain ⟨n, hn⟩ : ∃ n, n = x.D.length := ⟨_, rfl⟩
  rw [← hn] at hs hcap hc ⊢
  have c0 : w.cell? ⟨x.g, x.off + s, none⟩ = some (.int .u8 64) := by
    have := hc 0 (by omega)
    rw [Nat.add_zero, Nat.add_zero, h0] at this
    exact this
  have cm : w.cell? ⟨x.g, x.off + s + m, none⟩ = some (.int .u8 62) := by rw [hc m hs, h2]; rfl
  have A64 : Hid (∀ w, Calls Tryz.prog 78 #[.int .u8 64] w fun e w' => e = .returned (.bool false) ∧ w = w') := fun w => aln78 64 w
  have A62 : Hid (∀ w, Calls Tryz.prog 78 #[.int .u8 62] w fun e w' => e = .returned (.bool false) ∧ w = w') := fun w => aln78 62 w
  have A46 : Hid (∀ w, Calls Tryz.prog 78 #[.int .u8 46] w fun e w' => e = .returned (.bool false) ∧ w = w') := fun w => aln78 46 w
  have HC := Lib.hid hc
  have H1 := Lib.hid h1
  have hd0 : decide (0 < n - s) = true := decide_eq_true (by omega)
  clear hc h0 h1 h2 hi hn
  go_enter Tryz.func92, Tryz.ntmps92
  go_wp2
  go_loopg [3, 4] (m + 1) (fun q v3 v4 wr => ∃ j : Nat, v3 = .int .i64 (if j = 0 then 0 else 1) ∧ v4 = .int .i64 (j : Nat) ∧ q + j = m + 1 ∧ j ≤ m ∧ w = wr)
  case atStart => exact ⟨0, rfl, rfl, by omega, by omega, rfl⟩
  case round =>
    obtain ⟨j, rfl, rfl, hq, hj, rfl⟩ := hrel
    have HQ := Lib.hid hq
    clear hq
    by_cases hj0 : j = 0
    · subst hj0
      rw [if_pos rfl]
      go_wp2_with (go_at_call 78; refine (A64.out _).mono ?_; rintro r w' ⟨rfl, rfl⟩)
      go_roundg m
      case measure => have := HQ.out; omega
      case rel => exact ⟨1, rfl, rfl, by omega, by omega, rfl⟩
    · rw [if_neg hj0]
      by_cases hjm : j < m
      · have c1 := HC.out j (by omega)
        obtain ⟨y, hy⟩ : ∃ y, y = x.D.getD (s + j) 0 := ⟨_, rfl⟩
        rw [← hy] at c1
        have h1 := H1.out j (by omega) hjm
        rw [← hy] at h1
        clear hy
        cases ha : isAln y with
        | true =>
          have CA := Lib.hid (fun w => aln78 y w)
          rw [ha] at CA
          clear h1 ha
          go_wp2_with (go_at_call 78; refine (CA.out _).mono ?_; rintro r w' ⟨rfl, rfl⟩)
          go_roundg (m - j)
          case measure => have := HQ.out; omega
          case rel => exact ⟨j + 1, by rw [if_neg (by omega)], by go_num, by omega, by omega, rfl⟩
        | false =>
          have hy : y = 46 := by
            rcases h1 with h1 | h1
            · rw [ha] at h1; cases h1
            · exact h1
          subst hy
          have c2 : w.cell? ⟨x.g, x.off + s + j, none⟩ = some (.int .u8 46) := c1
          clear h1 ha c1
          go_wp2_with (go_at_call 78; refine (A46.out _).mono ?_; rintro r w' ⟨rfl, rfl⟩)
          go_roundg (m - j)
          case measure => have := HQ.out; omega
          case rel => exact ⟨j + 1, by rw [if_neg (by omega)], by go_num, by omega, by omega, rfl⟩
      · obtain rfl : j = m := by omega
        go_wp2_with (go_at_call 78; refine (A62.out _).mono ?_; rintro r w' ⟨rfl, rfl⟩)
        go_ret
        exact ⟨by go_num, rfl⟩
end Go.Proofs.YtalajbfpilhfgaaGreatDoor
