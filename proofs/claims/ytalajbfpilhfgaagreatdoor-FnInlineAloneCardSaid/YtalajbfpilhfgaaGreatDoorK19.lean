/-
  FnInlineAlone: automatic links without brackets: tables.
  FnInlineAlone: callbacks: letters that begin no automatic link.
-/
import Derived.Test.YtalajbfpilhfgaaGreatDoorK18
set_option linter.unusedVariables false
set_option linter.unusedSimpArgs false
namespace Go.Proofs.YtalajbfpilhfgaaGreatDoor
open Go.RowKit

theorem rd_push {w : World} {a o : Nat} {l : Bs} (ob : Obj) (h : RdO w a o l ∧ a < w.heap.size) : RdO (w.alloc ob) a o l ∧ a < (w.alloc ob).heap.size :=
  ⟨rdO_below h.1 ((Below.refl _ w).alloc (Nat.le_refl _) _) h.2, by rw [alloc_size]; have := h.2; omega⟩
theorem rd_fresh (w : World) (l : Bs) (fr : Nat × Nat) : RdO (w.alloc (.cells (cellsB l).toArray 5 fr)) w.heap.size 0 l ∧ w.heap.size < (w.alloc (.cells (cellsB l).toArray 5 fr)).heap.size := by
  obtain ⟨hb, g, C, fz, hv, hg, hh, hr⟩ := rd_const w l fr
  injection hv with hv
  injection hv with hv
  injection hv with hv
  subst hv
  exact ⟨hr, by rw [alloc_size]; omega⟩
theorem cell_fresh (w : World) (A : Array Value) (t : TypeId) (fr : Nat × Nat) (i : Nat) : (w.alloc (.cells A t fr)).cell? ⟨w.heap.size, i, none⟩ = A[i]? := by
  unfold World.cell?
  have hh : (w.alloc (.cells A t fr)).heap[w.heap.size]? = some (.cells A t fr) := by
    show (w.heap.push _)[w.heap.size]? = _
    simp
  rw [show (w.alloc (.cells A t fr)).heap[(⟨w.heap.size, i, none⟩ : Addr).block]? = _ from hh]
  rfl
theorem cell_fresh' (w : World) (A : Array Value) (t : TypeId) (fr : Nat × Nat) (i g : Nat) (hg : g = w.heap.size) : (w.alloc (.cells A t fr)).cell? ⟨g, i, none⟩ = A[i]? := by
  subst hg
  exact cell_fresh w A t fr i
theorem rd_fresh' (w : World) (l : Bs) (fr : Nat × Nat) (a : Nat) (ha : a = w.heap.size) : RdO (w.alloc (.cells (cellsB l).toArray 5 fr)) a 0 l ∧ a < (w.alloc (.cells (cellsB l).toArray 5 fr)).heap.size := by
  subst ha
  exact rd_fresh w l fr
/-- A table of texts lies at a place. -/
def TabIs (w : World) (g : Nat) (Ps : List Bs) : Prop := ∀ i, i < Ps.length → ∃ a, w.cell? ⟨g, i, none⟩ = some (.slice (some ⟨a, 0, none⟩) (Ps.getD i []).length (Ps.getD i []).length) ∧ RdO w a 0 (Ps.getD i []) ∧ a < w.heap.size
theorem hcv0 (w : World) (C : Array Value) (n c : Nat) : (convert 34 34 (.slice (some ⟨w.heap.size, 0, none⟩) n c)).run Tryz.prog (w.alloc (.cells C 5)) = .ok (.slice (some ⟨w.heap.size, 0, none⟩) n c) (w.alloc (.cells C 5 (C.size, C.size + 1))) := Lib.run_convert_bytes_const w 34 5 C n c Tryz.underlying34 Tryz.underlying5
theorem hcv1 (w : World) (o0 : Obj) (C : Array Value) (n c : Nat) : (convert 34 34 (.slice (some ⟨w.heap.size + 1, 0, none⟩) n c)).run Tryz.prog ((w.alloc o0).alloc (.cells C 5)) = .ok (.slice (some ⟨w.heap.size + 1, 0, none⟩) n c) ((w.alloc o0).alloc (.cells C 5 (C.size, C.size + 1))) := by
  have := hcv0 (w.alloc o0) C n c
  simp only [alloc_size] at this
  exact this
theorem hcv2 (w : World) (o0 o1 : Obj) (C : Array Value) (n c : Nat) : (convert 34 34 (.slice (some ⟨w.heap.size + 1 + 1, 0, none⟩) n c)).run Tryz.prog (((w.alloc o0).alloc o1).alloc (.cells C 5)) = .ok (.slice (some ⟨w.heap.size + 1 + 1, 0, none⟩) n c) (((w.alloc o0).alloc o1).alloc (.cells C 5 (C.size, C.size + 1))) := by
  have := hcv0 ((w.alloc o0).alloc o1) C n c
  simp only [alloc_size] at this
  exact this
theorem hcv3 (w : World) (o0 o1 o2 : Obj) (C : Array Value) (n c : Nat) : (convert 34 34 (.slice (some ⟨w.heap.size + 1 + 1 + 1, 0, none⟩) n c)).run Tryz.prog ((((w.alloc o0).alloc o1).alloc o2).alloc (.cells C 5)) = .ok (.slice (some ⟨w.heap.size + 1 + 1 + 1, 0, none⟩) n c) ((((w.alloc o0).alloc o1).alloc o2).alloc (.cells C 5 (C.size, C.size + 1))) := by
  have := hcv0 (((w.alloc o0).alloc o1).alloc o2) C n c
  simp only [alloc_size] at this
  exact this
theorem hcv4 (w : World) (o0 o1 o2 o3 : Obj) (C : Array Value) (n c : Nat) : (convert 34 34 (.slice (some ⟨w.heap.size + 1 + 1 + 1 + 1, 0, none⟩) n c)).run Tryz.prog (((((w.alloc o0).alloc o1).alloc o2).alloc o3).alloc (.cells C 5)) = .ok (.slice (some ⟨w.heap.size + 1 + 1 + 1 + 1, 0, none⟩) n c) (((((w.alloc o0).alloc o1).alloc o2).alloc o3).alloc (.cells C 5 (C.size, C.size + 1))) := by
  have := hcv0 ((((w.alloc o0).alloc o1).alloc o2).alloc o3) C n c
  simp only [alloc_size] at this
  exact this
def tab80 : List Bs := [[104, 116, 116, 112, 58, 47, 47], [104, 116, 116, 112, 115, 58, 47, 47], [102, 116, 112, 58, 47, 47], [102, 105, 108, 101, 58, 47, 47], [109, 97, 105, 108, 116, 111, 58]]
set_option maxRecDepth 100000 in
set_option maxHeartbeats 4000000 in
theorem tb80 (w : World) : Calls Tryz.prog 80 #[] w fun r w' => ∃ g, r = .returned (.slice (some ⟨g, 0, none⟩) 5 5) ∧ Below w.heap.size w w' ∧ TabIs w' g tab80 := by
  have h0 := hcv0
  have h1 := hcv1
  have h2 := hcv2
  have h3 := hcv3
  have h4 := hcv4
  go_enter Tryz.func80, Tryz.ntmps80
  go_wp2
  go_ret
  refine ⟨_, rfl, ?_, ?_⟩
  · exact (((((((Below.refl _ w).alloc (Nat.le_refl _) _).alloc (by simp only [alloc_size]; omega) _).alloc (by simp only [alloc_size]; omega) _).alloc (by simp only [alloc_size]; omega) _).alloc (by simp only [alloc_size]; omega) _).alloc (by simp only [alloc_size]; omega) _)
  · intro i hi
    have hi2 : i = 0 ∨ i = 1 ∨ i = 2 ∨ i = 3 ∨ i = 4 := by have : i < 5 := hi; omega
    rcases hi2 with rfl | rfl | rfl | rfl | rfl
    · refine ⟨_, (cell_fresh' _ _ _ _ _ _ (by simp only [alloc_size])).trans rfl, ?_⟩
      exact (rd_push _ (rd_push _ (rd_push _ (rd_push _ (rd_push _ (rd_fresh' _ [104, 116, 116, 112, 58, 47, 47] _ _ (by simp only [alloc_size])))))))
    · refine ⟨_, (cell_fresh' _ _ _ _ _ _ (by simp only [alloc_size])).trans rfl, ?_⟩
      exact (rd_push _ (rd_push _ (rd_push _ (rd_push _ (rd_fresh' _ [104, 116, 116, 112, 115, 58, 47, 47] _ _ (by simp only [alloc_size]))))))
    · refine ⟨_, (cell_fresh' _ _ _ _ _ _ (by simp only [alloc_size])).trans rfl, ?_⟩
      exact (rd_push _ (rd_push _ (rd_push _ (rd_fresh' _ [102, 116, 112, 58, 47, 47] _ _ (by simp only [alloc_size])))))
    · refine ⟨_, (cell_fresh' _ _ _ _ _ _ (by simp only [alloc_size])).trans rfl, ?_⟩
      exact (rd_push _ (rd_push _ (rd_fresh' _ [102, 105, 108, 101, 58, 47, 47] _ _ (by simp only [alloc_size]))))
    · refine ⟨_, (cell_fresh' _ _ _ _ _ _ (by simp only [alloc_size])).trans rfl, ?_⟩
      exact (rd_push _ (rd_fresh' _ [109, 97, 105, 108, 116, 111, 58] _ _ (by simp only [alloc_size])))
def tab107 : List Bs := [[47], [46, 47], [46, 46, 47]]
set_option maxRecDepth 100000 in
set_option maxHeartbeats 4000000 in
theorem tb107 (w : World) : Calls Tryz.prog 107 #[] w fun r w' => ∃ g, r = .returned (.slice (some ⟨g, 0, none⟩) 3 3) ∧ Below w.heap.size w w' ∧ TabIs w' g tab107 := by
  have h0 := hcv0
  have h1 := hcv1
  have h2 := hcv2
  go_enter Tryz.func107, Tryz.ntmps107
  go_wp2
  go_ret
  refine ⟨_, rfl, ?_, ?_⟩
  · exact (((((Below.refl _ w).alloc (Nat.le_refl _) _).alloc (by simp only [alloc_size]; omega) _).alloc (by simp only [alloc_size]; omega) _).alloc (by simp only [alloc_size]; omega) _)
  · intro i hi
    have hi2 : i = 0 ∨ i = 1 ∨ i = 2 := by have : i < 3 := hi; omega
    rcases hi2 with rfl | rfl | rfl
    · refine ⟨_, (cell_fresh' _ _ _ _ _ _ (by simp only [alloc_size])).trans rfl, ?_⟩
      exact (rd_push _ (rd_push _ (rd_push _ (rd_fresh' _ [47] _ _ (by simp only [alloc_size])))))
    · refine ⟨_, (cell_fresh' _ _ _ _ _ _ (by simp only [alloc_size])).trans rfl, ?_⟩
      exact (rd_push _ (rd_push _ (rd_fresh' _ [46, 47] _ _ (by simp only [alloc_size]))))
    · refine ⟨_, (cell_fresh' _ _ _ _ _ _ (by simp only [alloc_size])).trans rfl, ?_⟩
      exact (rd_push _ (rd_fresh' _ [46, 46, 47] _ _ (by simp only [alloc_size])))
def tab108 : List Bs := [[104, 116, 116, 112, 58, 47, 47], [104, 116, 116, 112, 115, 58, 47, 47], [102, 116, 112, 58, 47, 47], [109, 97, 105, 108, 116, 111, 58, 47, 47]]
set_option maxRecDepth 100000 in
set_option maxHeartbeats 4000000 in
theorem tb108 (w : World) : Calls Tryz.prog 108 #[] w fun r w' => ∃ g, r = .returned (.slice (some ⟨g, 0, none⟩) 4 4) ∧ Below w.heap.size w w' ∧ TabIs w' g tab108 := by
  have h0 := hcv0
  have h1 := hcv1
  have h2 := hcv2
  have h3 := hcv3
  go_enter Tryz.func108, Tryz.ntmps108
  go_wp2
  go_ret
  refine ⟨_, rfl, ?_, ?_⟩
  · exact ((((((Below.refl _ w).alloc (Nat.le_refl _) _).alloc (by simp only [alloc_size]; omega) _).alloc (by simp only [alloc_size]; omega) _).alloc (by simp only [alloc_size]; omega) _).alloc (by simp only [alloc_size]; omega) _)
  · intro i hi
    have hi2 : i = 0 ∨ i = 1 ∨ i = 2 ∨ i = 3 := by have : i < 4 := hi; omega
    rcases hi2 with rfl | rfl | rfl | rfl
    · refine ⟨_, (cell_fresh' _ _ _ _ _ _ (by simp only [alloc_size])).trans rfl, ?_⟩
      exact (rd_push _ (rd_push _ (rd_push _ (rd_push _ (rd_fresh' _ [104, 116, 116, 112, 58, 47, 47] _ _ (by simp only [alloc_size]))))))
    · refine ⟨_, (cell_fresh' _ _ _ _ _ _ (by simp only [alloc_size])).trans rfl, ?_⟩
      exact (rd_push _ (rd_push _ (rd_push _ (rd_fresh' _ [104, 116, 116, 112, 115, 58, 47, 47] _ _ (by simp only [alloc_size])))))
    · refine ⟨_, (cell_fresh' _ _ _ _ _ _ (by simp only [alloc_size])).trans rfl, ?_⟩
      exact (rd_push _ (rd_push _ (rd_fresh' _ [102, 116, 112, 58, 47, 47] _ _ (by simp only [alloc_size]))))
    · refine ⟨_, (cell_fresh' _ _ _ _ _ _ (by simp only [alloc_size])).trans rfl, ?_⟩
      exact (rd_push _ (rd_fresh' _ [109, 97, 105, 108, 116, 111, 58, 47, 47] _ _ (by simp only [alloc_size])))

/-- No prefix of a protocol stands at e. -/
def NoPre (D : Bs) (e : Nat) : Prop := ∀ i, i < 5 → ∃ j, j < (tab80.getD i []).length ∧ (tab80.getD i []).getD j 0 ≠ D.getD (e + j) 0 ∧ (tab80.getD i []).getD j 0 ≠ D.getD (e + j) 0 + 32
theorem tab80_len (i : Nat) (h : i < 5) : (tab80.getD i []).length ≤ 8 := by
  have : i = 0 ∨ i = 1 ∨ i = 2 ∨ i = 3 ∨ i = 4 := by omega
  rcases this with rfl | rfl | rfl | rfl | rfl <;> decide
theorem getD_take'' {l : Bs} {n j : Nat} (h : j < n) : (l.take n).getD j 0 = l.getD j 0 := by simp [List.getD, List.getElem?_take, h]
theorem take_drop_len {D : Bs} {e m : Nat} (h : e + m ≤ D.length) : ((D.drop e).take m).length = m := by simp; omega

set_option maxRecDepth 100000 in
set_option maxHeartbeats 8000000 in
theorem auto_quiet (x : Ctx) (k : Nat) (ins : Bool) (e : Nat) (he : e < x.D.length) (hP : ins = false → NoPre x.D e) (w : World) (hi : x.inv k ins w) :
    Calls Tryz.prog 56 #[ptr x.M, x.val, .int .i64 e] w fun r w' => (∃ v, r = .returned (.tuple #[.int .i64 0, v])) ∧ Below w.heap.size w w' := by
  have hcap := hi.2.2.2.1
  have hcap2 := hi.2.2.2.2
  have hci := hi.ins'
  have RD := Lib.hid (fun w' (hb : Below w.heap.size w w') m (hm : e + m ≤ x.D.length) => rdO_sub (hi.below hb).2.1 e m)
  unfold Ctx.val
  cases ins with
  | true =>
    clear RD hP hi
    go_enter Tryz.func56, Tryz.ntmps56
    go_wp2
    go_ret2
    exact ⟨⟨_, rfl⟩, Below.refl _ _⟩
  | false =>
    have HN := Lib.hid (hP rfl)
    obtain ⟨n, hn⟩ : ∃ n, n = x.D.length := ⟨_, rfl⟩
    rw [← hn] at he hcap ⊢
    have HLN := Lib.hid hn
    by_cases h6 : n < e + 6
    · clear RD hP hi hn
      go_enter Tryz.func56, Tryz.ntmps56
      go_wp2
      go_ret2
      exact ⟨⟨_, rfl⟩, Below.refl _ _⟩
    · have C80 := Lib.hid (tb80 w)
      obtain ⟨m, hm⟩ : ∃ m, m = min 8 (n - e) := ⟨_, rfl⟩
      have hm1 : e + m ≤ n := by omega
      have hm2 : m ≤ 8 := by omega
      have PN : Hid (∀ w' i a, Below w.heap.size w w' → i < 5 → RdO w' a 0 (tab80.getD i []) → Calls Tryz.prog 81 #[.slice (some ⟨x.g, x.off + e, none⟩) m (x.cap - e), .slice (some ⟨a, 0, none⟩) (tab80.getD i []).length (tab80.getD i []).length] w' fun r w2 => r = .returned (.bool false) ∧ w' = w2) := fun w' i a hb hi5 hr => by
        refine pre81_no x.g (x.off + e) m _ a 0 _ (tab80.getD i []) ((x.D.drop e).take m) (take_drop_len (by rw [← hn]; exact hm1)) (by omega) w' (RD.out w' hb m (by rw [← hn]; exact hm1)) hr (fun hle => ?_) (by have := tab80_len i hi5; omega)
        obtain ⟨j, hj1, hj2, hj3⟩ := HN.out i hi5
        refine ⟨j, hj1, ?_, ?_⟩
        · rw [getD_take'' (by omega), getD_drop]; exact hj2
        · rw [getD_take'' (by omega), getD_drop]; exact hj3
      by_cases h8 : n < e + 8
      · obtain rfl : m = n - e := by omega
        clear RD hP hi hn hm hm1 hm2
        go_enter Tryz.func56, Tryz.ntmps56
        go_wp2_with (go_at_call 80; refine C80.out.mono ?_; rintro r w1 ⟨g1, rfl, hb1, ht1⟩; have HB1 := Lib.hid hb1; have HT1 := Lib.hid ht1; clear hb1 ht1)
        go_loopg [24] 6 (fun q v24 wr => w1 = wr ∧ ∃ i : Nat, v24 = .int .i64 (i : Nat) ∧ q + i = 6 ∧ i ≤ 5)
        case atStart => exact ⟨rfl, 0, rfl, by omega, by omega⟩
        case round =>
          obtain ⟨rfl, i, rfl, hq, hi5⟩ := hrel
          have HQ := Lib.hid hq
          clear hq
          by_cases hi : i < 5
          · obtain ⟨a, c1, hr1, -⟩ := HT1.out i hi
            have CP := Lib.hid (PN.out w1 i a HB1.out hi hr1)
            clear hr1
            go_wp2_with (go_at_call 81; refine CP.out.mono ?_; rintro r w' ⟨rfl, rfl⟩)
            go_roundg (5 - i)
            case measure => have := HQ.out; omega
            case rel => exact ⟨rfl, i + 1, by go_num, by have := HQ.out; omega, by omega⟩
          · go_wp2
            go_ret2
            exact ⟨⟨_, rfl⟩, HB1.out⟩
      · obtain rfl : m = 8 := by omega
        clear RD hP hi hn hm hm1 hm2
        go_enter Tryz.func56, Tryz.ntmps56
        go_wp2_with (go_at_call 80; refine C80.out.mono ?_; rintro r w1 ⟨g1, rfl, hb1, ht1⟩; have HB1 := Lib.hid hb1; have HT1 := Lib.hid ht1; clear hb1 ht1)
        go_loopg [24] 6 (fun q v24 wr => w1 = wr ∧ ∃ i : Nat, v24 = .int .i64 (i : Nat) ∧ q + i = 6 ∧ i ≤ 5)
        case atStart => exact ⟨rfl, 0, rfl, by omega, by omega⟩
        case round =>
          obtain ⟨rfl, i, rfl, hq, hi5⟩ := hrel
          have HQ := Lib.hid hq
          clear hq
          by_cases hi : i < 5
          · obtain ⟨a, c1, hr1, -⟩ := HT1.out i hi
            have CP := Lib.hid (PN.out w1 i a HB1.out hi hr1)
            clear hr1
            go_wp2_with (go_at_call 81; refine CP.out.mono ?_; rintro r w' ⟨rfl, rfl⟩)
            go_roundg (5 - i)
            case measure => have := HQ.out; omega
            case rel => exact ⟨rfl, i + 1, by go_num, by have := HQ.out; omega, by omega⟩
          · go_wp2
            go_ret2
            exact ⟨⟨_, rfl⟩, HB1.out⟩
end Go.Proofs.YtalajbfpilhfgaaGreatDoor
