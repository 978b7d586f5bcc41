/- The byte buffer's Write, with all that it leaves as it was. -/
import Derived.Test.YtkogokjlpgnmlaaG1
import Derived.Laws.IdiomCopy
import Derived.Laws.CopyRow
import Derived.Lib.BufferWrite
import Derived.Lib.AtoiErrMem
set_option linter.unusedVariables false
set_option linter.unusedSimpArgs false
namespace Go.Proofs.Ytkogokjlpgnmlaa
open Go.RowKit

/-- All blocks but b and v's row are as they were. -/
def Wr (w : World) (b : Nat) (v : Value) (w' : World) : Prop :=
  w'.os = w.os ∧ w'.tape = w.tape ∧ w'.output = w.output ∧ w.heap.size ≤ w'.heap.size ∧ ∀ k, k < w.heap.size → k ≠ b → some k ≠ v.ownBlock → w'.heap[k]? = w.heap[k]?
/-- The answer of Write. -/
def Written (w : World) (b : Nat) (v : Value) (l : Bs) (w' : World) : Prop :=
  ∃ v', BufAt w' b v' l ∧ Wr w b v w' ∧ (v'.ownBlock = v.ownBlock ∨ ∃ g, v'.ownBlock = some g ∧ w.heap.size ≤ g)

theorem u8size : (Try.prog.info? 5).map (·.size) = some 1 := by kernel_rfl

theorem grow_any (b n : Nat) (v : Value) (l : Bs) (w : World) (h : BufAt w b v l) (hn : 1 ≤ n) (hno : ∀ ao cap, v = .slice ao l.length cap → cap - l.length < n) (hlim : l.length + n ≤ 140737488355328) :
    Calls Try.prog 83 #[.pointer (some ⟨b, 0, none⟩), .int .i64 n] w fun e w' => e = .returned (.int .i64 l.length) ∧ Room w b v l n w' := by
  obtain ⟨lr, hbk, ⟨rfl, rfl⟩ | ⟨g, cap, cur, h0, rfl, hg, hcs, hlc, hcm, htk, hgb⟩⟩ := h
  · rcases Nat.lt_or_ge 64 n with h64 | h64
    · exact grow_big b n lr w hbk h64 (by simpa using hlim)
    · exact grow_small b n lr w hbk hn h64
  · exact grow_row b g cap n lr cur l w hbk h0 hg hlc hcm hcs htk hgb hn (hno _ _ rfl) hlim

/-- The end of Write: the bytes laid behind l. -/
theorem room_end {w w1 : World} {b n : Nat} {v : Value} {l cs : Bs} {g cap : Nat} {cur : Array Value} {lr : Int} (hn : cs.length = n) (hn1 : 1 ≤ n)
    (hb : w1.heap[b]? = some (.cells #[.slice (some ⟨g, 0, none⟩) (l.length + n) cap, .int .i64 0, .int .i8 lr] 43 (0, 0)))
    (hg : w1.heap[g]? = some (.cells cur 5 (0, 0))) (hcs : cur.size = cap) (hlc : l.length + n ≤ cap) (hcm : cap ≤ maxLen) (htk : cur.toList.take l.length = cellsB l) (hgb : g ≠ b)
    (hgr : w.grownBy w1 (some b)) (hgv : some g = v.ownBlock ∨ w.heap.size ≤ g) :
    Written w b v (l ++ cs) (w1.setRow g (cur.toList.take l.length ++ cellsB cs ++ cur.toList.drop (l.length + (cellsB cs).length)).toArray) := by
  have hcl : (cellsB cs).length = n := by rw [cellsB_length, hn]
  have hll : (cellsB l).length = l.length := cellsB_length l
  have hlen : (l ++ cs).length = l.length + n := by rw [List.length_append, hn]
  refine ⟨.slice (some ⟨g, 0, none⟩) (l.length + n) cap, ⟨lr, ?_, Or.inr ⟨g, cap, _, by rw [hlen]; omega, by rw [hlen], setRow_heap w1 g cur _ 5 _ hg, ?_, by rw [hlen]; exact hlc, hcm, ?_, hgb⟩⟩, ⟨hgr.os, hgr.tape, hgr.output, by rw [size_setRow]; exact hgr.size, ?_⟩, ?_⟩
  · rw [setRow_other _ _ _ _ (Ne.symm hgb)]; exact hb
  · simp only [List.size_toArray, List.length_append, List.length_take, List.length_drop, Array.length_toList, hcl, hcs]; omega
  · rw [List.toList_toArray, htk, hlen, List.take_left' (by rw [List.length_append, hll, hcl])]
    unfold cellsB
    rw [List.map_append]
  · intro k hk hkb hkv
    have hkg : k ≠ g := by
      rintro rfl
      rcases hgv with h | h
      · exact hkv h
      · omega
    rw [setRow_other _ _ _ _ hkg]
    exact hgr.block k hk (by simpa using hkb)
  · rcases hgv with h | h
    · exact Or.inl (by rw [← h]; rfl)
    · exact Or.inr ⟨g, rfl, h⟩

set_option maxHeartbeats 12800000 in
set_option maxRecDepth 100000 in
theorem write_none (b : Nat) (v : Value) (l : Bs) (a : Addr) (c : Nat) (w : World) (h : BufAt w b v l) :
    Calls Try.prog 81 #[.pointer (some ⟨b, 0, none⟩), .slice (some a) 0 c] w fun e w' => e = .returned (.tuple #[.int .i64 0, .nilIface]) ∧ Written w b v l w' := by
  obtain ⟨Q, hQ⟩ : ∃ Q : World → Prop, Q = Written w b v l := ⟨_, rfl⟩
  rw [show (fun (e : Ending) (w' : World) => e = .returned (.tuple #[.int .i64 0, .nilIface]) ∧ Written w b v l w') = fun e w' => e = .returned (.tuple #[.int .i64 0, .nilIface]) ∧ Q w' by rw [hQ]]
  obtain ⟨lr, hbk, hv⟩ := h
  obtain ⟨ao, cap, rfl, hlc, hcm⟩ : ∃ ao cap, v = .slice ao l.length cap ∧ l.length ≤ cap ∧ cap ≤ maxLen := by
    rcases hv with ⟨rfl, rfl⟩ | ⟨g, cap, cur, h0, rfl, hg, hcs, hlc, hcm, htk, hgb⟩
    · exact ⟨none, 0, rfl, Nat.le_refl _, by unfold maxLen; decide⟩
    · exact ⟨_, cap, rfl, hlc, hcm⟩
  have hbw := Lib.lt_of_heap hbk
  have c2 : w.cell? ⟨b, 2, none⟩ = some (.int .i8 lr) := by rw [Lib.cell_of_heap hbk]; rfl
  have f2 : w.frozen? ⟨b, 2, none⟩ = false := Lib.frozen_of_heap hbk 2
  obtain ⟨W0, hW0⟩ : ∃ W0, W0 = w.setCell ⟨b, 2, none⟩ (.int .i8 0) := ⟨_, rfl⟩
  have hb0 : W0.heap[b]? = some (.cells #[.slice ao l.length cap, .int .i64 0, .int .i8 0] 43 (0, 0)) := by
    rw [hW0]
    simpa using Lib.heap_setCell_same (i := 2) hbk (.int .i8 0)
  obtain ⟨W1, hW1⟩ : ∃ W1, W1 = W0.setCell ⟨b, 0, none⟩ (.slice ao (l.length + 0) cap) := ⟨_, rfl⟩
  have hb1 : W1.heap[b]? = some (.cells #[.slice ao l.length cap, .int .i64 0, .int .i8 0] 43 (0, 0)) := by
    rw [hW1]
    simpa using Lib.heap_setCell_same (i := 0) hb0 (.slice ao (l.length + 0) cap)
  have hend : Written w b (.slice ao l.length cap) l W1 := by
    have hne : ∀ k, k ≠ b → W1.heap[k]? = w.heap[k]? := fun k hk => by
      rw [hW1, Below.heap_setCell _ _ _ _ hk, hW0, Below.heap_setCell _ _ _ _ hk]
    refine ⟨.slice ao l.length cap, ⟨0, hb1, ?_⟩, ⟨by rw [hW1, hW0]; rfl, by rw [hW1, hW0]; rfl, by rw [hW1, hW0]; rfl, by rw [hW1, hW0]; simp [World.setCell], fun k _ hk _ => hne k hk⟩, Or.inl rfl⟩
    rcases hv with h | ⟨g, cap', cur, h0, he, hg, hcs, hlc, hcm, htk, hgb⟩
    · exact Or.inl h
    · exact Or.inr ⟨g, cap', cur, h0, he, (hne g hgb).trans hg, hcs, hlc, hcm, htk, hgb⟩
  have cg : Calls Try.prog 82 #[.pointer (some ⟨b, 0, none⟩), .int .i64 0] W0 fun e w' => e = .returned (.tuple #[.int .i64 l.length, .bool true]) ∧ w' = W1 := by
    rw [hW1]
    exact Try.Buffer_tryGrow_room b ao l.length cap 0 W0 (by rw [Lib.cell_of_heap hb0]; rfl) (Lib.frozen_of_heap hb0 0) hlc hcm (Nat.zero_le _)
  have d0 : W1.cell? ⟨b, 0, none⟩ = some (.slice ao l.length cap) := by rw [Lib.cell_of_heap hb1]; rfl
  have hce : ∀ d dLen dCap W, (Builtin.copy_ #[29, 29] 3 #[.slice d dLen dCap, .slice (some a) 0 c]).run Try.prog W = .ok (goInt 0) W := fun d dLen dCap W => run_copy_none W 29 29 3 5 d (some a) dLen dCap 0 c Try.underlying29 u8size (by simp)
  unfold maxLen at hcm
  have CG := Lib.hid cg
  have HE : Hid (Q W1) := hQ ▸ hend
  clear hQ
  have HW := Lib.hid hW0
  have HW' := Lib.hid hW1
  clear cg hend hv hb0 hb1 hW1
  go_enter Try.func81, Try.ntmps81
  go_wp2_with (go_at_call 82; refine (show Calls Try.prog 82 #[.pointer (some ⟨b, 0, none⟩), .int .i64 0] (w.setCell ⟨b, 2, none⟩ (.int .i8 0)) _ from HW.out ▸ CG.out).mono ?_; rintro e w' ⟨rfl, rfl⟩)
  all_goals (go_ret2; exact ⟨rfl, HE.out⟩)

set_option maxHeartbeats 12800000 in
set_option maxRecDepth 100000 in
theorem write_some (b : Nat) (v : Value) (l cs : Bs) (a : Addr) (n c : Nat) (w : World) (h : BufAt w b v l) (hn : cs.length = n) (hn1 : 1 ≤ n) (hab : a.block ≠ b)
    (hsrc : ∀ j x, (cellsB cs)[j]? = some x → w.cell? (a.add j) = some x) (hlim : l.length + n ≤ 140737488355328) :
    Calls Try.prog 81 #[.pointer (some ⟨b, 0, none⟩), .slice (some a) n c] w fun e w' => e = .returned (.tuple #[.int .i64 n, .nilIface]) ∧ Written w b v (l ++ cs) w' := by
  obtain ⟨Q, hQ⟩ : ∃ Q : World → Prop, Q = Written w b v (l ++ cs) := ⟨_, rfl⟩
  rw [show (fun (e : Ending) (w' : World) => e = .returned (.tuple #[.int .i64 n, .nilIface]) ∧ Written w b v (l ++ cs) w') = fun e w' => e = .returned (.tuple #[.int .i64 n, .nilIface]) ∧ Q w' by rw [hQ]]
  have hone : ∀ v ∈ cellsB cs, v.oneCell' = true := by
    intro v hv
    obtain ⟨c, _, rfl⟩ := List.mem_map.1 hv
    rfl
  have hcl : (cellsB cs).length = n := by rw [cellsB_length, hn]
  have halt : a.block < w.heap.size := by
    have h1 : w.cell? (a.add 0) = some _ := hsrc 0 _ (List.getElem?_eq_getElem (by omega))
    exact Lib.lt_of_cell h1
  obtain ⟨lr, hbk, hv⟩ := id h
  obtain ⟨ao, cap, rfl, hlc, hcm⟩ : ∃ ao cap, v = .slice ao l.length cap ∧ l.length ≤ cap ∧ cap ≤ maxLen := by
    rcases hv with ⟨rfl, rfl⟩ | ⟨g, cap, cur, h0, rfl, hg, hcs, hlc, hcm, htk, hgb⟩
    · exact ⟨none, 0, rfl, Nat.le_refl _, by unfold maxLen; decide⟩
    · exact ⟨_, cap, rfl, hlc, hcm⟩
  have hbw := Lib.lt_of_heap hbk
  have c2 : w.cell? ⟨b, 2, none⟩ = some (.int .i8 lr) := by rw [Lib.cell_of_heap hbk]; rfl
  have f2 : w.frozen? ⟨b, 2, none⟩ = false := Lib.frozen_of_heap hbk 2
  obtain ⟨W0, hW0⟩ : ∃ W0, W0 = w.setCell ⟨b, 2, none⟩ (.int .i8 0) := ⟨_, rfl⟩
  have hg0 : w.grownBy W0 (some b) := by rw [hW0]; exact Lib.grownBy_setB ⟨rfl, rfl, rfl, Nat.le_refl _, fun _ _ _ => rfl⟩ 2 _
  have hs0 : W0.heap.size = w.heap.size := by rw [hW0]; simp [World.setCell]
  have hne0 : ∀ k, k ≠ b → W0.heap[k]? = w.heap[k]? := fun k hk => by rw [hW0, Below.heap_setCell _ _ _ _ hk]
  have hb0 : W0.heap[b]? = some (.cells #[.slice ao l.length cap, .int .i64 0, .int .i8 0] 43 (0, 0)) := by
    rw [hW0]
    simpa using Lib.heap_setCell_same (i := 2) hbk (.int .i8 0)
  have hB0 : BufAt W0 b (.slice ao l.length cap) l := by
    refine ⟨0, hb0, ?_⟩
    rcases hv with h | ⟨g, cap', cur, h0, he, hg, hcs, hlc, hcm, htk, hgb⟩
    · exact Or.inl h
    · exact Or.inr ⟨g, cap', cur, h0, he, (hne0 g hgb).trans hg, hcs, hlc, hcm, htk, hgb⟩
  -- behind the growing: the copy
  have hcopy : ∀ W1, Room w b (.slice ao l.length cap) l n W1 → ∃ (ca : Nat) (g : Nat), W1.cell? ⟨b, 0, none⟩ = some (.slice (some ⟨g, 0, none⟩) (l.length + n) ca) ∧ l.length + n ≤ ca ∧ ca ≤ maxLen ∧ ∃ w2,
      (Builtin.copy_ #[29, 29] 3 #[.slice (some ⟨g, l.length, none⟩) n (ca - l.length), .slice (some a) n c]).run Try.prog W1 = .ok (goInt n) w2 ∧ Q w2 := by
    rw [hQ]
    rintro W1 ⟨g, ca, cur, lr1, h1, h2, h3, h4, h5, h6, h7, h8, h9⟩
    have hsrc1 : ∀ j v, (cellsB cs)[j]? = some v → W1.cell? (a.add j) = some v := fun j v hj => h8.cell (hsrc j v hj) (by rw [Lib.block_add]; simpa using hab)
    have hcp := run_copy_row (P := Try.prog) W1 29 29 3 5 g l.length n (ca - l.length) a n c cur 5 (cellsB cs) Try.underlying29 u8size h2 (by rw [hcl]; exact (Nat.min_self n).symm) hsrc1 (by rw [hcl]; omega) hone
    refine ⟨ca, g, by rw [Lib.cell_of_heap h1]; rfl, h4, h5, _, by rw [hcl] at hcp ⊢; exact hcp, room_end hn hn1 h1 h2 h3 h4 h5 h6 h7 h8 h9⟩
  rcases Nat.lt_or_ge (cap - l.length) n with hno | hro
  · have cg : Calls Try.prog 83 #[.pointer (some ⟨b, 0, none⟩), .int .i64 n] W0 fun e w' => e = .returned (.int .i64 l.length) ∧ Room w b (.slice ao l.length cap) l n w' := by
      refine (grow_any b n _ l W0 hB0 hn1 (fun ao' cap' he => by cases he; exact hno) hlim).mono ?_
      rintro e w' ⟨he, g, ca, cur, lr1, h1, h2, h3, h4, h5, h6, h7, h8, h9⟩
      exact ⟨he, g, ca, cur, lr1, h1, h2, h3, h4, h5, h6, h7, grownBy_trans hg0 h8, by rw [hs0] at h9; exact h9⟩
    have ct := Try.Buffer_tryGrow_none b ao l.length cap n W0 (by rw [Lib.cell_of_heap hb0]; rfl) hlc hcm hno
    rw [hW0] at cg ct
    have CG := Lib.hid cg
    have CT := Lib.hid ct
    have HC := Lib.hid hcopy
    clear hQ
    obtain ⟨m, hm⟩ : ∃ m, m = l.length := ⟨_, rfl⟩
    rw [← hm] at CG HC hlc hlim
    clear cg ct hcopy hv hb0 hW0 hg0 hs0 hne0 hB0 h W0 hone hcl hbk hno
    have HM := Lib.hid hm
    clear hm
    go_enter Try.func81, Try.ntmps81
    go_wp2_with (go_at_call 82; refine CT.out.mono ?_; rintro e w' ⟨rfl, rfl⟩)
    go_wp2_with (go_at_call 83; refine CG.out.mono ?_; rintro e W1 ⟨rfl, hr⟩; obtain ⟨ca, g, d0, h4, h5, w2, hcp, hwr⟩ := HC.out W1 hr; have HWR := Lib.hid hwr; clear hwr hr; unfold maxLen at h5; have hne : ¬ ca = m := by omega)
    all_goals (go_ret2; exact ⟨rfl, HWR.out⟩)
  · have hroom : Room w b (.slice ao l.length cap) l n (W0.setCell ⟨b, 0, none⟩ (.slice ao (l.length + n) cap)) := by
      rcases hv with ⟨h, h'⟩ | ⟨g, cap', cur, h0, he, hg, hcs, hlc, hcm, htk, hgb⟩
      · exact absurd (show cap = 0 by injection h) (by omega)
      · cases he
        refine ⟨g, cap, cur, 0, ?_, by rw [Below.heap_setCell _ _ _ _ hgb]; exact (hne0 g hgb).trans hg, hcs, by omega, hcm, htk, hgb, Lib.grownBy_setB hg0 0 _, Or.inl rfl⟩
        simpa using Lib.heap_setCell_same (i := 0) hb0 (.slice (some ⟨g, 0, none⟩) (l.length + n) cap)
    have ct := Try.Buffer_tryGrow_room b ao l.length cap n W0 (by rw [Lib.cell_of_heap hb0]; rfl) (Lib.frozen_of_heap hb0 0) hlc hcm hro
    obtain ⟨ca, g, d0, h4, h5, w2, hcp, hwr⟩ := hcopy _ hroom
    obtain ⟨W1, hW1⟩ : ∃ W1, W1 = W0.setCell ⟨b, 0, none⟩ (.slice ao (l.length + n) cap) := ⟨_, rfl⟩
    rw [← hW1] at ct d0 hcp
    rw [hW0] at ct
    have CT := Lib.hid ct
    have HWR := Lib.hid hwr
    clear hQ
    obtain ⟨m, hm⟩ : ∃ m, m = l.length := ⟨_, rfl⟩
    rw [← hm] at CT d0 h4 hcp hlc hlim
    unfold maxLen at h5
    have hne : ¬ ca = m := by omega
    clear ct hwr hcopy hv hb0 hW0 hg0 hs0 hne0 hB0 h hone hcl hbk hroom hW1 W0
    have HM := Lib.hid hm
    clear hm
    go_enter Try.func81, Try.ntmps81
    go_wp2_with (go_at_call 82; refine CT.out.mono ?_; rintro e w' ⟨rfl, rfl⟩)
    all_goals (go_ret2; exact ⟨rfl, HWR.out⟩)

theorem write_any (b : Nat) (v : Value) (l cs : Bs) (a : Addr) (n c : Nat) (w : World) (h : BufAt w b v l) (hn : cs.length = n) (hab : a.block ≠ b)
    (hsrc : ∀ j x, (cellsB cs)[j]? = some x → w.cell? (a.add j) = some x) (hlim : l.length + n ≤ 140737488355328) :
    Calls Try.prog 81 #[.pointer (some ⟨b, 0, none⟩), .slice (some a) n c] w fun e w' => e = .returned (.tuple #[.int .i64 n, .nilIface]) ∧ Written w b v (l ++ cs) w' := by
  rcases Nat.eq_zero_or_pos n with h0 | h0
  · subst h0
    obtain rfl := List.eq_nil_of_length_eq_zero hn
    rw [List.append_nil]
    exact write_none b v l a c w h
  · exact write_some b v l cs a n c w h hn h0 hab hsrc hlim
end Go.Proofs.Ytkogokjlpgnmlaa
