/-
  FnInlineAlone: what a piece means, by its kinds.
-/
import Derived.Test.YtalajbfpilhfgaaGreatDoorK36
set_option linter.unusedVariables false
set_option linter.unusedSimpArgs false
namespace Go.Proofs.YtalajbfpilhfgaaGreatDoor
open Go.RowKit

set_option maxRecDepth 100000 in
set_option maxHeartbeats 8000000 in
theorem me_14 (ch sep : Int) (var : Int) (e : Nat) (he : e ≤ 131070) (a b c : Bs) (hch : ch = 0 ∨ ch = 1) (ha : a.length ≤ 100) (hb : b.length ≤ 100) (hc : c.length ≤ 100) (w : World) :
    Calls Tryz.prog 16 #[.agg #[.int .i64 14, .int .i64 ch, .int .i64 var, .int .i64 sep, strV a, strV b, strV c], .int .i64 e] w fun r w' => MadeN w (meK (e.testBit 5) (e.testBit 4) (oneC ch) (oddC ch) a b c 14 (var : Int).toNat) r w' := by
  have H14 := Lib.hid (fun w => has14 e 5 32 rfl (by decide) (by decide) (by omega) w)
  have J14 := Lib.hid (fun w => has14 e 4 16 rfl (by decide) (by decide) (by omega) w)
  obtain ⟨del, hdel⟩ : ∃ d, d = e.testBit 5 := ⟨_, rfl⟩
  rw [← hdel] at H14 ⊢
  clear hdel
  obtain ⟨aut, haut⟩ : ∃ d, d = e.testBit 4 := ⟨_, rfl⟩
  rw [← haut] at J14 ⊢
  clear haut
  obtain ⟨A, hA⟩ : ∃ S : ByteArray, S = ⟨a.toArray⟩ := ⟨_, rfl⟩
  obtain ⟨B, hB⟩ : ∃ S : ByteArray, S = ⟨b.toArray⟩ := ⟨_, rfl⟩
  obtain ⟨C, hC⟩ : ∃ S : ByteArray, S = ⟨c.toArray⟩ := ⟨_, rfl⟩
  have zA : A.size ≤ 100 := by rw [hA]; show a.toArray.size ≤ _; simpa using ha
  have zB : B.size ≤ 100 := by rw [hB]; show b.toArray.size ≤ _; simpa using hb
  have zC : C.size ≤ 100 := by rw [hC]; show c.toArray.size ≤ _; simpa using hc
  obtain ⟨LL, hLL⟩ : ∃ LL, LL = meK del aut (oneC ch) (oddC ch) a b c 14 (var : Int).toNat := ⟨_, rfl⟩
  rw [← hLL]
  simp only [strV]
  rw [← hA, ← hB, ← hC]
  have HA := Lib.hid hA
  have HB := Lib.hid hB
  have HC := Lib.hid hC
  have HLL := Lib.hid hLL
  clear hA hB hC hLL
  have HBD := Lib.hid (fun o => (Below.refl w.heap.size w).alloc (Nat.le_refl _) o)
  have hmix : Tryz.prog.follows .mixedOrders = true := by kernel_rfl
  go_enter Tryz.func16, Tryz.ntmps16
  go_upto_region 1 with fail
  generalize hW : w.alloc _ = W
  have hz0 : W.heap.size = w.heap.size + 1 := by rw [← hW]; simp
  have hbW : Below w.heap.size w W := by rw [← hW]; exact HBD.out _
  obtain ⟨SS, hSS⟩ : ∃ SS : World → Prop, SS = fun w' => C7 w' w.heap.size (.int .i64 14) (.int .i64 ch) (.int .i64 var) (.int .i64 sep) (.string A) (.string B) (.string C) := ⟨_, rfl⟩
  have HSS : Hid (∀ w', Below W.heap.size W w' → SS w') := by
    rw [hSS]
    refine Lib.hid (fun w' h => ?_)
    have hb : w'.heap[w.heap.size]? = W.heap[w.heap.size]? := h.block _ (by rw [hz0]; omega)
    rw [← hW] at hb
    have hb2 := hb.trans (heap_alloc_new w _)
    exact ⟨(Lib.cell_of_heap hb2 0).trans rfl, (Lib.cell_of_heap hb2 1).trans rfl, (Lib.cell_of_heap hb2 2).trans rfl, (Lib.cell_of_heap hb2 3).trans rfl, (Lib.cell_of_heap hb2 4).trans rfl, (Lib.cell_of_heap hb2 5).trans rfl, (Lib.cell_of_heap hb2 6).trans rfl⟩
  have sfa : ∀ x, SS x → C7 x w.heap.size (.int .i64 14) (.int .i64 ch) (.int .i64 var) (.int .i64 sep) (.string A) (.string B) (.string C) := by rw [hSS]; exact fun x h => h
  have sf0 : ∀ u : SW SS, (u.x).cell? ⟨w.heap.size, 0, none⟩ = some (.int .i64 14) := fun u => (sfa u.x u.h).1
  have sf1 : ∀ u : SW SS, (u.x).cell? ⟨w.heap.size, 1, none⟩ = some (.int .i64 ch) := fun u => (sfa u.x u.h).2.1
  have sf2 : ∀ u : SW SS, (u.x).cell? ⟨w.heap.size, 2, none⟩ = some (.int .i64 var) := fun u => (sfa u.x u.h).2.2.1
  have sf3 : ∀ u : SW SS, (u.x).cell? ⟨w.heap.size, 3, none⟩ = some (.int .i64 sep) := fun u => (sfa u.x u.h).2.2.2.1
  have sf4 : ∀ u : SW SS, (u.x).cell? ⟨w.heap.size, 4, none⟩ = some (.string A) := fun u => (sfa u.x u.h).2.2.2.2.1
  have sf5 : ∀ u : SW SS, (u.x).cell? ⟨w.heap.size, 5, none⟩ = some (.string B) := fun u => (sfa u.x u.h).2.2.2.2.2.1
  have sf6 : ∀ u : SW SS, (u.x).cell? ⟨w.heap.size, 6, none⟩ = some (.string C) := fun u => (sfa u.x u.h).2.2.2.2.2.2
  have HOP : Hid (∀ w', SS w' → C7 w' w.heap.size (.int .i64 14) (.int .i64 ch) (.int .i64 var) (.int .i64 sep) (.string A) (.string B) (.string C)) := by rw [hSS]; exact Lib.hid (fun w' h => h)
  obtain ⟨e0, e1, e2, e3, e4, e5, e6⟩ := HOP.out W (HSS.out W (Below.refl _ _))
  have HBW := Lib.hid hbW
  have HZ0 := Lib.hid hz0
  clear hW hbW hz0 HBD hSS sfa
  have t14 : True := trivial
  go_wp2_with (first | (clear t14; go_at_call 14; refine (H14.out _).mono ?_; rintro e w' ⟨rfl, rfl⟩) | (go_at_call 14; refine (J14.out _).mono ?_; rintro e w' ⟨rfl, rfl⟩))
  try simp only [List.append]
  refine wp_region_pathL (last := 14) (S := fun w' => ∃ u : SW SS, w' = u.x) (([1, 2, 3, 6, 7, 9, 10, 11] : List Nat).map (fun i => (i, true)) ++ [(0, false), (4, false), (5, false), (8, false), (12, false), (13, false), (14, false)]) [0, 0, 2, 4, 9, 16, 0, 64, 160, 0, 512, 1024, 2304, 4401, 16383] 154 hmix (by kernel_rfl) (by kernel_rfl) (by kernel_rfl) (by kernel_rfl) (by kernel_rfl) (by kernel_rfl) (by kernel_rfl) ⟨⟨_, HSS.out _ (bdn (Below.refl W.heap.size W) 1)⟩, rfl⟩ ?_
  refine wpPath_quietL' _ _ (by kernel_rfl) ?_
  iterate 8 (refine wpQ_op rfl rfl fun K hK => ?_; go_big_quiet_op; (try refine ⟨_, fun _ => rfl, ?_⟩); refine hK _ ?_; clear hK K)
  refine wpQ_nil ?_
  generalize hW2 : ({ W with drawn := W.drawn + 1 } : World) = W2
  have hb2 : Below W.heap.size W W2 := by rw [← hW2]; exact bdn (Below.refl _ _) 1
  clear hW2
  refine tail_step rfl rfl fun K hK => ?_
  go_wp2_with (go_at_call 34; refine (of34 _ _ _).mono ?_; rintro r w3 ⟨rfl, hc3⟩)
  have hb3 := hb2.trans (hc3.mono hb2.size)
  refine hK _ _ (fun _ => ⟨⟨w3, HSS.out _ hb3⟩, rfl⟩) ?_
  clear hK K
  try simp only [Act.put, List.setIfInBounds_toArray, List.set_cons_succ, List.set_cons_zero]
  refine tail_step rfl rfl fun K hK => ?_
  go_wp2_with (go_at_call 35; refine (text35 _ _ _).mono ?_; rintro r w4 ⟨rfl, hc4⟩)
  have hb4 := hb3.trans (hc4.mono hb3.size)
  refine hK _ _ (fun _ => ⟨⟨w4, HSS.out _ hb4⟩, rfl⟩) ?_
  clear hK K
  try simp only [Act.put, List.setIfInBounds_toArray, List.set_cons_succ, List.set_cons_zero]
  refine tail_step rfl rfl fun K hK => ?_
  go_wp2_with (go_at_call 34; refine (of34 _ _ _).mono ?_; rintro r w5 ⟨rfl, hc5⟩)
  have hb5 := hb4.trans (hc5.mono hb4.size)
  refine hK _ _ (fun _ => ⟨⟨w5, HSS.out _ hb5⟩, rfl⟩) ?_
  clear hK K
  try simp only [Act.put, List.setIfInBounds_toArray, List.set_cons_succ, List.set_cons_zero]
  refine tail_step rfl rfl fun K hK => ?_
  go_wp2_with (go_at_call 35; refine (text35 _ _ _).mono ?_; rintro r w6 ⟨rfl, hc6⟩)
  have hb6 := hb5.trans (hc6.mono hb5.size)
  refine hK _ _ (fun _ => ⟨⟨w6, HSS.out _ hb6⟩, rfl⟩) ?_
  clear hK K
  try simp only [Act.put, List.setIfInBounds_toArray, List.set_cons_succ, List.set_cons_zero]
  refine tail_step rfl rfl fun K hK => ?_
  go_wp2_with (go_at_call 35; refine (text35 _ _ _).mono ?_; rintro r w7 ⟨rfl, hc7⟩)
  have hb7 := hb6.trans (hc7.mono hb6.size)
  refine hK _ _ (fun _ => ⟨⟨w7, HSS.out _ hb7⟩, rfl⟩) ?_
  clear hK K
  try simp only [Act.put, List.setIfInBounds_toArray, List.set_cons_succ, List.set_cons_zero]
  refine tail_step rfl rfl fun K hK => ?_
  go_wp2_with fail
  refine hK _ _ (fun _ => ⟨⟨_, HSS.out _ (hb7.alloc hb7.size _)⟩, rfl⟩) ?_
  clear hK K
  refine tail_step rfl rfl fun K hK => ?_
  go_wp2_with fail
  refine hK _ _ (fun h => absurd rfl h) ?_
  clear hK K
  refine path_end ?_
  go_wp2_with fail
  go_ret
  refine madeN (HBW.out.trans (hb7.mono HBW.out.size)) ?_ (by rw [HLL.out]; rfl)
  rw [HLL.out]
  try rw [HA.out]
  try rw [HB.out]
  try rw [HC.out]
  simp [cellsN, meK, lkM, inO, inT, inL, InN.vals, ba_app]
set_option maxRecDepth 100000 in
set_option maxHeartbeats 8000000 in
theorem me_15 (ch sep : Int) (var : Int) (e : Nat) (he : e ≤ 131070) (a b c : Bs) (hch : ch = 0 ∨ ch = 1) (ha : a.length ≤ 100) (hb : b.length ≤ 100) (hc : c.length ≤ 100) (w : World) :
    Calls Tryz.prog 16 #[.agg #[.int .i64 15, .int .i64 ch, .int .i64 var, .int .i64 sep, strV a, strV b, strV c], .int .i64 e] w fun r w' => MadeN w (meK (e.testBit 5) (e.testBit 4) (oneC ch) (oddC ch) a b c 15 (var : Int).toNat) r w' := by
  have H14 := Lib.hid (fun w => has14 e 5 32 rfl (by decide) (by decide) (by omega) w)
  have J14 := Lib.hid (fun w => has14 e 4 16 rfl (by decide) (by decide) (by omega) w)
  obtain ⟨del, hdel⟩ : ∃ d, d = e.testBit 5 := ⟨_, rfl⟩
  rw [← hdel] at H14 ⊢
  clear hdel
  obtain ⟨aut, haut⟩ : ∃ d, d = e.testBit 4 := ⟨_, rfl⟩
  rw [← haut] at J14 ⊢
  clear haut
  obtain ⟨A, hA⟩ : ∃ S : ByteArray, S = ⟨a.toArray⟩ := ⟨_, rfl⟩
  obtain ⟨B, hB⟩ : ∃ S : ByteArray, S = ⟨b.toArray⟩ := ⟨_, rfl⟩
  obtain ⟨C, hC⟩ : ∃ S : ByteArray, S = ⟨c.toArray⟩ := ⟨_, rfl⟩
  have zA : A.size ≤ 100 := by rw [hA]; show a.toArray.size ≤ _; simpa using ha
  have zB : B.size ≤ 100 := by rw [hB]; show b.toArray.size ≤ _; simpa using hb
  have zC : C.size ≤ 100 := by rw [hC]; show c.toArray.size ≤ _; simpa using hc
  obtain ⟨LL, hLL⟩ : ∃ LL, LL = meK del aut (oneC ch) (oddC ch) a b c 15 (var : Int).toNat := ⟨_, rfl⟩
  rw [← hLL]
  simp only [strV]
  rw [← hA, ← hB, ← hC]
  have HA := Lib.hid hA
  have HB := Lib.hid hB
  have HC := Lib.hid hC
  have HLL := Lib.hid hLL
  clear hA hB hC hLL
  have HBD := Lib.hid (fun o => (Below.refl w.heap.size w).alloc (Nat.le_refl _) o)
  have hmix : Tryz.prog.follows .mixedOrders = true := by kernel_rfl
  go_enter Tryz.func16, Tryz.ntmps16
  go_upto_region 1 with fail
  generalize hW : w.alloc _ = W
  have hz0 : W.heap.size = w.heap.size + 1 := by rw [← hW]; simp
  have hbW : Below w.heap.size w W := by rw [← hW]; exact HBD.out _
  obtain ⟨SS, hSS⟩ : ∃ SS : World → Prop, SS = fun w' => C7 w' w.heap.size (.int .i64 15) (.int .i64 ch) (.int .i64 var) (.int .i64 sep) (.string A) (.string B) (.string C) := ⟨_, rfl⟩
  have HSS : Hid (∀ w', Below W.heap.size W w' → SS w') := by
    rw [hSS]
    refine Lib.hid (fun w' h => ?_)
    have hb : w'.heap[w.heap.size]? = W.heap[w.heap.size]? := h.block _ (by rw [hz0]; omega)
    rw [← hW] at hb
    have hb2 := hb.trans (heap_alloc_new w _)
    exact ⟨(Lib.cell_of_heap hb2 0).trans rfl, (Lib.cell_of_heap hb2 1).trans rfl, (Lib.cell_of_heap hb2 2).trans rfl, (Lib.cell_of_heap hb2 3).trans rfl, (Lib.cell_of_heap hb2 4).trans rfl, (Lib.cell_of_heap hb2 5).trans rfl, (Lib.cell_of_heap hb2 6).trans rfl⟩
  have sfa : ∀ x, SS x → C7 x w.heap.size (.int .i64 15) (.int .i64 ch) (.int .i64 var) (.int .i64 sep) (.string A) (.string B) (.string C) := by rw [hSS]; exact fun x h => h
  have sf0 : ∀ u : SW SS, (u.x).cell? ⟨w.heap.size, 0, none⟩ = some (.int .i64 15) := fun u => (sfa u.x u.h).1
  have sf1 : ∀ u : SW SS, (u.x).cell? ⟨w.heap.size, 1, none⟩ = some (.int .i64 ch) := fun u => (sfa u.x u.h).2.1
  have sf2 : ∀ u : SW SS, (u.x).cell? ⟨w.heap.size, 2, none⟩ = some (.int .i64 var) := fun u => (sfa u.x u.h).2.2.1
  have sf3 : ∀ u : SW SS, (u.x).cell? ⟨w.heap.size, 3, none⟩ = some (.int .i64 sep) := fun u => (sfa u.x u.h).2.2.2.1
  have sf4 : ∀ u : SW SS, (u.x).cell? ⟨w.heap.size, 4, none⟩ = some (.string A) := fun u => (sfa u.x u.h).2.2.2.2.1
  have sf5 : ∀ u : SW SS, (u.x).cell? ⟨w.heap.size, 5, none⟩ = some (.string B) := fun u => (sfa u.x u.h).2.2.2.2.2.1
  have sf6 : ∀ u : SW SS, (u.x).cell? ⟨w.heap.size, 6, none⟩ = some (.string C) := fun u => (sfa u.x u.h).2.2.2.2.2.2
  have HOP : Hid (∀ w', SS w' → C7 w' w.heap.size (.int .i64 15) (.int .i64 ch) (.int .i64 var) (.int .i64 sep) (.string A) (.string B) (.string C)) := by rw [hSS]; exact Lib.hid (fun w' h => h)
  obtain ⟨e0, e1, e2, e3, e4, e5, e6⟩ := HOP.out W (HSS.out W (Below.refl _ _))
  have HBW := Lib.hid hbW
  have HZ0 := Lib.hid hz0
  clear hW hbW hz0 HBD hSS sfa
  have t14 : True := trivial
  go_wp2_with (first | (clear t14; go_at_call 14; refine (H14.out _).mono ?_; rintro e w' ⟨rfl, rfl⟩) | (go_at_call 14; refine (J14.out _).mono ?_; rintro e w' ⟨rfl, rfl⟩))
  try simp only [List.append]
  refine wp_region_pathL (last := 14) (S := fun w' => ∃ u : SW SS, w' = u.x) (([1, 2, 3, 6, 7, 9, 10, 11] : List Nat).map (fun i => (i, true)) ++ [(0, false), (4, false), (5, false), (8, false), (12, false), (13, false), (14, false)]) [0, 0, 2, 4, 9, 16, 0, 64, 160, 0, 512, 1024, 2304, 4401, 16383] 170 hmix (by kernel_rfl) (by kernel_rfl) (by kernel_rfl) (by kernel_rfl) (by kernel_rfl) (by kernel_rfl) (by kernel_rfl) ⟨⟨_, HSS.out _ (bdn (Below.refl W.heap.size W) 1)⟩, rfl⟩ ?_
  refine wpPath_quietL' _ _ (by kernel_rfl) ?_
  iterate 8 (refine wpQ_op rfl rfl fun K hK => ?_; go_big_quiet_op; (try refine ⟨_, fun _ => rfl, ?_⟩); refine hK _ ?_; clear hK K)
  refine wpQ_nil ?_
  generalize hW2 : ({ W with drawn := W.drawn + 1 } : World) = W2
  have hb2 : Below W.heap.size W W2 := by rw [← hW2]; exact bdn (Below.refl _ _) 1
  clear hW2
  refine tail_step rfl rfl fun K hK => ?_
  go_wp2_with (go_at_call 34; refine (of34 _ _ _).mono ?_; rintro r w3 ⟨rfl, hc3⟩)
  have hb3 := hb2.trans (hc3.mono hb2.size)
  refine hK _ _ (fun _ => ⟨⟨w3, HSS.out _ hb3⟩, rfl⟩) ?_
  clear hK K
  try simp only [Act.put, List.setIfInBounds_toArray, List.set_cons_succ, List.set_cons_zero]
  refine tail_step rfl rfl fun K hK => ?_
  go_wp2_with (go_at_call 35; refine (text35 _ _ _).mono ?_; rintro r w4 ⟨rfl, hc4⟩)
  have hb4 := hb3.trans (hc4.mono hb3.size)
  refine hK _ _ (fun _ => ⟨⟨w4, HSS.out _ hb4⟩, rfl⟩) ?_
  clear hK K
  try simp only [Act.put, List.setIfInBounds_toArray, List.set_cons_succ, List.set_cons_zero]
  refine tail_step rfl rfl fun K hK => ?_
  go_wp2_with (go_at_call 34; refine (of34 _ _ _).mono ?_; rintro r w5 ⟨rfl, hc5⟩)
  have hb5 := hb4.trans (hc5.mono hb4.size)
  refine hK _ _ (fun _ => ⟨⟨w5, HSS.out _ hb5⟩, rfl⟩) ?_
  clear hK K
  try simp only [Act.put, List.setIfInBounds_toArray, List.set_cons_succ, List.set_cons_zero]
  refine tail_step rfl rfl fun K hK => ?_
  go_wp2_with (go_at_call 35; refine (text35 _ _ _).mono ?_; rintro r w6 ⟨rfl, hc6⟩)
  have hb6 := hb5.trans (hc6.mono hb5.size)
  refine hK _ _ (fun _ => ⟨⟨w6, HSS.out _ hb6⟩, rfl⟩) ?_
  clear hK K
  try simp only [Act.put, List.setIfInBounds_toArray, List.set_cons_succ, List.set_cons_zero]
  refine tail_step rfl rfl fun K hK => ?_
  go_wp2_with (go_at_call 35; refine (text35 _ _ _).mono ?_; rintro r w7 ⟨rfl, hc7⟩)
  have hb7 := hb6.trans (hc7.mono hb6.size)
  refine hK _ _ (fun _ => ⟨⟨w7, HSS.out _ hb7⟩, rfl⟩) ?_
  clear hK K
  try simp only [Act.put, List.setIfInBounds_toArray, List.set_cons_succ, List.set_cons_zero]
  refine tail_step rfl rfl fun K hK => ?_
  go_wp2_with fail
  refine hK _ _ (fun _ => ⟨⟨_, HSS.out _ (hb7.alloc hb7.size _)⟩, rfl⟩) ?_
  clear hK K
  refine tail_step rfl rfl fun K hK => ?_
  go_wp2_with fail
  refine hK _ _ (fun h => absurd rfl h) ?_
  clear hK K
  refine path_end ?_
  go_wp2_with fail
  go_ret
  refine madeN (HBW.out.trans (hb7.mono HBW.out.size)) ?_ (by rw [HLL.out]; rfl)
  rw [HLL.out]
  try rw [HA.out]
  try rw [HB.out]
  try rw [HC.out]
  simp [cellsN, meK, lkM, inO, inT, inL, InN.vals, ba_app]
set_option maxRecDepth 100000 in
set_option maxHeartbeats 8000000 in
theorem me_16 (ch sep : Int) (var : Int) (e : Nat) (he : e ≤ 131070) (a b c : Bs) (hch : ch = 0 ∨ ch = 1) (ha : a.length ≤ 100) (hb : b.length ≤ 100) (hc : c.length ≤ 100) (w : World) :
    Calls Tryz.prog 16 #[.agg #[.int .i64 16, .int .i64 ch, .int .i64 var, .int .i64 sep, strV a, strV b, strV c], .int .i64 e] w fun r w' => MadeN w (meK (e.testBit 5) (e.testBit 4) (oneC ch) (oddC ch) a b c 16 (var : Int).toNat) r w' := by
  have H14 := Lib.hid (fun w => has14 e 5 32 rfl (by decide) (by decide) (by omega) w)
  have J14 := Lib.hid (fun w => has14 e 4 16 rfl (by decide) (by decide) (by omega) w)
  obtain ⟨del, hdel⟩ : ∃ d, d = e.testBit 5 := ⟨_, rfl⟩
  rw [← hdel] at H14 ⊢
  clear hdel
  obtain ⟨aut, haut⟩ : ∃ d, d = e.testBit 4 := ⟨_, rfl⟩
  rw [← haut] at J14 ⊢
  clear haut
  obtain ⟨A, hA⟩ : ∃ S : ByteArray, S = ⟨a.toArray⟩ := ⟨_, rfl⟩
  obtain ⟨B, hB⟩ : ∃ S : ByteArray, S = ⟨b.toArray⟩ := ⟨_, rfl⟩
  obtain ⟨C, hC⟩ : ∃ S : ByteArray, S = ⟨c.toArray⟩ := ⟨_, rfl⟩
  have zA : A.size ≤ 100 := by rw [hA]; show a.toArray.size ≤ _; simpa using ha
  have zB : B.size ≤ 100 := by rw [hB]; show b.toArray.size ≤ _; simpa using hb
  have zC : C.size ≤ 100 := by rw [hC]; show c.toArray.size ≤ _; simpa using hc
  obtain ⟨LL, hLL⟩ : ∃ LL, LL = meK del aut (oneC ch) (oddC ch) a b c 16 (var : Int).toNat := ⟨_, rfl⟩
  rw [← hLL]
  simp only [strV]
  rw [← hA, ← hB, ← hC]
  have HA := Lib.hid hA
  have HB := Lib.hid hB
  have HC := Lib.hid hC
  have HLL := Lib.hid hLL
  clear hA hB hC hLL
  have HBD := Lib.hid (fun o => (Below.refl w.heap.size w).alloc (Nat.le_refl _) o)
  have hmix : Tryz.prog.follows .mixedOrders = true := by kernel_rfl
  go_enter Tryz.func16, Tryz.ntmps16
  go_upto_region 1 with fail
  generalize hW : w.alloc _ = W
  have hz0 : W.heap.size = w.heap.size + 1 := by rw [← hW]; simp
  have hbW : Below w.heap.size w W := by rw [← hW]; exact HBD.out _
  obtain ⟨SS, hSS⟩ : ∃ SS : World → Prop, SS = fun w' => C7 w' w.heap.size (.int .i64 16) (.int .i64 ch) (.int .i64 var) (.int .i64 sep) (.string A) (.string B) (.string C) := ⟨_, rfl⟩
  have HSS : Hid (∀ w', Below W.heap.size W w' → SS w') := by
    rw [hSS]
    refine Lib.hid (fun w' h => ?_)
    have hb : w'.heap[w.heap.size]? = W.heap[w.heap.size]? := h.block _ (by rw [hz0]; omega)
    rw [← hW] at hb
    have hb2 := hb.trans (heap_alloc_new w _)
    exact ⟨(Lib.cell_of_heap hb2 0).trans rfl, (Lib.cell_of_heap hb2 1).trans rfl, (Lib.cell_of_heap hb2 2).trans rfl, (Lib.cell_of_heap hb2 3).trans rfl, (Lib.cell_of_heap hb2 4).trans rfl, (Lib.cell_of_heap hb2 5).trans rfl, (Lib.cell_of_heap hb2 6).trans rfl⟩
  have sfa : ∀ x, SS x → C7 x w.heap.size (.int .i64 16) (.int .i64 ch) (.int .i64 var) (.int .i64 sep) (.string A) (.string B) (.string C) := by rw [hSS]; exact fun x h => h
  have sf0 : ∀ u : SW SS, (u.x).cell? ⟨w.heap.size, 0, none⟩ = some (.int .i64 16) := fun u => (sfa u.x u.h).1
  have sf1 : ∀ u : SW SS, (u.x).cell? ⟨w.heap.size, 1, none⟩ = some (.int .i64 ch) := fun u => (sfa u.x u.h).2.1
  have sf2 : ∀ u : SW SS, (u.x).cell? ⟨w.heap.size, 2, none⟩ = some (.int .i64 var) := fun u => (sfa u.x u.h).2.2.1
  have sf3 : ∀ u : SW SS, (u.x).cell? ⟨w.heap.size, 3, none⟩ = some (.int .i64 sep) := fun u => (sfa u.x u.h).2.2.2.1
  have sf4 : ∀ u : SW SS, (u.x).cell? ⟨w.heap.size, 4, none⟩ = some (.string A) := fun u => (sfa u.x u.h).2.2.2.2.1
  have sf5 : ∀ u : SW SS, (u.x).cell? ⟨w.heap.size, 5, none⟩ = some (.string B) := fun u => (sfa u.x u.h).2.2.2.2.2.1
  have sf6 : ∀ u : SW SS, (u.x).cell? ⟨w.heap.size, 6, none⟩ = some (.string C) := fun u => (sfa u.x u.h).2.2.2.2.2.2
  have HOP : Hid (∀ w', SS w' → C7 w' w.heap.size (.int .i64 16) (.int .i64 ch) (.int .i64 var) (.int .i64 sep) (.string A) (.string B) (.string C)) := by rw [hSS]; exact Lib.hid (fun w' h => h)
  obtain ⟨e0, e1, e2, e3, e4, e5, e6⟩ := HOP.out W (HSS.out W (Below.refl _ _))
  have HBW := Lib.hid hbW
  have HZ0 := Lib.hid hz0
  clear hW hbW hz0 HBD hSS sfa
  have t14 : True := trivial
  go_wp2_with (first | (clear t14; go_at_call 14; refine (H14.out _).mono ?_; rintro e w' ⟨rfl, rfl⟩) | (go_at_call 14; refine (J14.out _).mono ?_; rintro e w' ⟨rfl, rfl⟩))
  try simp only [List.append]
  refine wp_region_pathL (last := 12) (S := fun w' => ∃ u : SW SS, w' = u.x) (([0, 1, 3, 4, 5, 8, 9] : List Nat).map (fun i => (i, true)) ++ [(2, false), (6, false), (7, false), (10, false), (11, false), (12, false)]) [0, 1, 2, 0, 8, 16, 36, 64, 0, 256, 640, 1220, 4095] 186 hmix (by kernel_rfl) (by kernel_rfl) (by kernel_rfl) (by kernel_rfl) (by kernel_rfl) (by kernel_rfl) (by kernel_rfl) ⟨⟨_, HSS.out _ (bdn (Below.refl W.heap.size W) 1)⟩, rfl⟩ ?_
  refine wpPath_quietL' _ _ (by kernel_rfl) ?_
  iterate 7 (refine wpQ_op rfl rfl fun K hK => ?_; go_big_quiet_op; (try refine ⟨_, fun _ => rfl, ?_⟩); refine hK _ ?_; clear hK K)
  refine wpQ_nil ?_
  generalize hW2 : ({ W with drawn := W.drawn + 1 } : World) = W2
  have hb2 : Below W.heap.size W W2 := by rw [← hW2]; exact bdn (Below.refl _ _) 1
  clear hW2
  refine tail_step rfl rfl fun K hK => ?_
  go_wp2_with (go_at_call 36; refine (link36 _ _ _).mono ?_; rintro r w3 ⟨rfl, hc3⟩)
  have hb3 := hb2.trans (hc3.mono hb2.size)
  refine hK _ _ (fun _ => ⟨⟨w3, HSS.out _ hb3⟩, rfl⟩) ?_
  clear hK K
  try simp only [Act.put, List.setIfInBounds_toArray, List.set_cons_succ, List.set_cons_zero]
  refine tail_step rfl rfl fun K hK => ?_
  go_wp2_with (go_at_call 35; refine (text35 _ _ _).mono ?_; rintro r w4 ⟨rfl, hc4⟩)
  have hb4 := hb3.trans (hc4.mono hb3.size)
  refine hK _ _ (fun _ => ⟨⟨w4, HSS.out _ hb4⟩, rfl⟩) ?_
  clear hK K
  try simp only [Act.put, List.setIfInBounds_toArray, List.set_cons_succ, List.set_cons_zero]
  refine tail_step rfl rfl fun K hK => ?_
  go_wp2_with (go_at_call 34; refine (of34 _ _ _).mono ?_; rintro r w5 ⟨rfl, hc5⟩)
  have hb5 := hb4.trans (hc5.mono hb4.size)
  refine hK _ _ (fun _ => ⟨⟨w5, HSS.out _ hb5⟩, rfl⟩) ?_
  clear hK K
  try simp only [Act.put, List.setIfInBounds_toArray, List.set_cons_succ, List.set_cons_zero]
  refine tail_step rfl rfl fun K hK => ?_
  go_wp2_with (go_at_call 35; refine (text35 _ _ _).mono ?_; rintro r w6 ⟨rfl, hc6⟩)
  have hb6 := hb5.trans (hc6.mono hb5.size)
  refine hK _ _ (fun _ => ⟨⟨w6, HSS.out _ hb6⟩, rfl⟩) ?_
  clear hK K
  try simp only [Act.put, List.setIfInBounds_toArray, List.set_cons_succ, List.set_cons_zero]
  refine tail_step rfl rfl fun K hK => ?_
  go_wp2_with fail
  refine hK _ _ (fun _ => ⟨⟨_, HSS.out _ (hb6.alloc hb6.size _)⟩, rfl⟩) ?_
  clear hK K
  refine tail_step rfl rfl fun K hK => ?_
  go_wp2_with fail
  refine hK _ _ (fun h => absurd rfl h) ?_
  clear hK K
  refine path_end ?_
  go_wp2_with fail
  go_ret
  refine madeN (HBW.out.trans (hb6.mono HBW.out.size)) ?_ (by rw [HLL.out]; rfl)
  rw [HLL.out]
  try rw [HA.out]
  try rw [HB.out]
  try rw [HC.out]
  simp [cellsN, meK, lkM, inO, inT, inL, InN.vals, ba_app]
set_option maxRecDepth 100000 in
set_option maxHeartbeats 8000000 in
theorem me_17 (ch sep : Int) (var : Int) (e : Nat) (he : e ≤ 131070) (a b c : Bs) (hch : ch = 0 ∨ ch = 1) (ha : a.length ≤ 100) (hb : b.length ≤ 100) (hc : c.length ≤ 100) (w : World) :
    Calls Tryz.prog 16 #[.agg #[.int .i64 17, .int .i64 ch, .int .i64 var, .int .i64 sep, strV a, strV b, strV c], .int .i64 e] w fun r w' => MadeN w (meK (e.testBit 5) (e.testBit 4) (oneC ch) (oddC ch) a b c 17 (var : Int).toNat) r w' := by
  have H14 := Lib.hid (fun w => has14 e 5 32 rfl (by decide) (by decide) (by omega) w)
  have J14 := Lib.hid (fun w => has14 e 4 16 rfl (by decide) (by decide) (by omega) w)
  obtain ⟨del, hdel⟩ : ∃ d, d = e.testBit 5 := ⟨_, rfl⟩
  rw [← hdel] at H14 ⊢
  clear hdel
  obtain ⟨aut, haut⟩ : ∃ d, d = e.testBit 4 := ⟨_, rfl⟩
  rw [← haut] at J14 ⊢
  clear haut
  obtain ⟨A, hA⟩ : ∃ S : ByteArray, S = ⟨a.toArray⟩ := ⟨_, rfl⟩
  obtain ⟨B, hB⟩ : ∃ S : ByteArray, S = ⟨b.toArray⟩ := ⟨_, rfl⟩
  obtain ⟨C, hC⟩ : ∃ S : ByteArray, S = ⟨c.toArray⟩ := ⟨_, rfl⟩
  have zA : A.size ≤ 100 := by rw [hA]; show a.toArray.size ≤ _; simpa using ha
  have zB : B.size ≤ 100 := by rw [hB]; show b.toArray.size ≤ _; simpa using hb
  have zC : C.size ≤ 100 := by rw [hC]; show c.toArray.size ≤ _; simpa using hc
  obtain ⟨LL, hLL⟩ : ∃ LL, LL = meK del aut (oneC ch) (oddC ch) a b c 17 (var : Int).toNat := ⟨_, rfl⟩
  rw [← hLL]
  simp only [strV]
  rw [← hA, ← hB, ← hC]
  have HA := Lib.hid hA
  have HB := Lib.hid hB
  have HC := Lib.hid hC
  have HLL := Lib.hid hLL
  clear hA hB hC hLL
  have HBD := Lib.hid (fun o => (Below.refl w.heap.size w).alloc (Nat.le_refl _) o)
  have hmix : Tryz.prog.follows .mixedOrders = true := by kernel_rfl
  go_enter Tryz.func16, Tryz.ntmps16
  go_upto_region 1 with fail
  generalize hW : w.alloc _ = W
  have hz0 : W.heap.size = w.heap.size + 1 := by rw [← hW]; simp
  have hbW : Below w.heap.size w W := by rw [← hW]; exact HBD.out _
  obtain ⟨SS, hSS⟩ : ∃ SS : World → Prop, SS = fun w' => C7 w' w.heap.size (.int .i64 17) (.int .i64 ch) (.int .i64 var) (.int .i64 sep) (.string A) (.string B) (.string C) := ⟨_, rfl⟩
  have HSS : Hid (∀ w', Below W.heap.size W w' → SS w') := by
    rw [hSS]
    refine Lib.hid (fun w' h => ?_)
    have hb : w'.heap[w.heap.size]? = W.heap[w.heap.size]? := h.block _ (by rw [hz0]; omega)
    rw [← hW] at hb
    have hb2 := hb.trans (heap_alloc_new w _)
    exact ⟨(Lib.cell_of_heap hb2 0).trans rfl, (Lib.cell_of_heap hb2 1).trans rfl, (Lib.cell_of_heap hb2 2).trans rfl, (Lib.cell_of_heap hb2 3).trans rfl, (Lib.cell_of_heap hb2 4).trans rfl, (Lib.cell_of_heap hb2 5).trans rfl, (Lib.cell_of_heap hb2 6).trans rfl⟩
  have sfa : ∀ x, SS x → C7 x w.heap.size (.int .i64 17) (.int .i64 ch) (.int .i64 var) (.int .i64 sep) (.string A) (.string B) (.string C) := by rw [hSS]; exact fun x h => h
  have sf0 : ∀ u : SW SS, (u.x).cell? ⟨w.heap.size, 0, none⟩ = some (.int .i64 17) := fun u => (sfa u.x u.h).1
  have sf1 : ∀ u : SW SS, (u.x).cell? ⟨w.heap.size, 1, none⟩ = some (.int .i64 ch) := fun u => (sfa u.x u.h).2.1
  have sf2 : ∀ u : SW SS, (u.x).cell? ⟨w.heap.size, 2, none⟩ = some (.int .i64 var) := fun u => (sfa u.x u.h).2.2.1
  have sf3 : ∀ u : SW SS, (u.x).cell? ⟨w.heap.size, 3, none⟩ = some (.int .i64 sep) := fun u => (sfa u.x u.h).2.2.2.1
  have sf4 : ∀ u : SW SS, (u.x).cell? ⟨w.heap.size, 4, none⟩ = some (.string A) := fun u => (sfa u.x u.h).2.2.2.2.1
  have sf5 : ∀ u : SW SS, (u.x).cell? ⟨w.heap.size, 5, none⟩ = some (.string B) := fun u => (sfa u.x u.h).2.2.2.2.2.1
  have sf6 : ∀ u : SW SS, (u.x).cell? ⟨w.heap.size, 6, none⟩ = some (.string C) := fun u => (sfa u.x u.h).2.2.2.2.2.2
  have HOP : Hid (∀ w', SS w' → C7 w' w.heap.size (.int .i64 17) (.int .i64 ch) (.int .i64 var) (.int .i64 sep) (.string A) (.string B) (.string C)) := by rw [hSS]; exact Lib.hid (fun w' h => h)
  obtain ⟨e0, e1, e2, e3, e4, e5, e6⟩ := HOP.out W (HSS.out W (Below.refl _ _))
  have HBW := Lib.hid hbW
  have HZ0 := Lib.hid hz0
  clear hW hbW hz0 HBD hSS sfa
  have t14 : True := trivial
  go_wp2_with (first | (clear t14; go_at_call 14; refine (H14.out _).mono ?_; rintro e w' ⟨rfl, rfl⟩) | (go_at_call 14; refine (J14.out _).mono ?_; rintro e w' ⟨rfl, rfl⟩))
  try simp only [List.append]
  refine wp_region_pathL (last := 11) (S := fun w' => ∃ u : SW SS, w' = u.x) (([0, 1, 3, 4, 5, 7, 8, 9] : List Nat).map (fun i => (i, true)) ++ [(2, false), (6, false), (10, false), (11, false)]) [0, 1, 2, 0, 8, 16, 36, 0, 128, 256, 580, 2047] 200 hmix (by kernel_rfl) (by kernel_rfl) (by kernel_rfl) (by kernel_rfl) (by kernel_rfl) (by kernel_rfl) (by kernel_rfl) ⟨⟨_, HSS.out _ (bdn (Below.refl W.heap.size W) 1)⟩, rfl⟩ ?_
  refine wpPath_quietL' _ _ (by kernel_rfl) ?_
  iterate 8 (refine wpQ_op rfl rfl fun K hK => ?_; go_big_quiet_op; (try refine ⟨_, fun _ => rfl, ?_⟩); refine hK _ ?_; clear hK K)
  refine wpQ_nil ?_
  generalize hW2 : ({ W with drawn := W.drawn + 1 } : World) = W2
  have hb2 : Below W.heap.size W W2 := by rw [← hW2]; exact bdn (Below.refl _ _) 1
  clear hW2
  refine tail_step rfl rfl fun K hK => ?_
  go_wp2_with (go_at_call 36; refine (link36 _ _ _).mono ?_; rintro r w3 ⟨rfl, hc3⟩)
  have hb3 := hb2.trans (hc3.mono hb2.size)
  refine hK _ _ (fun _ => ⟨⟨w3, HSS.out _ hb3⟩, rfl⟩) ?_
  clear hK K
  try simp only [Act.put, List.setIfInBounds_toArray, List.set_cons_succ, List.set_cons_zero]
  refine tail_step rfl rfl fun K hK => ?_
  go_wp2_with (go_at_call 35; refine (text35 _ _ _).mono ?_; rintro r w4 ⟨rfl, hc4⟩)
  have hb4 := hb3.trans (hc4.mono hb3.size)
  refine hK _ _ (fun _ => ⟨⟨w4, HSS.out _ hb4⟩, rfl⟩) ?_
  clear hK K
  try simp only [Act.put, List.setIfInBounds_toArray, List.set_cons_succ, List.set_cons_zero]
  refine tail_step rfl rfl fun K hK => ?_
  go_wp2_with fail
  refine hK _ _ (fun _ => ⟨⟨_, HSS.out _ (hb4.alloc hb4.size _)⟩, rfl⟩) ?_
  clear hK K
  refine tail_step rfl rfl fun K hK => ?_
  go_wp2_with fail
  refine hK _ _ (fun h => absurd rfl h) ?_
  clear hK K
  refine path_end ?_
  go_wp2_with fail
  go_ret
  refine madeN (HBW.out.trans (hb4.mono HBW.out.size)) ?_ (by rw [HLL.out]; rfl)
  rw [HLL.out]
  try rw [HA.out]
  try rw [HB.out]
  try rw [HC.out]
  simp [cellsN, meK, lkM, inO, inT, inL, InN.vals, ba_app]
end Go.Proofs.YtalajbfpilhfgaaGreatDoor
