/-
  FnInlineAlone: what a piece means, by its kinds.
-/
import Derived.Test.YtalajbfpilhfgaaGreatDoorK36
set_option linter.unusedVariables false
set_option linter.unusedSimpArgs false
namespace Go.Proofs.YtalajbfpilhfgaaGreatDoor
open Go.RowKit

theorem cells_set {w : World} {N : Nat} {A : Array Value} {t : TypeId} {f : Nat × Nat} (h : w.heap[N]? = some (.cells A t f)) (i : Nat) (v : Value) : (w.setCell ⟨N, i, none⟩ v).heap[N]? = some (.cells (A.setIfInBounds i v) t f) := by
  unfold World.setCell
  rw [Array.getElem?_modify]
  simp only [↓reduceIte]
  rw [h]
  rfl
set_option maxRecDepth 100000 in
set_option maxHeartbeats 8000000 in
theorem me_6_0 (ch sep : Int) (e : Nat) (he : e ≤ 131070) (a b c : Bs) (hch : ch = 0 ∨ ch = 1) (ha : a.length ≤ 100) (hb : b.length ≤ 100) (hc : c.length ≤ 100) (w : World) :
    Calls Tryz.prog 16 #[.agg #[.int .i64 6, .int .i64 ch, .int .i64 0, .int .i64 sep, strV a, strV b, strV c], .int .i64 e] w fun r w' => MadeN w (meK (e.testBit 5) (e.testBit 4) (oneC ch) (oddC ch) a b c 6 (0 : Int).toNat) r w' := by
  have H14 := Lib.hid (fun w => has14 e 5 32 rfl (by decide) (by decide) (by omega) w)
  have J14 := Lib.hid (fun w => has14 e 4 16 rfl (by decide) (by decide) (by omega) w)
  obtain ⟨del, hdel⟩ : ∃ d, d = e.testBit 5 := ⟨_, rfl⟩
  rw [← hdel] at H14 ⊢
  clear hdel
  obtain ⟨aut, haut⟩ : ∃ d, d = e.testBit 4 := ⟨_, rfl⟩
  rw [← haut] at J14 ⊢
  clear haut
  obtain ⟨A, hA⟩ : ∃ S : ByteArray, S = ⟨a.toArray⟩ := ⟨_, rfl⟩
  obtain ⟨B, hB⟩ : ∃ S : ByteArray, S = ⟨b.toArray⟩ := ⟨_, rfl⟩
  obtain ⟨C, hC⟩ : ∃ S : ByteArray, S = ⟨c.toArray⟩ := ⟨_, rfl⟩
  have zA : A.size ≤ 100 := by rw [hA]; show a.toArray.size ≤ _; simpa using ha
  have zB : B.size ≤ 100 := by rw [hB]; show b.toArray.size ≤ _; simpa using hb
  have zC : C.size ≤ 100 := by rw [hC]; show c.toArray.size ≤ _; simpa using hc
  obtain ⟨LL, hLL⟩ : ∃ LL, LL = meK del aut (oneC ch) (oddC ch) a b c 6 (0 : Int).toNat := ⟨_, rfl⟩
  rw [← hLL]
  simp only [strV]
  rw [← hA, ← hB, ← hC]
  have HA := Lib.hid hA
  have HB := Lib.hid hB
  have HC := Lib.hid hC
  have HLL := Lib.hid hLL
  clear hA hB hC hLL
  have HBD := Lib.hid (fun o => (Below.refl w.heap.size w).alloc (Nat.le_refl _) o)
  have hmix : Tryz.prog.follows .mixedOrders = true := by kernel_rfl
  go_enter Tryz.func16, Tryz.ntmps16
  go_upto_region 1 with fail
  generalize hW : w.alloc _ = W
  have hz0 : W.heap.size = w.heap.size + 1 := by rw [← hW]; simp
  have hbW : Below w.heap.size w W := by rw [← hW]; exact HBD.out _
  obtain ⟨SS, hSS⟩ : ∃ SS : World → Prop, SS = fun w' => C7 w' w.heap.size (.int .i64 6) (.int .i64 ch) (.int .i64 0) (.int .i64 sep) (.string A) (.string B) (.string C) := ⟨_, rfl⟩
  have HSS : Hid (∀ w', Below W.heap.size W w' → SS w') := by
    rw [hSS]
    refine Lib.hid (fun w' h => ?_)
    have hb : w'.heap[w.heap.size]? = W.heap[w.heap.size]? := h.block _ (by rw [hz0]; omega)
    rw [← hW] at hb
    have hb2 := hb.trans (heap_alloc_new w _)
    exact ⟨(Lib.cell_of_heap hb2 0).trans rfl, (Lib.cell_of_heap hb2 1).trans rfl, (Lib.cell_of_heap hb2 2).trans rfl, (Lib.cell_of_heap hb2 3).trans rfl, (Lib.cell_of_heap hb2 4).trans rfl, (Lib.cell_of_heap hb2 5).trans rfl, (Lib.cell_of_heap hb2 6).trans rfl⟩
  have sfa : ∀ x, SS x → C7 x w.heap.size (.int .i64 6) (.int .i64 ch) (.int .i64 0) (.int .i64 sep) (.string A) (.string B) (.string C) := by rw [hSS]; exact fun x h => h
  have sf0 : ∀ u : SW SS, (u.x).cell? ⟨w.heap.size, 0, none⟩ = some (.int .i64 6) := fun u => (sfa u.x u.h).1
  have sf1 : ∀ u : SW SS, (u.x).cell? ⟨w.heap.size, 1, none⟩ = some (.int .i64 ch) := fun u => (sfa u.x u.h).2.1
  have sf2 : ∀ u : SW SS, (u.x).cell? ⟨w.heap.size, 2, none⟩ = some (.int .i64 0) := fun u => (sfa u.x u.h).2.2.1
  have sf3 : ∀ u : SW SS, (u.x).cell? ⟨w.heap.size, 3, none⟩ = some (.int .i64 sep) := fun u => (sfa u.x u.h).2.2.2.1
  have sf4 : ∀ u : SW SS, (u.x).cell? ⟨w.heap.size, 4, none⟩ = some (.string A) := fun u => (sfa u.x u.h).2.2.2.2.1
  have sf5 : ∀ u : SW SS, (u.x).cell? ⟨w.heap.size, 5, none⟩ = some (.string B) := fun u => (sfa u.x u.h).2.2.2.2.2.1
  have sf6 : ∀ u : SW SS, (u.x).cell? ⟨w.heap.size, 6, none⟩ = some (.string C) := fun u => (sfa u.x u.h).2.2.2.2.2.2
  have HOP : Hid (∀ w', SS w' → C7 w' w.heap.size (.int .i64 6) (.int .i64 ch) (.int .i64 0) (.int .i64 sep) (.string A) (.string B) (.string C)) := by rw [hSS]; exact Lib.hid (fun w' h => h)
  obtain ⟨e0, e1, e2, e3, e4, e5, e6⟩ := HOP.out W (HSS.out W (Below.refl _ _))
  have HBW := Lib.hid hbW
  have HZ0 := Lib.hid hz0
  clear hW hbW hz0 HBD hSS sfa
  have t14 : True := trivial
  have HPB : Hid (∀ w' w'', Below W.heap.size W w' → Below w'.heap.size w' w'' → Below W.heap.size W w'') := Lib.hid (fun w' w'' h h2 => h.trans (h2.mono h.size))
  have hb0 : Below W.heap.size W W := Below.refl _ _
  go_upto_region 23 with (first | (clear t14; go_at_call 14; refine (H14.out _).mono ?_; rintro e w' ⟨rfl, rfl⟩) | (go_at_call 14; refine (J14.out _).mono ?_; rintro e w' ⟨rfl, rfl⟩) | (go_at_call 36; refine (link36 _ _ _).mono ?_; rintro r w36 ⟨rfl, hc36⟩; have hb36 := HPB.out _ _ (by assumption) hc36; clear hc36; obtain ⟨g360, g361, g362, g363, g364, g365, g366⟩ := HOP.out w36 (HSS.out w36 hb36)))
  generalize hX : World.alloc w36 _ = X
  have hbX : Below W.heap.size W X := by rw [← hX]; exact hb36.alloc hb36.size _
  have hN : X.heap[w36.heap.size]? = some (.cells #[.int .i64 0, .int .i64 10, .string ⟨#[]⟩, .string B, .string ⟨#[]⟩, .bool false] 52 (0, 0)) := by rw [← hX]; exact heap_alloc_new w36 _
  have hge : W.heap.size ≤ w36.heap.size := hb36.size
  have hne : ¬ (w.heap.size = w36.heap.size) := by have := HZ0.out; omega
  have hne2 : ¬ (w36.heap.size = w.heap.size) := fun h => hne h.symm
  generalize w36.heap.size = N at hN hge hne hne2 ⊢
  have n0 : X.cell? ⟨N, 0, none⟩ = some (.int .i64 0) := (Lib.cell_of_heap hN 0).trans rfl
  have n1 : X.cell? ⟨N, 1, none⟩ = some (.int .i64 10) := (Lib.cell_of_heap hN 1).trans rfl
  have n2 : X.cell? ⟨N, 2, none⟩ = some (.string ⟨#[]⟩) := (Lib.cell_of_heap hN 2).trans rfl
  have n3 : X.cell? ⟨N, 3, none⟩ = some (.string B) := (Lib.cell_of_heap hN 3).trans rfl
  have n4 : X.cell? ⟨N, 4, none⟩ = some (.string ⟨#[]⟩) := (Lib.cell_of_heap hN 4).trans rfl
  have n5 : X.cell? ⟨N, 5, none⟩ = some (.bool false) := (Lib.cell_of_heap hN 5).trans rfl
  obtain ⟨x0, x1, x2, x3, x4, x5, x6⟩ := HOP.out X (HSS.out X hbX)
  have HN := Lib.hid hN
  have HBX := Lib.hid hbX
  have HGE := Lib.hid hge
  clear hN hbX hge hX
  go_upto_region 25 with fail
  have hN2 := HN.out
  obtain ⟨SS2, hSS2⟩ : ∃ SS2 : World → Prop, SS2 = fun w' => SS w' ∧ w'.cell? ⟨N, 0, none⟩ = some (.int .i64 0) ∧ w'.cell? ⟨N, 1, none⟩ = some (.int .i64 10) ∧ w'.cell? ⟨N, 2, none⟩ = some (.string ⟨#[]⟩) ∧ w'.cell? ⟨N, 3, none⟩ = some (.string B) ∧ w'.cell? ⟨N, 4, none⟩ = some (.string ⟨#[]⟩) ∧ w'.cell? ⟨N, 5, none⟩ = some (.bool false) := ⟨_, rfl⟩
  have hNlt : N < X.heap.size := (Array.getElem?_eq_some_iff.1 hN2).1
  have HSS2 : Hid (∀ w', Below X.heap.size X w' → SS2 w') := by
    rw [hSS2]
    refine Lib.hid (fun w' h => ⟨HSS.out w' (HPB.out _ _ HBX.out h), ?_⟩)
    have hb2 := (h.block N hNlt).trans hN2
    exact ⟨(Lib.cell_of_heap hb2 0).trans rfl, (Lib.cell_of_heap hb2 1).trans rfl, (Lib.cell_of_heap hb2 2).trans rfl, (Lib.cell_of_heap hb2 3).trans rfl, (Lib.cell_of_heap hb2 4).trans rfl, (Lib.cell_of_heap hb2 5).trans rfl⟩
  have sg0 : ∀ u : SW SS2, (u.x).cell? ⟨w.heap.size, 0, none⟩ = some (.int .i64 6) := fun u => by obtain ⟨x, hx⟩ := u; show x.cell? _ = _; rw [hSS2] at hx; exact sf0 ⟨x, hx.1⟩
  have sg1 : ∀ u : SW SS2, (u.x).cell? ⟨w.heap.size, 1, none⟩ = some (.int .i64 ch) := fun u => by obtain ⟨x, hx⟩ := u; show x.cell? _ = _; rw [hSS2] at hx; exact sf1 ⟨x, hx.1⟩
  have sg2 : ∀ u : SW SS2, (u.x).cell? ⟨w.heap.size, 2, none⟩ = some (.int .i64 0) := fun u => by obtain ⟨x, hx⟩ := u; show x.cell? _ = _; rw [hSS2] at hx; exact sf2 ⟨x, hx.1⟩
  have sg3 : ∀ u : SW SS2, (u.x).cell? ⟨w.heap.size, 3, none⟩ = some (.int .i64 sep) := fun u => by obtain ⟨x, hx⟩ := u; show x.cell? _ = _; rw [hSS2] at hx; exact sf3 ⟨x, hx.1⟩
  have sg4 : ∀ u : SW SS2, (u.x).cell? ⟨w.heap.size, 4, none⟩ = some (.string A) := fun u => by obtain ⟨x, hx⟩ := u; show x.cell? _ = _; rw [hSS2] at hx; exact sf4 ⟨x, hx.1⟩
  have sg5 : ∀ u : SW SS2, (u.x).cell? ⟨w.heap.size, 5, none⟩ = some (.string B) := fun u => by obtain ⟨x, hx⟩ := u; show x.cell? _ = _; rw [hSS2] at hx; exact sf5 ⟨x, hx.1⟩
  have sg6 : ∀ u : SW SS2, (u.x).cell? ⟨w.heap.size, 6, none⟩ = some (.string C) := fun u => by obtain ⟨x, hx⟩ := u; show x.cell? _ = _; rw [hSS2] at hx; exact sf6 ⟨x, hx.1⟩
  have sn0 : ∀ u : SW SS2, (u.x).cell? ⟨N, 0, none⟩ = some (.int .i64 0) := fun u => by obtain ⟨x, hx⟩ := u; show x.cell? _ = _; rw [hSS2] at hx; exact hx.2.1
  have sn1 : ∀ u : SW SS2, (u.x).cell? ⟨N, 1, none⟩ = some (.int .i64 10) := fun u => by obtain ⟨x, hx⟩ := u; show x.cell? _ = _; rw [hSS2] at hx; exact hx.2.2.1
  have sn2 : ∀ u : SW SS2, (u.x).cell? ⟨N, 2, none⟩ = some (.string ⟨#[]⟩) := fun u => by obtain ⟨x, hx⟩ := u; show x.cell? _ = _; rw [hSS2] at hx; exact hx.2.2.2.1
  have sn3 : ∀ u : SW SS2, (u.x).cell? ⟨N, 3, none⟩ = some (.string B) := fun u => by obtain ⟨x, hx⟩ := u; show x.cell? _ = _; rw [hSS2] at hx; exact hx.2.2.2.2.1
  have sn4 : ∀ u : SW SS2, (u.x).cell? ⟨N, 4, none⟩ = some (.string ⟨#[]⟩) := fun u => by obtain ⟨x, hx⟩ := u; show x.cell? _ = _; rw [hSS2] at hx; exact hx.2.2.2.2.2.1
  have sn5 : ∀ u : SW SS2, (u.x).cell? ⟨N, 5, none⟩ = some (.bool false) := fun u => by obtain ⟨x, hx⟩ := u; show x.cell? _ = _; rw [hSS2] at hx; exact hx.2.2.2.2.2.2
  clear hN2 hNlt hSS2
  try simp only [List.append]
  refine wp_region_pathL (last := 5) (S := fun w' => ∃ u : SW SS2, w' = u.x) (([0, 1, 2] : List Nat).map (fun i => (i, true)) ++ [(3, false), (4, false), (5, false)]) [0, 0, 2, 4, 9, 31] 86 hmix (by kernel_rfl) (by kernel_rfl) (by kernel_rfl) (by kernel_rfl) (by kernel_rfl) (by kernel_rfl) (by kernel_rfl) ⟨⟨_, HSS2.out _ (bdn (Below.refl X.heap.size X) 1)⟩, rfl⟩ ?_
  refine wpPath_quietL' _ _ (by kernel_rfl) ?_
  iterate 3 (refine wpQ_op rfl rfl fun K hK => ?_; go_big_quiet_op; (try refine ⟨_, fun _ => rfl, ?_⟩); refine hK _ ?_; clear hK K)
  refine wpQ_nil ?_
  generalize hW2 : ({ X with drawn := X.drawn + 1 } : World) = W2
  have hb2 : Below X.heap.size X W2 := by rw [← hW2]; exact bdn (Below.refl _ _) 1
  clear hW2
  refine tail_step rfl rfl fun K hK => ?_
  go_wp2_with (go_at_call 35; refine (text35 _ _ _).mono ?_; rintro r w3 ⟨rfl, hc3⟩)
  have hb3 := hb2.trans (hc3.mono hb2.size)
  refine hK _ _ (fun _ => ⟨⟨w3, HSS2.out _ hb3⟩, rfl⟩) ?_
  clear hK K
  try simp only [Act.put, List.setIfInBounds_toArray, List.set_cons_succ, List.set_cons_zero]
  refine tail_step rfl rfl fun K hK => ?_
  go_wp2_with fail
  refine hK _ _ (fun _ => ⟨⟨_, HSS2.out _ (hb3.alloc hb3.size _)⟩, rfl⟩) ?_
  clear hK K
  refine tail_step rfl rfl fun K hK => ?_
  go_wp2_with fail
  refine hK _ _ (fun h => absurd rfl h) ?_
  clear hK K
  refine path_end ?_
  go_wp2_with fail
  go_ret
  refine madeN (HBW.out.trans ((HPB.out _ _ HBX.out hb3).mono HBW.out.size)) ?_ (by rw [HLL.out]; rfl)
  rw [HLL.out]
  try rw [HA.out]
  try rw [HB.out]
  try rw [HC.out]
  simp [cellsN, meK, lkM, inO, inT, inL, InN.vals, ba_app]
set_option maxRecDepth 100000 in
set_option maxHeartbeats 8000000 in
theorem me_6_1 (ch sep : Int) (e : Nat) (he : e ≤ 131070) (a b c : Bs) (hch : ch = 0 ∨ ch = 1) (ha : a.length ≤ 100) (hb : b.length ≤ 100) (hc : c.length ≤ 100) (w : World) :
    Calls Tryz.prog 16 #[.agg #[.int .i64 6, .int .i64 ch, .int .i64 1, .int .i64 sep, strV a, strV b, strV c], .int .i64 e] w fun r w' => MadeN w (meK (e.testBit 5) (e.testBit 4) (oneC ch) (oddC ch) a b c 6 (1 : Int).toNat) r w' := by
  have H14 := Lib.hid (fun w => has14 e 5 32 rfl (by decide) (by decide) (by omega) w)
  have J14 := Lib.hid (fun w => has14 e 4 16 rfl (by decide) (by decide) (by omega) w)
  obtain ⟨del, hdel⟩ : ∃ d, d = e.testBit 5 := ⟨_, rfl⟩
  rw [← hdel] at H14 ⊢
  clear hdel
  obtain ⟨aut, haut⟩ : ∃ d, d = e.testBit 4 := ⟨_, rfl⟩
  rw [← haut] at J14 ⊢
  clear haut
  obtain ⟨A, hA⟩ : ∃ S : ByteArray, S = ⟨a.toArray⟩ := ⟨_, rfl⟩
  obtain ⟨B, hB⟩ : ∃ S : ByteArray, S = ⟨b.toArray⟩ := ⟨_, rfl⟩
  obtain ⟨C, hC⟩ : ∃ S : ByteArray, S = ⟨c.toArray⟩ := ⟨_, rfl⟩
  have zA : A.size ≤ 100 := by rw [hA]; show a.toArray.size ≤ _; simpa using ha
  have zB : B.size ≤ 100 := by rw [hB]; show b.toArray.size ≤ _; simpa using hb
  have zC : C.size ≤ 100 := by rw [hC]; show c.toArray.size ≤ _; simpa using hc
  obtain ⟨LL, hLL⟩ : ∃ LL, LL = meK del aut (oneC ch) (oddC ch) a b c 6 (1 : Int).toNat := ⟨_, rfl⟩
  rw [← hLL]
  simp only [strV]
  rw [← hA, ← hB, ← hC]
  have HA := Lib.hid hA
  have HB := Lib.hid hB
  have HC := Lib.hid hC
  have HLL := Lib.hid hLL
  clear hA hB hC hLL
  have HBD := Lib.hid (fun o => (Below.refl w.heap.size w).alloc (Nat.le_refl _) o)
  have hmix : Tryz.prog.follows .mixedOrders = true := by kernel_rfl
  go_enter Tryz.func16, Tryz.ntmps16
  go_upto_region 1 with fail
  generalize hW : w.alloc _ = W
  have hz0 : W.heap.size = w.heap.size + 1 := by rw [← hW]; simp
  have hbW : Below w.heap.size w W := by rw [← hW]; exact HBD.out _
  obtain ⟨SS, hSS⟩ : ∃ SS : World → Prop, SS = fun w' => C7 w' w.heap.size (.int .i64 6) (.int .i64 ch) (.int .i64 1) (.int .i64 sep) (.string A) (.string B) (.string C) := ⟨_, rfl⟩
  have HSS : Hid (∀ w', Below W.heap.size W w' → SS w') := by
    rw [hSS]
    refine Lib.hid (fun w' h => ?_)
    have hb : w'.heap[w.heap.size]? = W.heap[w.heap.size]? := h.block _ (by rw [hz0]; omega)
    rw [← hW] at hb
    have hb2 := hb.trans (heap_alloc_new w _)
    exact ⟨(Lib.cell_of_heap hb2 0).trans rfl, (Lib.cell_of_heap hb2 1).trans rfl, (Lib.cell_of_heap hb2 2).trans rfl, (Lib.cell_of_heap hb2 3).trans rfl, (Lib.cell_of_heap hb2 4).trans rfl, (Lib.cell_of_heap hb2 5).trans rfl, (Lib.cell_of_heap hb2 6).trans rfl⟩
  have sfa : ∀ x, SS x → C7 x w.heap.size (.int .i64 6) (.int .i64 ch) (.int .i64 1) (.int .i64 sep) (.string A) (.string B) (.string C) := by rw [hSS]; exact fun x h => h
  have sf0 : ∀ u : SW SS, (u.x).cell? ⟨w.heap.size, 0, none⟩ = some (.int .i64 6) := fun u => (sfa u.x u.h).1
  have sf1 : ∀ u : SW SS, (u.x).cell? ⟨w.heap.size, 1, none⟩ = some (.int .i64 ch) := fun u => (sfa u.x u.h).2.1
  have sf2 : ∀ u : SW SS, (u.x).cell? ⟨w.heap.size, 2, none⟩ = some (.int .i64 1) := fun u => (sfa u.x u.h).2.2.1
  have sf3 : ∀ u : SW SS, (u.x).cell? ⟨w.heap.size, 3, none⟩ = some (.int .i64 sep) := fun u => (sfa u.x u.h).2.2.2.1
  have sf4 : ∀ u : SW SS, (u.x).cell? ⟨w.heap.size, 4, none⟩ = some (.string A) := fun u => (sfa u.x u.h).2.2.2.2.1
  have sf5 : ∀ u : SW SS, (u.x).cell? ⟨w.heap.size, 5, none⟩ = some (.string B) := fun u => (sfa u.x u.h).2.2.2.2.2.1
  have sf6 : ∀ u : SW SS, (u.x).cell? ⟨w.heap.size, 6, none⟩ = some (.string C) := fun u => (sfa u.x u.h).2.2.2.2.2.2
  have HOP : Hid (∀ w', SS w' → C7 w' w.heap.size (.int .i64 6) (.int .i64 ch) (.int .i64 1) (.int .i64 sep) (.string A) (.string B) (.string C)) := by rw [hSS]; exact Lib.hid (fun w' h => h)
  obtain ⟨e0, e1, e2, e3, e4, e5, e6⟩ := HOP.out W (HSS.out W (Below.refl _ _))
  have HBW := Lib.hid hbW
  have HZ0 := Lib.hid hz0
  clear hW hbW hz0 HBD hSS sfa
  have t14 : True := trivial
  have HPB : Hid (∀ w' w'', Below W.heap.size W w' → Below w'.heap.size w' w'' → Below W.heap.size W w'') := Lib.hid (fun w' w'' h h2 => h.trans (h2.mono h.size))
  have hb0 : Below W.heap.size W W := Below.refl _ _
  go_upto_region 23 with (first | (clear t14; go_at_call 14; refine (H14.out _).mono ?_; rintro e w' ⟨rfl, rfl⟩) | (go_at_call 14; refine (J14.out _).mono ?_; rintro e w' ⟨rfl, rfl⟩) | (go_at_call 36; refine (link36 _ _ _).mono ?_; rintro r w36 ⟨rfl, hc36⟩; have hb36 := HPB.out _ _ (by assumption) hc36; clear hc36; obtain ⟨g360, g361, g362, g363, g364, g365, g366⟩ := HOP.out w36 (HSS.out w36 hb36)))
  generalize hX : World.alloc w36 _ = X
  have hbX : Below W.heap.size W X := by rw [← hX]; exact hb36.alloc hb36.size _
  have hN : X.heap[w36.heap.size]? = some (.cells #[.int .i64 0, .int .i64 10, .string ⟨#[]⟩, .string B, .string ⟨#[]⟩, .bool false] 52 (0, 0)) := by rw [← hX]; exact heap_alloc_new w36 _
  have hge : W.heap.size ≤ w36.heap.size := hb36.size
  have hne : ¬ (w.heap.size = w36.heap.size) := by have := HZ0.out; omega
  have hne2 : ¬ (w36.heap.size = w.heap.size) := fun h => hne h.symm
  generalize w36.heap.size = N at hN hge hne hne2 ⊢
  have n0 : X.cell? ⟨N, 0, none⟩ = some (.int .i64 0) := (Lib.cell_of_heap hN 0).trans rfl
  have n1 : X.cell? ⟨N, 1, none⟩ = some (.int .i64 10) := (Lib.cell_of_heap hN 1).trans rfl
  have n2 : X.cell? ⟨N, 2, none⟩ = some (.string ⟨#[]⟩) := (Lib.cell_of_heap hN 2).trans rfl
  have n3 : X.cell? ⟨N, 3, none⟩ = some (.string B) := (Lib.cell_of_heap hN 3).trans rfl
  have n4 : X.cell? ⟨N, 4, none⟩ = some (.string ⟨#[]⟩) := (Lib.cell_of_heap hN 4).trans rfl
  have n5 : X.cell? ⟨N, 5, none⟩ = some (.bool false) := (Lib.cell_of_heap hN 5).trans rfl
  have f4 : X.frozen? ⟨N, 4, none⟩ = false := Lib.frozen_of_heap hN 4
  have f5 : X.frozen? ⟨N, 5, none⟩ = false := Lib.frozen_of_heap hN 5
  obtain ⟨x0, x1, x2, x3, x4, x5, x6⟩ := HOP.out X (HSS.out X hbX)
  have HN := Lib.hid hN
  have HBX := Lib.hid hbX
  have HGE := Lib.hid hge
  clear hN hbX hge hX
  go_upto_region 25 with fail
  obtain ⟨Y, hY⟩ : ∃ Y, Y = ((X.setCell ⟨N, 4, none⟩ (.string C)).setCell ⟨N, 5, none⟩ (.bool true)) := ⟨_, rfl⟩
  rw [← hY]
  have hbY : Below W.heap.size W Y := by rw [hY]; exact (HBX.out.setCell (p := ⟨N, 4, none⟩) HGE.out _).setCell (p := ⟨N, 5, none⟩) HGE.out _
  have hN2 : Y.heap[N]? = some (.cells #[.int .i64 0, .int .i64 10, .string ⟨#[]⟩, .string B, .string C, .bool true] 52 (0, 0)) := by rw [hY]; exact cells_set (cells_set HN.out 4 _) 5 _
  have HBX := Lib.hid hbY
  clear hY hbY n0 n1 n2 n3 n4 n5 x0 x1 x2 x3 x4 x5 x6 f4 f5
  obtain ⟨SS2, hSS2⟩ : ∃ SS2 : World → Prop, SS2 = fun w' => SS w' ∧ w'.cell? ⟨N, 0, none⟩ = some (.int .i64 0) ∧ w'.cell? ⟨N, 1, none⟩ = some (.int .i64 10) ∧ w'.cell? ⟨N, 2, none⟩ = some (.string ⟨#[]⟩) ∧ w'.cell? ⟨N, 3, none⟩ = some (.string B) ∧ w'.cell? ⟨N, 4, none⟩ = some (.string C) ∧ w'.cell? ⟨N, 5, none⟩ = some (.bool true) := ⟨_, rfl⟩
  have hNlt : N < Y.heap.size := (Array.getElem?_eq_some_iff.1 hN2).1
  have HSS2 : Hid (∀ w', Below Y.heap.size Y w' → SS2 w') := by
    rw [hSS2]
    refine Lib.hid (fun w' h => ⟨HSS.out w' (HPB.out _ _ HBX.out h), ?_⟩)
    have hb2 := (h.block N hNlt).trans hN2
    exact ⟨(Lib.cell_of_heap hb2 0).trans rfl, (Lib.cell_of_heap hb2 1).trans rfl, (Lib.cell_of_heap hb2 2).trans rfl, (Lib.cell_of_heap hb2 3).trans rfl, (Lib.cell_of_heap hb2 4).trans rfl, (Lib.cell_of_heap hb2 5).trans rfl⟩
  have sg0 : ∀ u : SW SS2, (u.x).cell? ⟨w.heap.size, 0, none⟩ = some (.int .i64 6) := fun u => by obtain ⟨x, hx⟩ := u; show x.cell? _ = _; rw [hSS2] at hx; exact sf0 ⟨x, hx.1⟩
  have sg1 : ∀ u : SW SS2, (u.x).cell? ⟨w.heap.size, 1, none⟩ = some (.int .i64 ch) := fun u => by obtain ⟨x, hx⟩ := u; show x.cell? _ = _; rw [hSS2] at hx; exact sf1 ⟨x, hx.1⟩
  have sg2 : ∀ u : SW SS2, (u.x).cell? ⟨w.heap.size, 2, none⟩ = some (.int .i64 1) := fun u => by obtain ⟨x, hx⟩ := u; show x.cell? _ = _; rw [hSS2] at hx; exact sf2 ⟨x, hx.1⟩
  have sg3 : ∀ u : SW SS2, (u.x).cell? ⟨w.heap.size, 3, none⟩ = some (.int .i64 sep) := fun u => by obtain ⟨x, hx⟩ := u; show x.cell? _ = _; rw [hSS2] at hx; exact sf3 ⟨x, hx.1⟩
  have sg4 : ∀ u : SW SS2, (u.x).cell? ⟨w.heap.size, 4, none⟩ = some (.string A) := fun u => by obtain ⟨x, hx⟩ := u; show x.cell? _ = _; rw [hSS2] at hx; exact sf4 ⟨x, hx.1⟩
  have sg5 : ∀ u : SW SS2, (u.x).cell? ⟨w.heap.size, 5, none⟩ = some (.string B) := fun u => by obtain ⟨x, hx⟩ := u; show x.cell? _ = _; rw [hSS2] at hx; exact sf5 ⟨x, hx.1⟩
  have sg6 : ∀ u : SW SS2, (u.x).cell? ⟨w.heap.size, 6, none⟩ = some (.string C) := fun u => by obtain ⟨x, hx⟩ := u; show x.cell? _ = _; rw [hSS2] at hx; exact sf6 ⟨x, hx.1⟩
  have sn0 : ∀ u : SW SS2, (u.x).cell? ⟨N, 0, none⟩ = some (.int .i64 0) := fun u => by obtain ⟨x, hx⟩ := u; show x.cell? _ = _; rw [hSS2] at hx; exact hx.2.1
  have sn1 : ∀ u : SW SS2, (u.x).cell? ⟨N, 1, none⟩ = some (.int .i64 10) := fun u => by obtain ⟨x, hx⟩ := u; show x.cell? _ = _; rw [hSS2] at hx; exact hx.2.2.1
  have sn2 : ∀ u : SW SS2, (u.x).cell? ⟨N, 2, none⟩ = some (.string ⟨#[]⟩) := fun u => by obtain ⟨x, hx⟩ := u; show x.cell? _ = _; rw [hSS2] at hx; exact hx.2.2.2.1
  have sn3 : ∀ u : SW SS2, (u.x).cell? ⟨N, 3, none⟩ = some (.string B) := fun u => by obtain ⟨x, hx⟩ := u; show x.cell? _ = _; rw [hSS2] at hx; exact hx.2.2.2.2.1
  have sn4 : ∀ u : SW SS2, (u.x).cell? ⟨N, 4, none⟩ = some (.string C) := fun u => by obtain ⟨x, hx⟩ := u; show x.cell? _ = _; rw [hSS2] at hx; exact hx.2.2.2.2.2.1
  have sn5 : ∀ u : SW SS2, (u.x).cell? ⟨N, 5, none⟩ = some (.bool true) := fun u => by obtain ⟨x, hx⟩ := u; show x.cell? _ = _; rw [hSS2] at hx; exact hx.2.2.2.2.2.2
  clear hN2 hNlt hSS2
  try simp only [List.append]
  refine wp_region_pathL (last := 5) (S := fun w' => ∃ u : SW SS2, w' = u.x) (([0, 1, 2] : List Nat).map (fun i => (i, true)) ++ [(3, false), (4, false), (5, false)]) [0, 0, 2, 4, 9, 31] 86 hmix (by kernel_rfl) (by kernel_rfl) (by kernel_rfl) (by kernel_rfl) (by kernel_rfl) (by kernel_rfl) (by kernel_rfl) ⟨⟨_, HSS2.out _ (bdn (Below.refl Y.heap.size Y) 1)⟩, rfl⟩ ?_
  refine wpPath_quietL' _ _ (by kernel_rfl) ?_
  iterate 3 (refine wpQ_op rfl rfl fun K hK => ?_; go_big_quiet_op; (try refine ⟨_, fun _ => rfl, ?_⟩); refine hK _ ?_; clear hK K)
  refine wpQ_nil ?_
  generalize hW2 : ({ Y with drawn := Y.drawn + 1 } : World) = W2
  have hb2 : Below Y.heap.size Y W2 := by rw [← hW2]; exact bdn (Below.refl _ _) 1
  clear hW2
  refine tail_step rfl rfl fun K hK => ?_
  go_wp2_with (go_at_call 35; refine (text35 _ _ _).mono ?_; rintro r w3 ⟨rfl, hc3⟩)
  have hb3 := hb2.trans (hc3.mono hb2.size)
  refine hK _ _ (fun _ => ⟨⟨w3, HSS2.out _ hb3⟩, rfl⟩) ?_
  clear hK K
  try simp only [Act.put, List.setIfInBounds_toArray, List.set_cons_succ, List.set_cons_zero]
  refine tail_step rfl rfl fun K hK => ?_
  go_wp2_with fail
  refine hK _ _ (fun _ => ⟨⟨_, HSS2.out _ (hb3.alloc hb3.size _)⟩, rfl⟩) ?_
  clear hK K
  refine tail_step rfl rfl fun K hK => ?_
  go_wp2_with fail
  refine hK _ _ (fun h => absurd rfl h) ?_
  clear hK K
  refine path_end ?_
  go_wp2_with fail
  go_ret
  refine madeN (HBW.out.trans ((HPB.out _ _ HBX.out hb3).mono HBW.out.size)) ?_ (by rw [HLL.out]; rfl)
  rw [HLL.out]
  try rw [HA.out]
  try rw [HB.out]
  try rw [HC.out]
  simp [cellsN, meK, lkM, inO, inT, inL, InN.vals, ba_app]
set_option maxRecDepth 100000 in
set_option maxHeartbeats 8000000 in
theorem me_6_2 (ch sep : Int) (e : Nat) (he : e ≤ 131070) (a b c : Bs) (hch : ch = 0 ∨ ch = 1) (ha : a.length ≤ 100) (hb : b.length ≤ 100) (hc : c.length ≤ 100) (w : World) :
    Calls Tryz.prog 16 #[.agg #[.int .i64 6, .int .i64 ch, .int .i64 2, .int .i64 sep, strV a, strV b, strV c], .int .i64 e] w fun r w' => MadeN w (meK (e.testBit 5) (e.testBit 4) (oneC ch) (oddC ch) a b c 6 (2 : Int).toNat) r w' := by
  have H14 := Lib.hid (fun w => has14 e 5 32 rfl (by decide) (by decide) (by omega) w)
  have J14 := Lib.hid (fun w => has14 e 4 16 rfl (by decide) (by decide) (by omega) w)
  obtain ⟨del, hdel⟩ : ∃ d, d = e.testBit 5 := ⟨_, rfl⟩
  rw [← hdel] at H14 ⊢
  clear hdel
  obtain ⟨aut, haut⟩ : ∃ d, d = e.testBit 4 := ⟨_, rfl⟩
  rw [← haut] at J14 ⊢
  clear haut
  obtain ⟨A, hA⟩ : ∃ S : ByteArray, S = ⟨a.toArray⟩ := ⟨_, rfl⟩
  obtain ⟨B, hB⟩ : ∃ S : ByteArray, S = ⟨b.toArray⟩ := ⟨_, rfl⟩
  obtain ⟨C, hC⟩ : ∃ S : ByteArray, S = ⟨c.toArray⟩ := ⟨_, rfl⟩
  have zA : A.size ≤ 100 := by rw [hA]; show a.toArray.size ≤ _; simpa using ha
  have zB : B.size ≤ 100 := by rw [hB]; show b.toArray.size ≤ _; simpa using hb
  have zC : C.size ≤ 100 := by rw [hC]; show c.toArray.size ≤ _; simpa using hc
  obtain ⟨LL, hLL⟩ : ∃ LL, LL = meK del aut (oneC ch) (oddC ch) a b c 6 (2 : Int).toNat := ⟨_, rfl⟩
  rw [← hLL]
  simp only [strV]
  rw [← hA, ← hB, ← hC]
  have HA := Lib.hid hA
  have HB := Lib.hid hB
  have HC := Lib.hid hC
  have HLL := Lib.hid hLL
  clear hA hB hC hLL
  have HBD := Lib.hid (fun o => (Below.refl w.heap.size w).alloc (Nat.le_refl _) o)
  have hmix : Tryz.prog.follows .mixedOrders = true := by kernel_rfl
  go_enter Tryz.func16, Tryz.ntmps16
  go_upto_region 1 with fail
  generalize hW : w.alloc _ = W
  have hz0 : W.heap.size = w.heap.size + 1 := by rw [← hW]; simp
  have hbW : Below w.heap.size w W := by rw [← hW]; exact HBD.out _
  obtain ⟨SS, hSS⟩ : ∃ SS : World → Prop, SS = fun w' => C7 w' w.heap.size (.int .i64 6) (.int .i64 ch) (.int .i64 2) (.int .i64 sep) (.string A) (.string B) (.string C) := ⟨_, rfl⟩
  have HSS : Hid (∀ w', Below W.heap.size W w' → SS w') := by
    rw [hSS]
    refine Lib.hid (fun w' h => ?_)
    have hb : w'.heap[w.heap.size]? = W.heap[w.heap.size]? := h.block _ (by rw [hz0]; omega)
    rw [← hW] at hb
    have hb2 := hb.trans (heap_alloc_new w _)
    exact ⟨(Lib.cell_of_heap hb2 0).trans rfl, (Lib.cell_of_heap hb2 1).trans rfl, (Lib.cell_of_heap hb2 2).trans rfl, (Lib.cell_of_heap hb2 3).trans rfl, (Lib.cell_of_heap hb2 4).trans rfl, (Lib.cell_of_heap hb2 5).trans rfl, (Lib.cell_of_heap hb2 6).trans rfl⟩
  have sfa : ∀ x, SS x → C7 x w.heap.size (.int .i64 6) (.int .i64 ch) (.int .i64 2) (.int .i64 sep) (.string A) (.string B) (.string C) := by rw [hSS]; exact fun x h => h
  have sf0 : ∀ u : SW SS, (u.x).cell? ⟨w.heap.size, 0, none⟩ = some (.int .i64 6) := fun u => (sfa u.x u.h).1
  have sf1 : ∀ u : SW SS, (u.x).cell? ⟨w.heap.size, 1, none⟩ = some (.int .i64 ch) := fun u => (sfa u.x u.h).2.1
  have sf2 : ∀ u : SW SS, (u.x).cell? ⟨w.heap.size, 2, none⟩ = some (.int .i64 2) := fun u => (sfa u.x u.h).2.2.1
  have sf3 : ∀ u : SW SS, (u.x).cell? ⟨w.heap.size, 3, none⟩ = some (.int .i64 sep) := fun u => (sfa u.x u.h).2.2.2.1
  have sf4 : ∀ u : SW SS, (u.x).cell? ⟨w.heap.size, 4, none⟩ = some (.string A) := fun u => (sfa u.x u.h).2.2.2.2.1
  have sf5 : ∀ u : SW SS, (u.x).cell? ⟨w.heap.size, 5, none⟩ = some (.string B) := fun u => (sfa u.x u.h).2.2.2.2.2.1
  have sf6 : ∀ u : SW SS, (u.x).cell? ⟨w.heap.size, 6, none⟩ = some (.string C) := fun u => (sfa u.x u.h).2.2.2.2.2.2
  have HOP : Hid (∀ w', SS w' → C7 w' w.heap.size (.int .i64 6) (.int .i64 ch) (.int .i64 2) (.int .i64 sep) (.string A) (.string B) (.string C)) := by rw [hSS]; exact Lib.hid (fun w' h => h)
  obtain ⟨e0, e1, e2, e3, e4, e5, e6⟩ := HOP.out W (HSS.out W (Below.refl _ _))
  have HBW := Lib.hid hbW
  have HZ0 := Lib.hid hz0
  clear hW hbW hz0 HBD hSS sfa
  have t14 : True := trivial
  have HPB : Hid (∀ w' w'', Below W.heap.size W w' → Below w'.heap.size w' w'' → Below W.heap.size W w'') := Lib.hid (fun w' w'' h h2 => h.trans (h2.mono h.size))
  have hb0 : Below W.heap.size W W := Below.refl _ _
  go_upto_region 23 with (first | (clear t14; go_at_call 14; refine (H14.out _).mono ?_; rintro e w' ⟨rfl, rfl⟩) | (go_at_call 14; refine (J14.out _).mono ?_; rintro e w' ⟨rfl, rfl⟩) | (go_at_call 36; refine (link36 _ _ _).mono ?_; rintro r w36 ⟨rfl, hc36⟩; have hb36 := HPB.out _ _ (by assumption) hc36; clear hc36; obtain ⟨g360, g361, g362, g363, g364, g365, g366⟩ := HOP.out w36 (HSS.out w36 hb36)))
  generalize hX : World.alloc w36 _ = X
  have hbX : Below W.heap.size W X := by rw [← hX]; exact hb36.alloc hb36.size _
  have hN : X.heap[w36.heap.size]? = some (.cells #[.int .i64 0, .int .i64 10, .string ⟨#[]⟩, .string B, .string ⟨#[]⟩, .bool false] 52 (0, 0)) := by rw [← hX]; exact heap_alloc_new w36 _
  have hge : W.heap.size ≤ w36.heap.size := hb36.size
  have hne : ¬ (w.heap.size = w36.heap.size) := by have := HZ0.out; omega
  have hne2 : ¬ (w36.heap.size = w.heap.size) := fun h => hne h.symm
  generalize w36.heap.size = N at hN hge hne hne2 ⊢
  have n0 : X.cell? ⟨N, 0, none⟩ = some (.int .i64 0) := (Lib.cell_of_heap hN 0).trans rfl
  have n1 : X.cell? ⟨N, 1, none⟩ = some (.int .i64 10) := (Lib.cell_of_heap hN 1).trans rfl
  have n2 : X.cell? ⟨N, 2, none⟩ = some (.string ⟨#[]⟩) := (Lib.cell_of_heap hN 2).trans rfl
  have n3 : X.cell? ⟨N, 3, none⟩ = some (.string B) := (Lib.cell_of_heap hN 3).trans rfl
  have n4 : X.cell? ⟨N, 4, none⟩ = some (.string ⟨#[]⟩) := (Lib.cell_of_heap hN 4).trans rfl
  have n5 : X.cell? ⟨N, 5, none⟩ = some (.bool false) := (Lib.cell_of_heap hN 5).trans rfl
  have f4 : X.frozen? ⟨N, 4, none⟩ = false := Lib.frozen_of_heap hN 4
  have f5 : X.frozen? ⟨N, 5, none⟩ = false := Lib.frozen_of_heap hN 5
  obtain ⟨x0, x1, x2, x3, x4, x5, x6⟩ := HOP.out X (HSS.out X hbX)
  have HN := Lib.hid hN
  have HBX := Lib.hid hbX
  have HGE := Lib.hid hge
  clear hN hbX hge hX
  go_upto_region 25 with fail
  obtain ⟨Y, hY⟩ : ∃ Y, Y = ((X.setCell ⟨N, 4, none⟩ (.string C)).setCell ⟨N, 5, none⟩ (.bool true)) := ⟨_, rfl⟩
  rw [← hY]
  have hbY : Below W.heap.size W Y := by rw [hY]; exact (HBX.out.setCell (p := ⟨N, 4, none⟩) HGE.out _).setCell (p := ⟨N, 5, none⟩) HGE.out _
  have hN2 : Y.heap[N]? = some (.cells #[.int .i64 0, .int .i64 10, .string ⟨#[]⟩, .string B, .string C, .bool true] 52 (0, 0)) := by rw [hY]; exact cells_set (cells_set HN.out 4 _) 5 _
  have HBX := Lib.hid hbY
  clear hY hbY n0 n1 n2 n3 n4 n5 x0 x1 x2 x3 x4 x5 x6 f4 f5
  obtain ⟨SS2, hSS2⟩ : ∃ SS2 : World → Prop, SS2 = fun w' => SS w' ∧ w'.cell? ⟨N, 0, none⟩ = some (.int .i64 0) ∧ w'.cell? ⟨N, 1, none⟩ = some (.int .i64 10) ∧ w'.cell? ⟨N, 2, none⟩ = some (.string ⟨#[]⟩) ∧ w'.cell? ⟨N, 3, none⟩ = some (.string B) ∧ w'.cell? ⟨N, 4, none⟩ = some (.string C) ∧ w'.cell? ⟨N, 5, none⟩ = some (.bool true) := ⟨_, rfl⟩
  have hNlt : N < Y.heap.size := (Array.getElem?_eq_some_iff.1 hN2).1
  have HSS2 : Hid (∀ w', Below Y.heap.size Y w' → SS2 w') := by
    rw [hSS2]
    refine Lib.hid (fun w' h => ⟨HSS.out w' (HPB.out _ _ HBX.out h), ?_⟩)
    have hb2 := (h.block N hNlt).trans hN2
    exact ⟨(Lib.cell_of_heap hb2 0).trans rfl, (Lib.cell_of_heap hb2 1).trans rfl, (Lib.cell_of_heap hb2 2).trans rfl, (Lib.cell_of_heap hb2 3).trans rfl, (Lib.cell_of_heap hb2 4).trans rfl, (Lib.cell_of_heap hb2 5).trans rfl⟩
  have sg0 : ∀ u : SW SS2, (u.x).cell? ⟨w.heap.size, 0, none⟩ = some (.int .i64 6) := fun u => by obtain ⟨x, hx⟩ := u; show x.cell? _ = _; rw [hSS2] at hx; exact sf0 ⟨x, hx.1⟩
  have sg1 : ∀ u : SW SS2, (u.x).cell? ⟨w.heap.size, 1, none⟩ = some (.int .i64 ch) := fun u => by obtain ⟨x, hx⟩ := u; show x.cell? _ = _; rw [hSS2] at hx; exact sf1 ⟨x, hx.1⟩
  have sg2 : ∀ u : SW SS2, (u.x).cell? ⟨w.heap.size, 2, none⟩ = some (.int .i64 2) := fun u => by obtain ⟨x, hx⟩ := u; show x.cell? _ = _; rw [hSS2] at hx; exact sf2 ⟨x, hx.1⟩
  have sg3 : ∀ u : SW SS2, (u.x).cell? ⟨w.heap.size, 3, none⟩ = some (.int .i64 sep) := fun u => by obtain ⟨x, hx⟩ := u; show x.cell? _ = _; rw [hSS2] at hx; exact sf3 ⟨x, hx.1⟩
  have sg4 : ∀ u : SW SS2, (u.x).cell? ⟨w.heap.size, 4, none⟩ = some (.string A) := fun u => by obtain ⟨x, hx⟩ := u; show x.cell? _ = _; rw [hSS2] at hx; exact sf4 ⟨x, hx.1⟩
  have sg5 : ∀ u : SW SS2, (u.x).cell? ⟨w.heap.size, 5, none⟩ = some (.string B) := fun u => by obtain ⟨x, hx⟩ := u; show x.cell? _ = _; rw [hSS2] at hx; exact sf5 ⟨x, hx.1⟩
  have sg6 : ∀ u : SW SS2, (u.x).cell? ⟨w.heap.size, 6, none⟩ = some (.string C) := fun u => by obtain ⟨x, hx⟩ := u; show x.cell? _ = _; rw [hSS2] at hx; exact sf6 ⟨x, hx.1⟩
  have sn0 : ∀ u : SW SS2, (u.x).cell? ⟨N, 0, none⟩ = some (.int .i64 0) := fun u => by obtain ⟨x, hx⟩ := u; show x.cell? _ = _; rw [hSS2] at hx; exact hx.2.1
  have sn1 : ∀ u : SW SS2, (u.x).cell? ⟨N, 1, none⟩ = some (.int .i64 10) := fun u => by obtain ⟨x, hx⟩ := u; show x.cell? _ = _; rw [hSS2] at hx; exact hx.2.2.1
  have sn2 : ∀ u : SW SS2, (u.x).cell? ⟨N, 2, none⟩ = some (.string ⟨#[]⟩) := fun u => by obtain ⟨x, hx⟩ := u; show x.cell? _ = _; rw [hSS2] at hx; exact hx.2.2.2.1
  have sn3 : ∀ u : SW SS2, (u.x).cell? ⟨N, 3, none⟩ = some (.string B) := fun u => by obtain ⟨x, hx⟩ := u; show x.cell? _ = _; rw [hSS2] at hx; exact hx.2.2.2.2.1
  have sn4 : ∀ u : SW SS2, (u.x).cell? ⟨N, 4, none⟩ = some (.string C) := fun u => by obtain ⟨x, hx⟩ := u; show x.cell? _ = _; rw [hSS2] at hx; exact hx.2.2.2.2.2.1
  have sn5 : ∀ u : SW SS2, (u.x).cell? ⟨N, 5, none⟩ = some (.bool true) := fun u => by obtain ⟨x, hx⟩ := u; show x.cell? _ = _; rw [hSS2] at hx; exact hx.2.2.2.2.2.2
  clear hN2 hNlt hSS2
  try simp only [List.append]
  refine wp_region_pathL (last := 5) (S := fun w' => ∃ u : SW SS2, w' = u.x) (([0, 1, 2] : List Nat).map (fun i => (i, true)) ++ [(3, false), (4, false), (5, false)]) [0, 0, 2, 4, 9, 31] 86 hmix (by kernel_rfl) (by kernel_rfl) (by kernel_rfl) (by kernel_rfl) (by kernel_rfl) (by kernel_rfl) (by kernel_rfl) ⟨⟨_, HSS2.out _ (bdn (Below.refl Y.heap.size Y) 1)⟩, rfl⟩ ?_
  refine wpPath_quietL' _ _ (by kernel_rfl) ?_
  iterate 3 (refine wpQ_op rfl rfl fun K hK => ?_; go_big_quiet_op; (try refine ⟨_, fun _ => rfl, ?_⟩); refine hK _ ?_; clear hK K)
  refine wpQ_nil ?_
  generalize hW2 : ({ Y with drawn := Y.drawn + 1 } : World) = W2
  have hb2 : Below Y.heap.size Y W2 := by rw [← hW2]; exact bdn (Below.refl _ _) 1
  clear hW2
  refine tail_step rfl rfl fun K hK => ?_
  go_wp2_with (go_at_call 35; refine (text35 _ _ _).mono ?_; rintro r w3 ⟨rfl, hc3⟩)
  have hb3 := hb2.trans (hc3.mono hb2.size)
  refine hK _ _ (fun _ => ⟨⟨w3, HSS2.out _ hb3⟩, rfl⟩) ?_
  clear hK K
  try simp only [Act.put, List.setIfInBounds_toArray, List.set_cons_succ, List.set_cons_zero]
  refine tail_step rfl rfl fun K hK => ?_
  go_wp2_with fail
  refine hK _ _ (fun _ => ⟨⟨_, HSS2.out _ (hb3.alloc hb3.size _)⟩, rfl⟩) ?_
  clear hK K
  refine tail_step rfl rfl fun K hK => ?_
  go_wp2_with fail
  refine hK _ _ (fun h => absurd rfl h) ?_
  clear hK K
  refine path_end ?_
  go_wp2_with fail
  go_ret
  refine madeN (HBW.out.trans ((HPB.out _ _ HBX.out hb3).mono HBW.out.size)) ?_ (by rw [HLL.out]; rfl)
  rw [HLL.out]
  try rw [HA.out]
  try rw [HB.out]
  try rw [HC.out]
  simp [cellsN, meK, lkM, inO, inT, inL, InN.vals, ba_app]
set_option maxRecDepth 100000 in
set_option maxHeartbeats 8000000 in
theorem me_6_3 (ch sep : Int) (e : Nat) (he : e ≤ 131070) (a b c : Bs) (hch : ch = 0 ∨ ch = 1) (ha : a.length ≤ 100) (hb : b.length ≤ 100) (hc : c.length ≤ 100) (w : World) :
    Calls Tryz.prog 16 #[.agg #[.int .i64 6, .int .i64 ch, .int .i64 3, .int .i64 sep, strV a, strV b, strV c], .int .i64 e] w fun r w' => MadeN w (meK (e.testBit 5) (e.testBit 4) (oneC ch) (oddC ch) a b c 6 (3 : Int).toNat) r w' := by
  have H14 := Lib.hid (fun w => has14 e 5 32 rfl (by decide) (by decide) (by omega) w)
  have J14 := Lib.hid (fun w => has14 e 4 16 rfl (by decide) (by decide) (by omega) w)
  obtain ⟨del, hdel⟩ : ∃ d, d = e.testBit 5 := ⟨_, rfl⟩
  rw [← hdel] at H14 ⊢
  clear hdel
  obtain ⟨aut, haut⟩ : ∃ d, d = e.testBit 4 := ⟨_, rfl⟩
  rw [← haut] at J14 ⊢
  clear haut
  obtain ⟨A, hA⟩ : ∃ S : ByteArray, S = ⟨a.toArray⟩ := ⟨_, rfl⟩
  obtain ⟨B, hB⟩ : ∃ S : ByteArray, S = ⟨b.toArray⟩ := ⟨_, rfl⟩
  obtain ⟨C, hC⟩ : ∃ S : ByteArray, S = ⟨c.toArray⟩ := ⟨_, rfl⟩
  have zA : A.size ≤ 100 := by rw [hA]; show a.toArray.size ≤ _; simpa using ha
  have zB : B.size ≤ 100 := by rw [hB]; show b.toArray.size ≤ _; simpa using hb
  have zC : C.size ≤ 100 := by rw [hC]; show c.toArray.size ≤ _; simpa using hc
  obtain ⟨LL, hLL⟩ : ∃ LL, LL = meK del aut (oneC ch) (oddC ch) a b c 6 (3 : Int).toNat := ⟨_, rfl⟩
  rw [← hLL]
  simp only [strV]
  rw [← hA, ← hB, ← hC]
  have HA := Lib.hid hA
  have HB := Lib.hid hB
  have HC := Lib.hid hC
  have HLL := Lib.hid hLL
  clear hA hB hC hLL
  have HBD := Lib.hid (fun o => (Below.refl w.heap.size w).alloc (Nat.le_refl _) o)
  have hmix : Tryz.prog.follows .mixedOrders = true := by kernel_rfl
  go_enter Tryz.func16, Tryz.ntmps16
  go_upto_region 1 with fail
  generalize hW : w.alloc _ = W
  have hz0 : W.heap.size = w.heap.size + 1 := by rw [← hW]; simp
  have hbW : Below w.heap.size w W := by rw [← hW]; exact HBD.out _
  obtain ⟨SS, hSS⟩ : ∃ SS : World → Prop, SS = fun w' => C7 w' w.heap.size (.int .i64 6) (.int .i64 ch) (.int .i64 3) (.int .i64 sep) (.string A) (.string B) (.string C) := ⟨_, rfl⟩
  have HSS : Hid (∀ w', Below W.heap.size W w' → SS w') := by
    rw [hSS]
    refine Lib.hid (fun w' h => ?_)
    have hb : w'.heap[w.heap.size]? = W.heap[w.heap.size]? := h.block _ (by rw [hz0]; omega)
    rw [← hW] at hb
    have hb2 := hb.trans (heap_alloc_new w _)
    exact ⟨(Lib.cell_of_heap hb2 0).trans rfl, (Lib.cell_of_heap hb2 1).trans rfl, (Lib.cell_of_heap hb2 2).trans rfl, (Lib.cell_of_heap hb2 3).trans rfl, (Lib.cell_of_heap hb2 4).trans rfl, (Lib.cell_of_heap hb2 5).trans rfl, (Lib.cell_of_heap hb2 6).trans rfl⟩
  have sfa : ∀ x, SS x → C7 x w.heap.size (.int .i64 6) (.int .i64 ch) (.int .i64 3) (.int .i64 sep) (.string A) (.string B) (.string C) := by rw [hSS]; exact fun x h => h
  have sf0 : ∀ u : SW SS, (u.x).cell? ⟨w.heap.size, 0, none⟩ = some (.int .i64 6) := fun u => (sfa u.x u.h).1
  have sf1 : ∀ u : SW SS, (u.x).cell? ⟨w.heap.size, 1, none⟩ = some (.int .i64 ch) := fun u => (sfa u.x u.h).2.1
  have sf2 : ∀ u : SW SS, (u.x).cell? ⟨w.heap.size, 2, none⟩ = some (.int .i64 3) := fun u => (sfa u.x u.h).2.2.1
  have sf3 : ∀ u : SW SS, (u.x).cell? ⟨w.heap.size, 3, none⟩ = some (.int .i64 sep) := fun u => (sfa u.x u.h).2.2.2.1
  have sf4 : ∀ u : SW SS, (u.x).cell? ⟨w.heap.size, 4, none⟩ = some (.string A) := fun u => (sfa u.x u.h).2.2.2.2.1
  have sf5 : ∀ u : SW SS, (u.x).cell? ⟨w.heap.size, 5, none⟩ = some (.string B) := fun u => (sfa u.x u.h).2.2.2.2.2.1
  have sf6 : ∀ u : SW SS, (u.x).cell? ⟨w.heap.size, 6, none⟩ = some (.string C) := fun u => (sfa u.x u.h).2.2.2.2.2.2
  have HOP : Hid (∀ w', SS w' → C7 w' w.heap.size (.int .i64 6) (.int .i64 ch) (.int .i64 3) (.int .i64 sep) (.string A) (.string B) (.string C)) := by rw [hSS]; exact Lib.hid (fun w' h => h)
  obtain ⟨e0, e1, e2, e3, e4, e5, e6⟩ := HOP.out W (HSS.out W (Below.refl _ _))
  have HBW := Lib.hid hbW
  have HZ0 := Lib.hid hz0
  clear hW hbW hz0 HBD hSS sfa
  have t14 : True := trivial
  have HPB : Hid (∀ w' w'', Below W.heap.size W w' → Below w'.heap.size w' w'' → Below W.heap.size W w'') := Lib.hid (fun w' w'' h h2 => h.trans (h2.mono h.size))
  have hb0 : Below W.heap.size W W := Below.refl _ _
  go_upto_region 23 with (first | (clear t14; go_at_call 14; refine (H14.out _).mono ?_; rintro e w' ⟨rfl, rfl⟩) | (go_at_call 14; refine (J14.out _).mono ?_; rintro e w' ⟨rfl, rfl⟩) | (go_at_call 36; refine (link36 _ _ _).mono ?_; rintro r w36 ⟨rfl, hc36⟩; have hb36 := HPB.out _ _ (by assumption) hc36; clear hc36; obtain ⟨g360, g361, g362, g363, g364, g365, g366⟩ := HOP.out w36 (HSS.out w36 hb36)))
  generalize hX : World.alloc w36 _ = X
  have hbX : Below W.heap.size W X := by rw [← hX]; exact hb36.alloc hb36.size _
  have hN : X.heap[w36.heap.size]? = some (.cells #[.int .i64 0, .int .i64 10, .string ⟨#[]⟩, .string B, .string ⟨#[]⟩, .bool false] 52 (0, 0)) := by rw [← hX]; exact heap_alloc_new w36 _
  have hge : W.heap.size ≤ w36.heap.size := hb36.size
  have hne : ¬ (w.heap.size = w36.heap.size) := by have := HZ0.out; omega
  have hne2 : ¬ (w36.heap.size = w.heap.size) := fun h => hne h.symm
  generalize w36.heap.size = N at hN hge hne hne2 ⊢
  have n0 : X.cell? ⟨N, 0, none⟩ = some (.int .i64 0) := (Lib.cell_of_heap hN 0).trans rfl
  have n1 : X.cell? ⟨N, 1, none⟩ = some (.int .i64 10) := (Lib.cell_of_heap hN 1).trans rfl
  have n2 : X.cell? ⟨N, 2, none⟩ = some (.string ⟨#[]⟩) := (Lib.cell_of_heap hN 2).trans rfl
  have n3 : X.cell? ⟨N, 3, none⟩ = some (.string B) := (Lib.cell_of_heap hN 3).trans rfl
  have n4 : X.cell? ⟨N, 4, none⟩ = some (.string ⟨#[]⟩) := (Lib.cell_of_heap hN 4).trans rfl
  have n5 : X.cell? ⟨N, 5, none⟩ = some (.bool false) := (Lib.cell_of_heap hN 5).trans rfl
  have f4 : X.frozen? ⟨N, 4, none⟩ = false := Lib.frozen_of_heap hN 4
  have f5 : X.frozen? ⟨N, 5, none⟩ = false := Lib.frozen_of_heap hN 5
  obtain ⟨x0, x1, x2, x3, x4, x5, x6⟩ := HOP.out X (HSS.out X hbX)
  have HN := Lib.hid hN
  have HBX := Lib.hid hbX
  have HGE := Lib.hid hge
  clear hN hbX hge hX
  go_upto_region 25 with fail
  obtain ⟨Y, hY⟩ : ∃ Y, Y = ((X.setCell ⟨N, 4, none⟩ (.string C)).setCell ⟨N, 5, none⟩ (.bool true)) := ⟨_, rfl⟩
  rw [← hY]
  have hbY : Below W.heap.size W Y := by rw [hY]; exact (HBX.out.setCell (p := ⟨N, 4, none⟩) HGE.out _).setCell (p := ⟨N, 5, none⟩) HGE.out _
  have hN2 : Y.heap[N]? = some (.cells #[.int .i64 0, .int .i64 10, .string ⟨#[]⟩, .string B, .string C, .bool true] 52 (0, 0)) := by rw [hY]; exact cells_set (cells_set HN.out 4 _) 5 _
  have HBX := Lib.hid hbY
  clear hY hbY n0 n1 n2 n3 n4 n5 x0 x1 x2 x3 x4 x5 x6 f4 f5
  obtain ⟨SS2, hSS2⟩ : ∃ SS2 : World → Prop, SS2 = fun w' => SS w' ∧ w'.cell? ⟨N, 0, none⟩ = some (.int .i64 0) ∧ w'.cell? ⟨N, 1, none⟩ = some (.int .i64 10) ∧ w'.cell? ⟨N, 2, none⟩ = some (.string ⟨#[]⟩) ∧ w'.cell? ⟨N, 3, none⟩ = some (.string B) ∧ w'.cell? ⟨N, 4, none⟩ = some (.string C) ∧ w'.cell? ⟨N, 5, none⟩ = some (.bool true) := ⟨_, rfl⟩
  have hNlt : N < Y.heap.size := (Array.getElem?_eq_some_iff.1 hN2).1
  have HSS2 : Hid (∀ w', Below Y.heap.size Y w' → SS2 w') := by
    rw [hSS2]
    refine Lib.hid (fun w' h => ⟨HSS.out w' (HPB.out _ _ HBX.out h), ?_⟩)
    have hb2 := (h.block N hNlt).trans hN2
    exact ⟨(Lib.cell_of_heap hb2 0).trans rfl, (Lib.cell_of_heap hb2 1).trans rfl, (Lib.cell_of_heap hb2 2).trans rfl, (Lib.cell_of_heap hb2 3).trans rfl, (Lib.cell_of_heap hb2 4).trans rfl, (Lib.cell_of_heap hb2 5).trans rfl⟩
  have sg0 : ∀ u : SW SS2, (u.x).cell? ⟨w.heap.size, 0, none⟩ = some (.int .i64 6) := fun u => by obtain ⟨x, hx⟩ := u; show x.cell? _ = _; rw [hSS2] at hx; exact sf0 ⟨x, hx.1⟩
  have sg1 : ∀ u : SW SS2, (u.x).cell? ⟨w.heap.size, 1, none⟩ = some (.int .i64 ch) := fun u => by obtain ⟨x, hx⟩ := u; show x.cell? _ = _; rw [hSS2] at hx; exact sf1 ⟨x, hx.1⟩
  have sg2 : ∀ u : SW SS2, (u.x).cell? ⟨w.heap.size, 2, none⟩ = some (.int .i64 3) := fun u => by obtain ⟨x, hx⟩ := u; show x.cell? _ = _; rw [hSS2] at hx; exact sf2 ⟨x, hx.1⟩
  have sg3 : ∀ u : SW SS2, (u.x).cell? ⟨w.heap.size, 3, none⟩ = some (.int .i64 sep) := fun u => by obtain ⟨x, hx⟩ := u; show x.cell? _ = _; rw [hSS2] at hx; exact sf3 ⟨x, hx.1⟩
  have sg4 : ∀ u : SW SS2, (u.x).cell? ⟨w.heap.size, 4, none⟩ = some (.string A) := fun u => by obtain ⟨x, hx⟩ := u; show x.cell? _ = _; rw [hSS2] at hx; exact sf4 ⟨x, hx.1⟩
  have sg5 : ∀ u : SW SS2, (u.x).cell? ⟨w.heap.size, 5, none⟩ = some (.string B) := fun u => by obtain ⟨x, hx⟩ := u; show x.cell? _ = _; rw [hSS2] at hx; exact sf5 ⟨x, hx.1⟩
  have sg6 : ∀ u : SW SS2, (u.x).cell? ⟨w.heap.size, 6, none⟩ = some (.string C) := fun u => by obtain ⟨x, hx⟩ := u; show x.cell? _ = _; rw [hSS2] at hx; exact sf6 ⟨x, hx.1⟩
  have sn0 : ∀ u : SW SS2, (u.x).cell? ⟨N, 0, none⟩ = some (.int .i64 0) := fun u => by obtain ⟨x, hx⟩ := u; show x.cell? _ = _; rw [hSS2] at hx; exact hx.2.1
  have sn1 : ∀ u : SW SS2, (u.x).cell? ⟨N, 1, none⟩ = some (.int .i64 10) := fun u => by obtain ⟨x, hx⟩ := u; show x.cell? _ = _; rw [hSS2] at hx; exact hx.2.2.1
  have sn2 : ∀ u : SW SS2, (u.x).cell? ⟨N, 2, none⟩ = some (.string ⟨#[]⟩) := fun u => by obtain ⟨x, hx⟩ := u; show x.cell? _ = _; rw [hSS2] at hx; exact hx.2.2.2.1
  have sn3 : ∀ u : SW SS2, (u.x).cell? ⟨N, 3, none⟩ = some (.string B) := fun u => by obtain ⟨x, hx⟩ := u; show x.cell? _ = _; rw [hSS2] at hx; exact hx.2.2.2.2.1
  have sn4 : ∀ u : SW SS2, (u.x).cell? ⟨N, 4, none⟩ = some (.string C) := fun u => by obtain ⟨x, hx⟩ := u; show x.cell? _ = _; rw [hSS2] at hx; exact hx.2.2.2.2.2.1
  have sn5 : ∀ u : SW SS2, (u.x).cell? ⟨N, 5, none⟩ = some (.bool true) := fun u => by obtain ⟨x, hx⟩ := u; show x.cell? _ = _; rw [hSS2] at hx; exact hx.2.2.2.2.2.2
  clear hN2 hNlt hSS2
  try simp only [List.append]
  refine wp_region_pathL (last := 5) (S := fun w' => ∃ u : SW SS2, w' = u.x) (([0, 1, 2] : List Nat).map (fun i => (i, true)) ++ [(3, false), (4, false), (5, false)]) [0, 0, 2, 4, 9, 31] 86 hmix (by kernel_rfl) (by kernel_rfl) (by kernel_rfl) (by kernel_rfl) (by kernel_rfl) (by kernel_rfl) (by kernel_rfl) ⟨⟨_, HSS2.out _ (bdn (Below.refl Y.heap.size Y) 1)⟩, rfl⟩ ?_
  refine wpPath_quietL' _ _ (by kernel_rfl) ?_
  iterate 3 (refine wpQ_op rfl rfl fun K hK => ?_; go_big_quiet_op; (try refine ⟨_, fun _ => rfl, ?_⟩); refine hK _ ?_; clear hK K)
  refine wpQ_nil ?_
  generalize hW2 : ({ Y with drawn := Y.drawn + 1 } : World) = W2
  have hb2 : Below Y.heap.size Y W2 := by rw [← hW2]; exact bdn (Below.refl _ _) 1
  clear hW2
  refine tail_step rfl rfl fun K hK => ?_
  go_wp2_with (go_at_call 35; refine (text35 _ _ _).mono ?_; rintro r w3 ⟨rfl, hc3⟩)
  have hb3 := hb2.trans (hc3.mono hb2.size)
  refine hK _ _ (fun _ => ⟨⟨w3, HSS2.out _ hb3⟩, rfl⟩) ?_
  clear hK K
  try simp only [Act.put, List.setIfInBounds_toArray, List.set_cons_succ, List.set_cons_zero]
  refine tail_step rfl rfl fun K hK => ?_
  go_wp2_with fail
  refine hK _ _ (fun _ => ⟨⟨_, HSS2.out _ (hb3.alloc hb3.size _)⟩, rfl⟩) ?_
  clear hK K
  refine tail_step rfl rfl fun K hK => ?_
  go_wp2_with fail
  refine hK _ _ (fun h => absurd rfl h) ?_
  clear hK K
  refine path_end ?_
  go_wp2_with fail
  go_ret
  refine madeN (HBW.out.trans ((HPB.out _ _ HBX.out hb3).mono HBW.out.size)) ?_ (by rw [HLL.out]; rfl)
  rw [HLL.out]
  try rw [HA.out]
  try rw [HB.out]
  try rw [HC.out]
  simp [cellsN, meK, lkM, inO, inT, inL, InN.vals, ba_app]
set_option maxRecDepth 100000 in
set_option maxHeartbeats 8000000 in
theorem me_6_4 (ch sep : Int) (e : Nat) (he : e ≤ 131070) (a b c : Bs) (hch : ch = 0 ∨ ch = 1) (ha : a.length ≤ 100) (hb : b.length ≤ 100) (hc : c.length ≤ 100) (w : World) :
    Calls Tryz.prog 16 #[.agg #[.int .i64 6, .int .i64 ch, .int .i64 4, .int .i64 sep, strV a, strV b, strV c], .int .i64 e] w fun r w' => MadeN w (meK (e.testBit 5) (e.testBit 4) (oneC ch) (oddC ch) a b c 6 (4 : Int).toNat) r w' := by
  have H14 := Lib.hid (fun w => has14 e 5 32 rfl (by decide) (by decide) (by omega) w)
  have J14 := Lib.hid (fun w => has14 e 4 16 rfl (by decide) (by decide) (by omega) w)
  obtain ⟨del, hdel⟩ : ∃ d, d = e.testBit 5 := ⟨_, rfl⟩
  rw [← hdel] at H14 ⊢
  clear hdel
  obtain ⟨aut, haut⟩ : ∃ d, d = e.testBit 4 := ⟨_, rfl⟩
  rw [← haut] at J14 ⊢
  clear haut
  obtain ⟨A, hA⟩ : ∃ S : ByteArray, S = ⟨a.toArray⟩ := ⟨_, rfl⟩
  obtain ⟨B, hB⟩ : ∃ S : ByteArray, S = ⟨b.toArray⟩ := ⟨_, rfl⟩
  obtain ⟨C, hC⟩ : ∃ S : ByteArray, S = ⟨c.toArray⟩ := ⟨_, rfl⟩
  have zA : A.size ≤ 100 := by rw [hA]; show a.toArray.size ≤ _; simpa using ha
  have zB : B.size ≤ 100 := by rw [hB]; show b.toArray.size ≤ _; simpa using hb
  have zC : C.size ≤ 100 := by rw [hC]; show c.toArray.size ≤ _; simpa using hc
  obtain ⟨LL, hLL⟩ : ∃ LL, LL = meK del aut (oneC ch) (oddC ch) a b c 6 (4 : Int).toNat := ⟨_, rfl⟩
  rw [← hLL]
  simp only [strV]
  rw [← hA, ← hB, ← hC]
  have HA := Lib.hid hA
  have HB := Lib.hid hB
  have HC := Lib.hid hC
  have HLL := Lib.hid hLL
  clear hA hB hC hLL
  have HBD := Lib.hid (fun o => (Below.refl w.heap.size w).alloc (Nat.le_refl _) o)
  have hmix : Tryz.prog.follows .mixedOrders = true := by kernel_rfl
  go_enter Tryz.func16, Tryz.ntmps16
  go_upto_region 1 with fail
  generalize hW : w.alloc _ = W
  have hz0 : W.heap.size = w.heap.size + 1 := by rw [← hW]; simp
  have hbW : Below w.heap.size w W := by rw [← hW]; exact HBD.out _
  obtain ⟨SS, hSS⟩ : ∃ SS : World → Prop, SS = fun w' => C7 w' w.heap.size (.int .i64 6) (.int .i64 ch) (.int .i64 4) (.int .i64 sep) (.string A) (.string B) (.string C) := ⟨_, rfl⟩
  have HSS : Hid (∀ w', Below W.heap.size W w' → SS w') := by
    rw [hSS]
    refine Lib.hid (fun w' h => ?_)
    have hb : w'.heap[w.heap.size]? = W.heap[w.heap.size]? := h.block _ (by rw [hz0]; omega)
    rw [← hW] at hb
    have hb2 := hb.trans (heap_alloc_new w _)
    exact ⟨(Lib.cell_of_heap hb2 0).trans rfl, (Lib.cell_of_heap hb2 1).trans rfl, (Lib.cell_of_heap hb2 2).trans rfl, (Lib.cell_of_heap hb2 3).trans rfl, (Lib.cell_of_heap hb2 4).trans rfl, (Lib.cell_of_heap hb2 5).trans rfl, (Lib.cell_of_heap hb2 6).trans rfl⟩
  have sfa : ∀ x, SS x → C7 x w.heap.size (.int .i64 6) (.int .i64 ch) (.int .i64 4) (.int .i64 sep) (.string A) (.string B) (.string C) := by rw [hSS]; exact fun x h => h
  have sf0 : ∀ u : SW SS, (u.x).cell? ⟨w.heap.size, 0, none⟩ = some (.int .i64 6) := fun u => (sfa u.x u.h).1
  have sf1 : ∀ u : SW SS, (u.x).cell? ⟨w.heap.size, 1, none⟩ = some (.int .i64 ch) := fun u => (sfa u.x u.h).2.1
  have sf2 : ∀ u : SW SS, (u.x).cell? ⟨w.heap.size, 2, none⟩ = some (.int .i64 4) := fun u => (sfa u.x u.h).2.2.1
  have sf3 : ∀ u : SW SS, (u.x).cell? ⟨w.heap.size, 3, none⟩ = some (.int .i64 sep) := fun u => (sfa u.x u.h).2.2.2.1
  have sf4 : ∀ u : SW SS, (u.x).cell? ⟨w.heap.size, 4, none⟩ = some (.string A) := fun u => (sfa u.x u.h).2.2.2.2.1
  have sf5 : ∀ u : SW SS, (u.x).cell? ⟨w.heap.size, 5, none⟩ = some (.string B) := fun u => (sfa u.x u.h).2.2.2.2.2.1
  have sf6 : ∀ u : SW SS, (u.x).cell? ⟨w.heap.size, 6, none⟩ = some (.string C) := fun u => (sfa u.x u.h).2.2.2.2.2.2
  have HOP : Hid (∀ w', SS w' → C7 w' w.heap.size (.int .i64 6) (.int .i64 ch) (.int .i64 4) (.int .i64 sep) (.string A) (.string B) (.string C)) := by rw [hSS]; exact Lib.hid (fun w' h => h)
  obtain ⟨e0, e1, e2, e3, e4, e5, e6⟩ := HOP.out W (HSS.out W (Below.refl _ _))
  have HBW := Lib.hid hbW
  have HZ0 := Lib.hid hz0
  clear hW hbW hz0 HBD hSS sfa
  have t14 : True := trivial
  have HPB : Hid (∀ w' w'', Below W.heap.size W w' → Below w'.heap.size w' w'' → Below W.heap.size W w'') := Lib.hid (fun w' w'' h h2 => h.trans (h2.mono h.size))
  have hb0 : Below W.heap.size W W := Below.refl _ _
  go_upto_region 23 with (first | (clear t14; go_at_call 14; refine (H14.out _).mono ?_; rintro e w' ⟨rfl, rfl⟩) | (go_at_call 14; refine (J14.out _).mono ?_; rintro e w' ⟨rfl, rfl⟩) | (go_at_call 36; refine (link36 _ _ _).mono ?_; rintro r w36 ⟨rfl, hc36⟩; have hb36 := HPB.out _ _ (by assumption) hc36; clear hc36; obtain ⟨g360, g361, g362, g363, g364, g365, g366⟩ := HOP.out w36 (HSS.out w36 hb36)))
  generalize hX : World.alloc w36 _ = X
  have hbX : Below W.heap.size W X := by rw [← hX]; exact hb36.alloc hb36.size _
  have hN : X.heap[w36.heap.size]? = some (.cells #[.int .i64 0, .int .i64 10, .string ⟨#[]⟩, .string B, .string ⟨#[]⟩, .bool false] 52 (0, 0)) := by rw [← hX]; exact heap_alloc_new w36 _
  have hge : W.heap.size ≤ w36.heap.size := hb36.size
  have hne : ¬ (w.heap.size = w36.heap.size) := by have := HZ0.out; omega
  have hne2 : ¬ (w36.heap.size = w.heap.size) := fun h => hne h.symm
  generalize w36.heap.size = N at hN hge hne hne2 ⊢
  have n0 : X.cell? ⟨N, 0, none⟩ = some (.int .i64 0) := (Lib.cell_of_heap hN 0).trans rfl
  have n1 : X.cell? ⟨N, 1, none⟩ = some (.int .i64 10) := (Lib.cell_of_heap hN 1).trans rfl
  have n2 : X.cell? ⟨N, 2, none⟩ = some (.string ⟨#[]⟩) := (Lib.cell_of_heap hN 2).trans rfl
  have n3 : X.cell? ⟨N, 3, none⟩ = some (.string B) := (Lib.cell_of_heap hN 3).trans rfl
  have n4 : X.cell? ⟨N, 4, none⟩ = some (.string ⟨#[]⟩) := (Lib.cell_of_heap hN 4).trans rfl
  have n5 : X.cell? ⟨N, 5, none⟩ = some (.bool false) := (Lib.cell_of_heap hN 5).trans rfl
  obtain ⟨x0, x1, x2, x3, x4, x5, x6⟩ := HOP.out X (HSS.out X hbX)
  have HN := Lib.hid hN
  have HBX := Lib.hid hbX
  have HGE := Lib.hid hge
  clear hN hbX hge hX
  go_upto_region 25 with fail
  have hN2 := HN.out
  obtain ⟨SS2, hSS2⟩ : ∃ SS2 : World → Prop, SS2 = fun w' => SS w' ∧ w'.cell? ⟨N, 0, none⟩ = some (.int .i64 0) ∧ w'.cell? ⟨N, 1, none⟩ = some (.int .i64 10) ∧ w'.cell? ⟨N, 2, none⟩ = some (.string ⟨#[]⟩) ∧ w'.cell? ⟨N, 3, none⟩ = some (.string B) ∧ w'.cell? ⟨N, 4, none⟩ = some (.string ⟨#[]⟩) ∧ w'.cell? ⟨N, 5, none⟩ = some (.bool false) := ⟨_, rfl⟩
  have hNlt : N < X.heap.size := (Array.getElem?_eq_some_iff.1 hN2).1
  have HSS2 : Hid (∀ w', Below X.heap.size X w' → SS2 w') := by
    rw [hSS2]
    refine Lib.hid (fun w' h => ⟨HSS.out w' (HPB.out _ _ HBX.out h), ?_⟩)
    have hb2 := (h.block N hNlt).trans hN2
    exact ⟨(Lib.cell_of_heap hb2 0).trans rfl, (Lib.cell_of_heap hb2 1).trans rfl, (Lib.cell_of_heap hb2 2).trans rfl, (Lib.cell_of_heap hb2 3).trans rfl, (Lib.cell_of_heap hb2 4).trans rfl, (Lib.cell_of_heap hb2 5).trans rfl⟩
  have sg0 : ∀ u : SW SS2, (u.x).cell? ⟨w.heap.size, 0, none⟩ = some (.int .i64 6) := fun u => by obtain ⟨x, hx⟩ := u; show x.cell? _ = _; rw [hSS2] at hx; exact sf0 ⟨x, hx.1⟩
  have sg1 : ∀ u : SW SS2, (u.x).cell? ⟨w.heap.size, 1, none⟩ = some (.int .i64 ch) := fun u => by obtain ⟨x, hx⟩ := u; show x.cell? _ = _; rw [hSS2] at hx; exact sf1 ⟨x, hx.1⟩
  have sg2 : ∀ u : SW SS2, (u.x).cell? ⟨w.heap.size, 2, none⟩ = some (.int .i64 4) := fun u => by obtain ⟨x, hx⟩ := u; show x.cell? _ = _; rw [hSS2] at hx; exact sf2 ⟨x, hx.1⟩
  have sg3 : ∀ u : SW SS2, (u.x).cell? ⟨w.heap.size, 3, none⟩ = some (.int .i64 sep) := fun u => by obtain ⟨x, hx⟩ := u; show x.cell? _ = _; rw [hSS2] at hx; exact sf3 ⟨x, hx.1⟩
  have sg4 : ∀ u : SW SS2, (u.x).cell? ⟨w.heap.size, 4, none⟩ = some (.string A) := fun u => by obtain ⟨x, hx⟩ := u; show x.cell? _ = _; rw [hSS2] at hx; exact sf4 ⟨x, hx.1⟩
  have sg5 : ∀ u : SW SS2, (u.x).cell? ⟨w.heap.size, 5, none⟩ = some (.string B) := fun u => by obtain ⟨x, hx⟩ := u; show x.cell? _ = _; rw [hSS2] at hx; exact sf5 ⟨x, hx.1⟩
  have sg6 : ∀ u : SW SS2, (u.x).cell? ⟨w.heap.size, 6, none⟩ = some (.string C) := fun u => by obtain ⟨x, hx⟩ := u; show x.cell? _ = _; rw [hSS2] at hx; exact sf6 ⟨x, hx.1⟩
  have sn0 : ∀ u : SW SS2, (u.x).cell? ⟨N, 0, none⟩ = some (.int .i64 0) := fun u => by obtain ⟨x, hx⟩ := u; show x.cell? _ = _; rw [hSS2] at hx; exact hx.2.1
  have sn1 : ∀ u : SW SS2, (u.x).cell? ⟨N, 1, none⟩ = some (.int .i64 10) := fun u => by obtain ⟨x, hx⟩ := u; show x.cell? _ = _; rw [hSS2] at hx; exact hx.2.2.1
  have sn2 : ∀ u : SW SS2, (u.x).cell? ⟨N, 2, none⟩ = some (.string ⟨#[]⟩) := fun u => by obtain ⟨x, hx⟩ := u; show x.cell? _ = _; rw [hSS2] at hx; exact hx.2.2.2.1
  have sn3 : ∀ u : SW SS2, (u.x).cell? ⟨N, 3, none⟩ = some (.string B) := fun u => by obtain ⟨x, hx⟩ := u; show x.cell? _ = _; rw [hSS2] at hx; exact hx.2.2.2.2.1
  have sn4 : ∀ u : SW SS2, (u.x).cell? ⟨N, 4, none⟩ = some (.string ⟨#[]⟩) := fun u => by obtain ⟨x, hx⟩ := u; show x.cell? _ = _; rw [hSS2] at hx; exact hx.2.2.2.2.2.1
  have sn5 : ∀ u : SW SS2, (u.x).cell? ⟨N, 5, none⟩ = some (.bool false) := fun u => by obtain ⟨x, hx⟩ := u; show x.cell? _ = _; rw [hSS2] at hx; exact hx.2.2.2.2.2.2
  clear hN2 hNlt hSS2
  try simp only [List.append]
  refine wp_region_pathL (last := 5) (S := fun w' => ∃ u : SW SS2, w' = u.x) (([0, 1, 2] : List Nat).map (fun i => (i, true)) ++ [(3, false), (4, false), (5, false)]) [0, 0, 2, 4, 9, 31] 86 hmix (by kernel_rfl) (by kernel_rfl) (by kernel_rfl) (by kernel_rfl) (by kernel_rfl) (by kernel_rfl) (by kernel_rfl) ⟨⟨_, HSS2.out _ (bdn (Below.refl X.heap.size X) 1)⟩, rfl⟩ ?_
  refine wpPath_quietL' _ _ (by kernel_rfl) ?_
  iterate 3 (refine wpQ_op rfl rfl fun K hK => ?_; go_big_quiet_op; (try refine ⟨_, fun _ => rfl, ?_⟩); refine hK _ ?_; clear hK K)
  refine wpQ_nil ?_
  generalize hW2 : ({ X with drawn := X.drawn + 1 } : World) = W2
  have hb2 : Below X.heap.size X W2 := by rw [← hW2]; exact bdn (Below.refl _ _) 1
  clear hW2
  refine tail_step rfl rfl fun K hK => ?_
  go_wp2_with (go_at_call 35; refine (text35 _ _ _).mono ?_; rintro r w3 ⟨rfl, hc3⟩)
  have hb3 := hb2.trans (hc3.mono hb2.size)
  refine hK _ _ (fun _ => ⟨⟨w3, HSS2.out _ hb3⟩, rfl⟩) ?_
  clear hK K
  try simp only [Act.put, List.setIfInBounds_toArray, List.set_cons_succ, List.set_cons_zero]
  refine tail_step rfl rfl fun K hK => ?_
  go_wp2_with fail
  refine hK _ _ (fun _ => ⟨⟨_, HSS2.out _ (hb3.alloc hb3.size _)⟩, rfl⟩) ?_
  clear hK K
  refine tail_step rfl rfl fun K hK => ?_
  go_wp2_with fail
  refine hK _ _ (fun h => absurd rfl h) ?_
  clear hK K
  refine path_end ?_
  go_wp2_with fail
  go_ret
  refine madeN (HBW.out.trans ((HPB.out _ _ HBX.out hb3).mono HBW.out.size)) ?_ (by rw [HLL.out]; rfl)
  rw [HLL.out]
  try rw [HA.out]
  try rw [HB.out]
  try rw [HC.out]
  simp [cellsN, meK, lkM, inO, inT, inL, InN.vals, ba_app]
set_option maxRecDepth 100000 in
set_option maxHeartbeats 8000000 in
theorem me_7_0 (ch sep : Int) (e : Nat) (he : e ≤ 131070) (a b c : Bs) (hch : ch = 0 ∨ ch = 1) (ha : a.length ≤ 100) (hb : b.length ≤ 100) (hc : c.length ≤ 100) (w : World) :
    Calls Tryz.prog 16 #[.agg #[.int .i64 7, .int .i64 ch, .int .i64 0, .int .i64 sep, strV a, strV b, strV c], .int .i64 e] w fun r w' => MadeN w (meK (e.testBit 5) (e.testBit 4) (oneC ch) (oddC ch) a b c 7 (0 : Int).toNat) r w' := by
  have H14 := Lib.hid (fun w => has14 e 5 32 rfl (by decide) (by decide) (by omega) w)
  have J14 := Lib.hid (fun w => has14 e 4 16 rfl (by decide) (by decide) (by omega) w)
  obtain ⟨del, hdel⟩ : ∃ d, d = e.testBit 5 := ⟨_, rfl⟩
  rw [← hdel] at H14 ⊢
  clear hdel
  obtain ⟨aut, haut⟩ : ∃ d, d = e.testBit 4 := ⟨_, rfl⟩
  rw [← haut] at J14 ⊢
  clear haut
  obtain ⟨A, hA⟩ : ∃ S : ByteArray, S = ⟨a.toArray⟩ := ⟨_, rfl⟩
  obtain ⟨B, hB⟩ : ∃ S : ByteArray, S = ⟨b.toArray⟩ := ⟨_, rfl⟩
  obtain ⟨C, hC⟩ : ∃ S : ByteArray, S = ⟨c.toArray⟩ := ⟨_, rfl⟩
  have zA : A.size ≤ 100 := by rw [hA]; show a.toArray.size ≤ _; simpa using ha
  have zB : B.size ≤ 100 := by rw [hB]; show b.toArray.size ≤ _; simpa using hb
  have zC : C.size ≤ 100 := by rw [hC]; show c.toArray.size ≤ _; simpa using hc
  obtain ⟨LL, hLL⟩ : ∃ LL, LL = meK del aut (oneC ch) (oddC ch) a b c 7 (0 : Int).toNat := ⟨_, rfl⟩
  rw [← hLL]
  simp only [strV]
  rw [← hA, ← hB, ← hC]
  have HA := Lib.hid hA
  have HB := Lib.hid hB
  have HC := Lib.hid hC
  have HLL := Lib.hid hLL
  clear hA hB hC hLL
  have HBD := Lib.hid (fun o => (Below.refl w.heap.size w).alloc (Nat.le_refl _) o)
  have hmix : Tryz.prog.follows .mixedOrders = true := by kernel_rfl
  go_enter Tryz.func16, Tryz.ntmps16
  go_upto_region 1 with fail
  generalize hW : w.alloc _ = W
  have hz0 : W.heap.size = w.heap.size + 1 := by rw [← hW]; simp
  have hbW : Below w.heap.size w W := by rw [← hW]; exact HBD.out _
  obtain ⟨SS, hSS⟩ : ∃ SS : World → Prop, SS = fun w' => C7 w' w.heap.size (.int .i64 7) (.int .i64 ch) (.int .i64 0) (.int .i64 sep) (.string A) (.string B) (.string C) := ⟨_, rfl⟩
  have HSS : Hid (∀ w', Below W.heap.size W w' → SS w') := by
    rw [hSS]
    refine Lib.hid (fun w' h => ?_)
    have hb : w'.heap[w.heap.size]? = W.heap[w.heap.size]? := h.block _ (by rw [hz0]; omega)
    rw [← hW] at hb
    have hb2 := hb.trans (heap_alloc_new w _)
    exact ⟨(Lib.cell_of_heap hb2 0).trans rfl, (Lib.cell_of_heap hb2 1).trans rfl, (Lib.cell_of_heap hb2 2).trans rfl, (Lib.cell_of_heap hb2 3).trans rfl, (Lib.cell_of_heap hb2 4).trans rfl, (Lib.cell_of_heap hb2 5).trans rfl, (Lib.cell_of_heap hb2 6).trans rfl⟩
  have sfa : ∀ x, SS x → C7 x w.heap.size (.int .i64 7) (.int .i64 ch) (.int .i64 0) (.int .i64 sep) (.string A) (.string B) (.string C) := by rw [hSS]; exact fun x h => h
  have sf0 : ∀ u : SW SS, (u.x).cell? ⟨w.heap.size, 0, none⟩ = some (.int .i64 7) := fun u => (sfa u.x u.h).1
  have sf1 : ∀ u : SW SS, (u.x).cell? ⟨w.heap.size, 1, none⟩ = some (.int .i64 ch) := fun u => (sfa u.x u.h).2.1
  have sf2 : ∀ u : SW SS, (u.x).cell? ⟨w.heap.size, 2, none⟩ = some (.int .i64 0) := fun u => (sfa u.x u.h).2.2.1
  have sf3 : ∀ u : SW SS, (u.x).cell? ⟨w.heap.size, 3, none⟩ = some (.int .i64 sep) := fun u => (sfa u.x u.h).2.2.2.1
  have sf4 : ∀ u : SW SS, (u.x).cell? ⟨w.heap.size, 4, none⟩ = some (.string A) := fun u => (sfa u.x u.h).2.2.2.2.1
  have sf5 : ∀ u : SW SS, (u.x).cell? ⟨w.heap.size, 5, none⟩ = some (.string B) := fun u => (sfa u.x u.h).2.2.2.2.2.1
  have sf6 : ∀ u : SW SS, (u.x).cell? ⟨w.heap.size, 6, none⟩ = some (.string C) := fun u => (sfa u.x u.h).2.2.2.2.2.2
  have HOP : Hid (∀ w', SS w' → C7 w' w.heap.size (.int .i64 7) (.int .i64 ch) (.int .i64 0) (.int .i64 sep) (.string A) (.string B) (.string C)) := by rw [hSS]; exact Lib.hid (fun w' h => h)
  obtain ⟨e0, e1, e2, e3, e4, e5, e6⟩ := HOP.out W (HSS.out W (Below.refl _ _))
  have HBW := Lib.hid hbW
  have HZ0 := Lib.hid hz0
  clear hW hbW hz0 HBD hSS sfa
  have t14 : True := trivial
  have HPB : Hid (∀ w' w'', Below W.heap.size W w' → Below w'.heap.size w' w'' → Below W.heap.size W w'') := Lib.hid (fun w' w'' h h2 => h.trans (h2.mono h.size))
  have hb0 : Below W.heap.size W W := Below.refl _ _
  go_upto_region 23 with (first | (clear t14; go_at_call 14; refine (H14.out _).mono ?_; rintro e w' ⟨rfl, rfl⟩) | (go_at_call 14; refine (J14.out _).mono ?_; rintro e w' ⟨rfl, rfl⟩) | (go_at_call 36; refine (link36 _ _ _).mono ?_; rintro r w36 ⟨rfl, hc36⟩; have hb36 := HPB.out _ _ (by assumption) hc36; clear hc36; obtain ⟨g360, g361, g362, g363, g364, g365, g366⟩ := HOP.out w36 (HSS.out w36 hb36)))
  generalize hX : World.alloc w36 _ = X
  have hbX : Below W.heap.size W X := by rw [← hX]; exact hb36.alloc hb36.size _
  have hN : X.heap[w36.heap.size]? = some (.cells #[.int .i64 0, .int .i64 11, .string ⟨#[]⟩, .string B, .string ⟨#[]⟩, .bool false] 52 (0, 0)) := by rw [← hX]; exact heap_alloc_new w36 _
  have hge : W.heap.size ≤ w36.heap.size := hb36.size
  have hne : ¬ (w.heap.size = w36.heap.size) := by have := HZ0.out; omega
  have hne2 : ¬ (w36.heap.size = w.heap.size) := fun h => hne h.symm
  generalize w36.heap.size = N at hN hge hne hne2 ⊢
  have n0 : X.cell? ⟨N, 0, none⟩ = some (.int .i64 0) := (Lib.cell_of_heap hN 0).trans rfl
  have n1 : X.cell? ⟨N, 1, none⟩ = some (.int .i64 11) := (Lib.cell_of_heap hN 1).trans rfl
  have n2 : X.cell? ⟨N, 2, none⟩ = some (.string ⟨#[]⟩) := (Lib.cell_of_heap hN 2).trans rfl
  have n3 : X.cell? ⟨N, 3, none⟩ = some (.string B) := (Lib.cell_of_heap hN 3).trans rfl
  have n4 : X.cell? ⟨N, 4, none⟩ = some (.string ⟨#[]⟩) := (Lib.cell_of_heap hN 4).trans rfl
  have n5 : X.cell? ⟨N, 5, none⟩ = some (.bool false) := (Lib.cell_of_heap hN 5).trans rfl
  obtain ⟨x0, x1, x2, x3, x4, x5, x6⟩ := HOP.out X (HSS.out X hbX)
  have HN := Lib.hid hN
  have HBX := Lib.hid hbX
  have HGE := Lib.hid hge
  clear hN hbX hge hX
  go_upto_region 25 with fail
  have hN2 := HN.out
  obtain ⟨SS2, hSS2⟩ : ∃ SS2 : World → Prop, SS2 = fun w' => SS w' ∧ w'.cell? ⟨N, 0, none⟩ = some (.int .i64 0) ∧ w'.cell? ⟨N, 1, none⟩ = some (.int .i64 11) ∧ w'.cell? ⟨N, 2, none⟩ = some (.string ⟨#[]⟩) ∧ w'.cell? ⟨N, 3, none⟩ = some (.string B) ∧ w'.cell? ⟨N, 4, none⟩ = some (.string ⟨#[]⟩) ∧ w'.cell? ⟨N, 5, none⟩ = some (.bool false) := ⟨_, rfl⟩
  have hNlt : N < X.heap.size := (Array.getElem?_eq_some_iff.1 hN2).1
  have HSS2 : Hid (∀ w', Below X.heap.size X w' → SS2 w') := by
    rw [hSS2]
    refine Lib.hid (fun w' h => ⟨HSS.out w' (HPB.out _ _ HBX.out h), ?_⟩)
    have hb2 := (h.block N hNlt).trans hN2
    exact ⟨(Lib.cell_of_heap hb2 0).trans rfl, (Lib.cell_of_heap hb2 1).trans rfl, (Lib.cell_of_heap hb2 2).trans rfl, (Lib.cell_of_heap hb2 3).trans rfl, (Lib.cell_of_heap hb2 4).trans rfl, (Lib.cell_of_heap hb2 5).trans rfl⟩
  have sg0 : ∀ u : SW SS2, (u.x).cell? ⟨w.heap.size, 0, none⟩ = some (.int .i64 7) := fun u => by obtain ⟨x, hx⟩ := u; show x.cell? _ = _; rw [hSS2] at hx; exact sf0 ⟨x, hx.1⟩
  have sg1 : ∀ u : SW SS2, (u.x).cell? ⟨w.heap.size, 1, none⟩ = some (.int .i64 ch) := fun u => by obtain ⟨x, hx⟩ := u; show x.cell? _ = _; rw [hSS2] at hx; exact sf1 ⟨x, hx.1⟩
  have sg2 : ∀ u : SW SS2, (u.x).cell? ⟨w.heap.size, 2, none⟩ = some (.int .i64 0) := fun u => by obtain ⟨x, hx⟩ := u; show x.cell? _ = _; rw [hSS2] at hx; exact sf2 ⟨x, hx.1⟩
  have sg3 : ∀ u : SW SS2, (u.x).cell? ⟨w.heap.size, 3, none⟩ = some (.int .i64 sep) := fun u => by obtain ⟨x, hx⟩ := u; show x.cell? _ = _; rw [hSS2] at hx; exact sf3 ⟨x, hx.1⟩
  have sg4 : ∀ u : SW SS2, (u.x).cell? ⟨w.heap.size, 4, none⟩ = some (.string A) := fun u => by obtain ⟨x, hx⟩ := u; show x.cell? _ = _; rw [hSS2] at hx; exact sf4 ⟨x, hx.1⟩
  have sg5 : ∀ u : SW SS2, (u.x).cell? ⟨w.heap.size, 5, none⟩ = some (.string B) := fun u => by obtain ⟨x, hx⟩ := u; show x.cell? _ = _; rw [hSS2] at hx; exact sf5 ⟨x, hx.1⟩
  have sg6 : ∀ u : SW SS2, (u.x).cell? ⟨w.heap.size, 6, none⟩ = some (.string C) := fun u => by obtain ⟨x, hx⟩ := u; show x.cell? _ = _; rw [hSS2] at hx; exact sf6 ⟨x, hx.1⟩
  have sn0 : ∀ u : SW SS2, (u.x).cell? ⟨N, 0, none⟩ = some (.int .i64 0) := fun u => by obtain ⟨x, hx⟩ := u; show x.cell? _ = _; rw [hSS2] at hx; exact hx.2.1
  have sn1 : ∀ u : SW SS2, (u.x).cell? ⟨N, 1, none⟩ = some (.int .i64 11) := fun u => by obtain ⟨x, hx⟩ := u; show x.cell? _ = _; rw [hSS2] at hx; exact hx.2.2.1
  have sn2 : ∀ u : SW SS2, (u.x).cell? ⟨N, 2, none⟩ = some (.string ⟨#[]⟩) := fun u => by obtain ⟨x, hx⟩ := u; show x.cell? _ = _; rw [hSS2] at hx; exact hx.2.2.2.1
  have sn3 : ∀ u : SW SS2, (u.x).cell? ⟨N, 3, none⟩ = some (.string B) := fun u => by obtain ⟨x, hx⟩ := u; show x.cell? _ = _; rw [hSS2] at hx; exact hx.2.2.2.2.1
  have sn4 : ∀ u : SW SS2, (u.x).cell? ⟨N, 4, none⟩ = some (.string ⟨#[]⟩) := fun u => by obtain ⟨x, hx⟩ := u; show x.cell? _ = _; rw [hSS2] at hx; exact hx.2.2.2.2.2.1
  have sn5 : ∀ u : SW SS2, (u.x).cell? ⟨N, 5, none⟩ = some (.bool false) := fun u => by obtain ⟨x, hx⟩ := u; show x.cell? _ = _; rw [hSS2] at hx; exact hx.2.2.2.2.2.2
  clear hN2 hNlt hSS2
  try simp only [List.append]
  refine wp_region_pathL (last := 5) (S := fun w' => ∃ u : SW SS2, w' = u.x) (([0, 1, 2] : List Nat).map (fun i => (i, true)) ++ [(3, false), (4, false), (5, false)]) [0, 0, 2, 4, 9, 31] 86 hmix (by kernel_rfl) (by kernel_rfl) (by kernel_rfl) (by kernel_rfl) (by kernel_rfl) (by kernel_rfl) (by kernel_rfl) ⟨⟨_, HSS2.out _ (bdn (Below.refl X.heap.size X) 1)⟩, rfl⟩ ?_
  refine wpPath_quietL' _ _ (by kernel_rfl) ?_
  iterate 3 (refine wpQ_op rfl rfl fun K hK => ?_; go_big_quiet_op; (try refine ⟨_, fun _ => rfl, ?_⟩); refine hK _ ?_; clear hK K)
  refine wpQ_nil ?_
  generalize hW2 : ({ X with drawn := X.drawn + 1 } : World) = W2
  have hb2 : Below X.heap.size X W2 := by rw [← hW2]; exact bdn (Below.refl _ _) 1
  clear hW2
  refine tail_step rfl rfl fun K hK => ?_
  go_wp2_with (go_at_call 35; refine (text35 _ _ _).mono ?_; rintro r w3 ⟨rfl, hc3⟩)
  have hb3 := hb2.trans (hc3.mono hb2.size)
  refine hK _ _ (fun _ => ⟨⟨w3, HSS2.out _ hb3⟩, rfl⟩) ?_
  clear hK K
  try simp only [Act.put, List.setIfInBounds_toArray, List.set_cons_succ, List.set_cons_zero]
  refine tail_step rfl rfl fun K hK => ?_
  go_wp2_with fail
  refine hK _ _ (fun _ => ⟨⟨_, HSS2.out _ (hb3.alloc hb3.size _)⟩, rfl⟩) ?_
  clear hK K
  refine tail_step rfl rfl fun K hK => ?_
  go_wp2_with fail
  refine hK _ _ (fun h => absurd rfl h) ?_
  clear hK K
  refine path_end ?_
  go_wp2_with fail
  go_ret
  refine madeN (HBW.out.trans ((HPB.out _ _ HBX.out hb3).mono HBW.out.size)) ?_ (by rw [HLL.out]; rfl)
  rw [HLL.out]
  try rw [HA.out]
  try rw [HB.out]
  try rw [HC.out]
  simp [cellsN, meK, lkM, inO, inT, inL, InN.vals, ba_app]
set_option maxRecDepth 100000 in
set_option maxHeartbeats 8000000 in
theorem me_7_1 (ch sep : Int) (e : Nat) (he : e ≤ 131070) (a b c : Bs) (hch : ch = 0 ∨ ch = 1) (ha : a.length ≤ 100) (hb : b.length ≤ 100) (hc : c.length ≤ 100) (w : World) :
    Calls Tryz.prog 16 #[.agg #[.int .i64 7, .int .i64 ch, .int .i64 1, .int .i64 sep, strV a, strV b, strV c], .int .i64 e] w fun r w' => MadeN w (meK (e.testBit 5) (e.testBit 4) (oneC ch) (oddC ch) a b c 7 (1 : Int).toNat) r w' := by
  have H14 := Lib.hid (fun w => has14 e 5 32 rfl (by decide) (by decide) (by omega) w)
  have J14 := Lib.hid (fun w => has14 e 4 16 rfl (by decide) (by decide) (by omega) w)
  obtain ⟨del, hdel⟩ : ∃ d, d = e.testBit 5 := ⟨_, rfl⟩
  rw [← hdel] at H14 ⊢
  clear hdel
  obtain ⟨aut, haut⟩ : ∃ d, d = e.testBit 4 := ⟨_, rfl⟩
  rw [← haut] at J14 ⊢
  clear haut
  obtain ⟨A, hA⟩ : ∃ S : ByteArray, S = ⟨a.toArray⟩ := ⟨_, rfl⟩
  obtain ⟨B, hB⟩ : ∃ S : ByteArray, S = ⟨b.toArray⟩ := ⟨_, rfl⟩
  obtain ⟨C, hC⟩ : ∃ S : ByteArray, S = ⟨c.toArray⟩ := ⟨_, rfl⟩
  have zA : A.size ≤ 100 := by rw [hA]; show a.toArray.size ≤ _; simpa using ha
  have zB : B.size ≤ 100 := by rw [hB]; show b.toArray.size ≤ _; simpa using hb
  have zC : C.size ≤ 100 := by rw [hC]; show c.toArray.size ≤ _; simpa using hc
  obtain ⟨LL, hLL⟩ : ∃ LL, LL = meK del aut (oneC ch) (oddC ch) a b c 7 (1 : Int).toNat := ⟨_, rfl⟩
  rw [← hLL]
  simp only [strV]
  rw [← hA, ← hB, ← hC]
  have HA := Lib.hid hA
  have HB := Lib.hid hB
  have HC := Lib.hid hC
  have HLL := Lib.hid hLL
  clear hA hB hC hLL
  have HBD := Lib.hid (fun o => (Below.refl w.heap.size w).alloc (Nat.le_refl _) o)
  have hmix : Tryz.prog.follows .mixedOrders = true := by kernel_rfl
  go_enter Tryz.func16, Tryz.ntmps16
  go_upto_region 1 with fail
  generalize hW : w.alloc _ = W
  have hz0 : W.heap.size = w.heap.size + 1 := by rw [← hW]; simp
  have hbW : Below w.heap.size w W := by rw [← hW]; exact HBD.out _
  obtain ⟨SS, hSS⟩ : ∃ SS : World → Prop, SS = fun w' => C7 w' w.heap.size (.int .i64 7) (.int .i64 ch) (.int .i64 1) (.int .i64 sep) (.string A) (.string B) (.string C) := ⟨_, rfl⟩
  have HSS : Hid (∀ w', Below W.heap.size W w' → SS w') := by
    rw [hSS]
    refine Lib.hid (fun w' h => ?_)
    have hb : w'.heap[w.heap.size]? = W.heap[w.heap.size]? := h.block _ (by rw [hz0]; omega)
    rw [← hW] at hb
    have hb2 := hb.trans (heap_alloc_new w _)
    exact ⟨(Lib.cell_of_heap hb2 0).trans rfl, (Lib.cell_of_heap hb2 1).trans rfl, (Lib.cell_of_heap hb2 2).trans rfl, (Lib.cell_of_heap hb2 3).trans rfl, (Lib.cell_of_heap hb2 4).trans rfl, (Lib.cell_of_heap hb2 5).trans rfl, (Lib.cell_of_heap hb2 6).trans rfl⟩
  have sfa : ∀ x, SS x → C7 x w.heap.size (.int .i64 7) (.int .i64 ch) (.int .i64 1) (.int .i64 sep) (.string A) (.string B) (.string C) := by rw [hSS]; exact fun x h => h
  have sf0 : ∀ u : SW SS, (u.x).cell? ⟨w.heap.size, 0, none⟩ = some (.int .i64 7) := fun u => (sfa u.x u.h).1
  have sf1 : ∀ u : SW SS, (u.x).cell? ⟨w.heap.size, 1, none⟩ = some (.int .i64 ch) := fun u => (sfa u.x u.h).2.1
  have sf2 : ∀ u : SW SS, (u.x).cell? ⟨w.heap.size, 2, none⟩ = some (.int .i64 1) := fun u => (sfa u.x u.h).2.2.1
  have sf3 : ∀ u : SW SS, (u.x).cell? ⟨w.heap.size, 3, none⟩ = some (.int .i64 sep) := fun u => (sfa u.x u.h).2.2.2.1
  have sf4 : ∀ u : SW SS, (u.x).cell? ⟨w.heap.size, 4, none⟩ = some (.string A) := fun u => (sfa u.x u.h).2.2.2.2.1
  have sf5 : ∀ u : SW SS, (u.x).cell? ⟨w.heap.size, 5, none⟩ = some (.string B) := fun u => (sfa u.x u.h).2.2.2.2.2.1
  have sf6 : ∀ u : SW SS, (u.x).cell? ⟨w.heap.size, 6, none⟩ = some (.string C) := fun u => (sfa u.x u.h).2.2.2.2.2.2
  have HOP : Hid (∀ w', SS w' → C7 w' w.heap.size (.int .i64 7) (.int .i64 ch) (.int .i64 1) (.int .i64 sep) (.string A) (.string B) (.string C)) := by rw [hSS]; exact Lib.hid (fun w' h => h)
  obtain ⟨e0, e1, e2, e3, e4, e5, e6⟩ := HOP.out W (HSS.out W (Below.refl _ _))
  have HBW := Lib.hid hbW
  have HZ0 := Lib.hid hz0
  clear hW hbW hz0 HBD hSS sfa
  have t14 : True := trivial
  have HPB : Hid (∀ w' w'', Below W.heap.size W w' → Below w'.heap.size w' w'' → Below W.heap.size W w'') := Lib.hid (fun w' w'' h h2 => h.trans (h2.mono h.size))
  have hb0 : Below W.heap.size W W := Below.refl _ _
  go_upto_region 23 with (first | (clear t14; go_at_call 14; refine (H14.out _).mono ?_; rintro e w' ⟨rfl, rfl⟩) | (go_at_call 14; refine (J14.out _).mono ?_; rintro e w' ⟨rfl, rfl⟩) | (go_at_call 36; refine (link36 _ _ _).mono ?_; rintro r w36 ⟨rfl, hc36⟩; have hb36 := HPB.out _ _ (by assumption) hc36; clear hc36; obtain ⟨g360, g361, g362, g363, g364, g365, g366⟩ := HOP.out w36 (HSS.out w36 hb36)))
  generalize hX : World.alloc w36 _ = X
  have hbX : Below W.heap.size W X := by rw [← hX]; exact hb36.alloc hb36.size _
  have hN : X.heap[w36.heap.size]? = some (.cells #[.int .i64 0, .int .i64 11, .string ⟨#[]⟩, .string B, .string ⟨#[]⟩, .bool false] 52 (0, 0)) := by rw [← hX]; exact heap_alloc_new w36 _
  have hge : W.heap.size ≤ w36.heap.size := hb36.size
  have hne : ¬ (w.heap.size = w36.heap.size) := by have := HZ0.out; omega
  have hne2 : ¬ (w36.heap.size = w.heap.size) := fun h => hne h.symm
  generalize w36.heap.size = N at hN hge hne hne2 ⊢
  have n0 : X.cell? ⟨N, 0, none⟩ = some (.int .i64 0) := (Lib.cell_of_heap hN 0).trans rfl
  have n1 : X.cell? ⟨N, 1, none⟩ = some (.int .i64 11) := (Lib.cell_of_heap hN 1).trans rfl
  have n2 : X.cell? ⟨N, 2, none⟩ = some (.string ⟨#[]⟩) := (Lib.cell_of_heap hN 2).trans rfl
  have n3 : X.cell? ⟨N, 3, none⟩ = some (.string B) := (Lib.cell_of_heap hN 3).trans rfl
  have n4 : X.cell? ⟨N, 4, none⟩ = some (.string ⟨#[]⟩) := (Lib.cell_of_heap hN 4).trans rfl
  have n5 : X.cell? ⟨N, 5, none⟩ = some (.bool false) := (Lib.cell_of_heap hN 5).trans rfl
  have f4 : X.frozen? ⟨N, 4, none⟩ = false := Lib.frozen_of_heap hN 4
  have f5 : X.frozen? ⟨N, 5, none⟩ = false := Lib.frozen_of_heap hN 5
  obtain ⟨x0, x1, x2, x3, x4, x5, x6⟩ := HOP.out X (HSS.out X hbX)
  have HN := Lib.hid hN
  have HBX := Lib.hid hbX
  have HGE := Lib.hid hge
  clear hN hbX hge hX
  go_upto_region 25 with fail
  obtain ⟨Y, hY⟩ : ∃ Y, Y = ((X.setCell ⟨N, 4, none⟩ (.string C)).setCell ⟨N, 5, none⟩ (.bool true)) := ⟨_, rfl⟩
  rw [← hY]
  have hbY : Below W.heap.size W Y := by rw [hY]; exact (HBX.out.setCell (p := ⟨N, 4, none⟩) HGE.out _).setCell (p := ⟨N, 5, none⟩) HGE.out _
  have hN2 : Y.heap[N]? = some (.cells #[.int .i64 0, .int .i64 11, .string ⟨#[]⟩, .string B, .string C, .bool true] 52 (0, 0)) := by rw [hY]; exact cells_set (cells_set HN.out 4 _) 5 _
  have HBX := Lib.hid hbY
  clear hY hbY n0 n1 n2 n3 n4 n5 x0 x1 x2 x3 x4 x5 x6 f4 f5
  obtain ⟨SS2, hSS2⟩ : ∃ SS2 : World → Prop, SS2 = fun w' => SS w' ∧ w'.cell? ⟨N, 0, none⟩ = some (.int .i64 0) ∧ w'.cell? ⟨N, 1, none⟩ = some (.int .i64 11) ∧ w'.cell? ⟨N, 2, none⟩ = some (.string ⟨#[]⟩) ∧ w'.cell? ⟨N, 3, none⟩ = some (.string B) ∧ w'.cell? ⟨N, 4, none⟩ = some (.string C) ∧ w'.cell? ⟨N, 5, none⟩ = some (.bool true) := ⟨_, rfl⟩
  have hNlt : N < Y.heap.size := (Array.getElem?_eq_some_iff.1 hN2).1
  have HSS2 : Hid (∀ w', Below Y.heap.size Y w' → SS2 w') := by
    rw [hSS2]
    refine Lib.hid (fun w' h => ⟨HSS.out w' (HPB.out _ _ HBX.out h), ?_⟩)
    have hb2 := (h.block N hNlt).trans hN2
    exact ⟨(Lib.cell_of_heap hb2 0).trans rfl, (Lib.cell_of_heap hb2 1).trans rfl, (Lib.cell_of_heap hb2 2).trans rfl, (Lib.cell_of_heap hb2 3).trans rfl, (Lib.cell_of_heap hb2 4).trans rfl, (Lib.cell_of_heap hb2 5).trans rfl⟩
  have sg0 : ∀ u : SW SS2, (u.x).cell? ⟨w.heap.size, 0, none⟩ = some (.int .i64 7) := fun u => by obtain ⟨x, hx⟩ := u; show x.cell? _ = _; rw [hSS2] at hx; exact sf0 ⟨x, hx.1⟩
  have sg1 : ∀ u : SW SS2, (u.x).cell? ⟨w.heap.size, 1, none⟩ = some (.int .i64 ch) := fun u => by obtain ⟨x, hx⟩ := u; show x.cell? _ = _; rw [hSS2] at hx; exact sf1 ⟨x, hx.1⟩
  have sg2 : ∀ u : SW SS2, (u.x).cell? ⟨w.heap.size, 2, none⟩ = some (.int .i64 1) := fun u => by obtain ⟨x, hx⟩ := u; show x.cell? _ = _; rw [hSS2] at hx; exact sf2 ⟨x, hx.1⟩
  have sg3 : ∀ u : SW SS2, (u.x).cell? ⟨w.heap.size, 3, none⟩ = some (.int .i64 sep) := fun u => by obtain ⟨x, hx⟩ := u; show x.cell? _ = _; rw [hSS2] at hx; exact sf3 ⟨x, hx.1⟩
  have sg4 : ∀ u : SW SS2, (u.x).cell? ⟨w.heap.size, 4, none⟩ = some (.string A) := fun u => by obtain ⟨x, hx⟩ := u; show x.cell? _ = _; rw [hSS2] at hx; exact sf4 ⟨x, hx.1⟩
  have sg5 : ∀ u : SW SS2, (u.x).cell? ⟨w.heap.size, 5, none⟩ = some (.string B) := fun u => by obtain ⟨x, hx⟩ := u; show x.cell? _ = _; rw [hSS2] at hx; exact sf5 ⟨x, hx.1⟩
  have sg6 : ∀ u : SW SS2, (u.x).cell? ⟨w.heap.size, 6, none⟩ = some (.string C) := fun u => by obtain ⟨x, hx⟩ := u; show x.cell? _ = _; rw [hSS2] at hx; exact sf6 ⟨x, hx.1⟩
  have sn0 : ∀ u : SW SS2, (u.x).cell? ⟨N, 0, none⟩ = some (.int .i64 0) := fun u => by obtain ⟨x, hx⟩ := u; show x.cell? _ = _; rw [hSS2] at hx; exact hx.2.1
  have sn1 : ∀ u : SW SS2, (u.x).cell? ⟨N, 1, none⟩ = some (.int .i64 11) := fun u => by obtain ⟨x, hx⟩ := u; show x.cell? _ = _; rw [hSS2] at hx; exact hx.2.2.1
  have sn2 : ∀ u : SW SS2, (u.x).cell? ⟨N, 2, none⟩ = some (.string ⟨#[]⟩) := fun u => by obtain ⟨x, hx⟩ := u; show x.cell? _ = _; rw [hSS2] at hx; exact hx.2.2.2.1
  have sn3 : ∀ u : SW SS2, (u.x).cell? ⟨N, 3, none⟩ = some (.string B) := fun u => by obtain ⟨x, hx⟩ := u; show x.cell? _ = _; rw [hSS2] at hx; exact hx.2.2.2.2.1
  have sn4 : ∀ u : SW SS2, (u.x).cell? ⟨N, 4, none⟩ = some (.string C) := fun u => by obtain ⟨x, hx⟩ := u; show x.cell? _ = _; rw [hSS2] at hx; exact hx.2.2.2.2.2.1
  have sn5 : ∀ u : SW SS2, (u.x).cell? ⟨N, 5, none⟩ = some (.bool true) := fun u => by obtain ⟨x, hx⟩ := u; show x.cell? _ = _; rw [hSS2] at hx; exact hx.2.2.2.2.2.2
  clear hN2 hNlt hSS2
  try simp only [List.append]
  refine wp_region_pathL (last := 5) (S := fun w' => ∃ u : SW SS2, w' = u.x) (([0, 1, 2] : List Nat).map (fun i => (i, true)) ++ [(3, false), (4, false), (5, false)]) [0, 0, 2, 4, 9, 31] 86 hmix (by kernel_rfl) (by kernel_rfl) (by kernel_rfl) (by kernel_rfl) (by kernel_rfl) (by kernel_rfl) (by kernel_rfl) ⟨⟨_, HSS2.out _ (bdn (Below.refl Y.heap.size Y) 1)⟩, rfl⟩ ?_
  refine wpPath_quietL' _ _ (by kernel_rfl) ?_
  iterate 3 (refine wpQ_op rfl rfl fun K hK => ?_; go_big_quiet_op; (try refine ⟨_, fun _ => rfl, ?_⟩); refine hK _ ?_; clear hK K)
  refine wpQ_nil ?_
  generalize hW2 : ({ Y with drawn := Y.drawn + 1 } : World) = W2
  have hb2 : Below Y.heap.size Y W2 := by rw [← hW2]; exact bdn (Below.refl _ _) 1
  clear hW2
  refine tail_step rfl rfl fun K hK => ?_
  go_wp2_with (go_at_call 35; refine (text35 _ _ _).mono ?_; rintro r w3 ⟨rfl, hc3⟩)
  have hb3 := hb2.trans (hc3.mono hb2.size)
  refine hK _ _ (fun _ => ⟨⟨w3, HSS2.out _ hb3⟩, rfl⟩) ?_
  clear hK K
  try simp only [Act.put, List.setIfInBounds_toArray, List.set_cons_succ, List.set_cons_zero]
  refine tail_step rfl rfl fun K hK => ?_
  go_wp2_with fail
  refine hK _ _ (fun _ => ⟨⟨_, HSS2.out _ (hb3.alloc hb3.size _)⟩, rfl⟩) ?_
  clear hK K
  refine tail_step rfl rfl fun K hK => ?_
  go_wp2_with fail
  refine hK _ _ (fun h => absurd rfl h) ?_
  clear hK K
  refine path_end ?_
  go_wp2_with fail
  go_ret
  refine madeN (HBW.out.trans ((HPB.out _ _ HBX.out hb3).mono HBW.out.size)) ?_ (by rw [HLL.out]; rfl)
  rw [HLL.out]
  try rw [HA.out]
  try rw [HB.out]
  try rw [HC.out]
  simp [cellsN, meK, lkM, inO, inT, inL, InN.vals, ba_app]
set_option maxRecDepth 100000 in
set_option maxHeartbeats 8000000 in
theorem me_7_2 (ch sep : Int) (e : Nat) (he : e ≤ 131070) (a b c : Bs) (hch : ch = 0 ∨ ch = 1) (ha : a.length ≤ 100) (hb : b.length ≤ 100) (hc : c.length ≤ 100) (w : World) :
    Calls Tryz.prog 16 #[.agg #[.int .i64 7, .int .i64 ch, .int .i64 2, .int .i64 sep, strV a, strV b, strV c], .int .i64 e] w fun r w' => MadeN w (meK (e.testBit 5) (e.testBit 4) (oneC ch) (oddC ch) a b c 7 (2 : Int).toNat) r w' := by
  have H14 := Lib.hid (fun w => has14 e 5 32 rfl (by decide) (by decide) (by omega) w)
  have J14 := Lib.hid (fun w => has14 e 4 16 rfl (by decide) (by decide) (by omega) w)
  obtain ⟨del, hdel⟩ : ∃ d, d = e.testBit 5 := ⟨_, rfl⟩
  rw [← hdel] at H14 ⊢
  clear hdel
  obtain ⟨aut, haut⟩ : ∃ d, d = e.testBit 4 := ⟨_, rfl⟩
  rw [← haut] at J14 ⊢
  clear haut
  obtain ⟨A, hA⟩ : ∃ S : ByteArray, S = ⟨a.toArray⟩ := ⟨_, rfl⟩
  obtain ⟨B, hB⟩ : ∃ S : ByteArray, S = ⟨b.toArray⟩ := ⟨_, rfl⟩
  obtain ⟨C, hC⟩ : ∃ S : ByteArray, S = ⟨c.toArray⟩ := ⟨_, rfl⟩
  have zA : A.size ≤ 100 := by rw [hA]; show a.toArray.size ≤ _; simpa using ha
  have zB : B.size ≤ 100 := by rw [hB]; show b.toArray.size ≤ _; simpa using hb
  have zC : C.size ≤ 100 := by rw [hC]; show c.toArray.size ≤ _; simpa using hc
  obtain ⟨LL, hLL⟩ : ∃ LL, LL = meK del aut (oneC ch) (oddC ch) a b c 7 (2 : Int).toNat := ⟨_, rfl⟩
  rw [← hLL]
  simp only [strV]
  rw [← hA, ← hB, ← hC]
  have HA := Lib.hid hA
  have HB := Lib.hid hB
  have HC := Lib.hid hC
  have HLL := Lib.hid hLL
  clear hA hB hC hLL
  have HBD := Lib.hid (fun o => (Below.refl w.heap.size w).alloc (Nat.le_refl _) o)
  have hmix : Tryz.prog.follows .mixedOrders = true := by kernel_rfl
  go_enter Tryz.func16, Tryz.ntmps16
  go_upto_region 1 with fail
  generalize hW : w.alloc _ = W
  have hz0 : W.heap.size = w.heap.size + 1 := by rw [← hW]; simp
  have hbW : Below w.heap.size w W := by rw [← hW]; exact HBD.out _
  obtain ⟨SS, hSS⟩ : ∃ SS : World → Prop, SS = fun w' => C7 w' w.heap.size (.int .i64 7) (.int .i64 ch) (.int .i64 2) (.int .i64 sep) (.string A) (.string B) (.string C) := ⟨_, rfl⟩
  have HSS : Hid (∀ w', Below W.heap.size W w' → SS w') := by
    rw [hSS]
    refine Lib.hid (fun w' h => ?_)
    have hb : w'.heap[w.heap.size]? = W.heap[w.heap.size]? := h.block _ (by rw [hz0]; omega)
    rw [← hW] at hb
    have hb2 := hb.trans (heap_alloc_new w _)
    exact ⟨(Lib.cell_of_heap hb2 0).trans rfl, (Lib.cell_of_heap hb2 1).trans rfl, (Lib.cell_of_heap hb2 2).trans rfl, (Lib.cell_of_heap hb2 3).trans rfl, (Lib.cell_of_heap hb2 4).trans rfl, (Lib.cell_of_heap hb2 5).trans rfl, (Lib.cell_of_heap hb2 6).trans rfl⟩
  have sfa : ∀ x, SS x → C7 x w.heap.size (.int .i64 7) (.int .i64 ch) (.int .i64 2) (.int .i64 sep) (.string A) (.string B) (.string C) := by rw [hSS]; exact fun x h => h
  have sf0 : ∀ u : SW SS, (u.x).cell? ⟨w.heap.size, 0, none⟩ = some (.int .i64 7) := fun u => (sfa u.x u.h).1
  have sf1 : ∀ u : SW SS, (u.x).cell? ⟨w.heap.size, 1, none⟩ = some (.int .i64 ch) := fun u => (sfa u.x u.h).2.1
  have sf2 : ∀ u : SW SS, (u.x).cell? ⟨w.heap.size, 2, none⟩ = some (.int .i64 2) := fun u => (sfa u.x u.h).2.2.1
  have sf3 : ∀ u : SW SS, (u.x).cell? ⟨w.heap.size, 3, none⟩ = some (.int .i64 sep) := fun u => (sfa u.x u.h).2.2.2.1
  have sf4 : ∀ u : SW SS, (u.x).cell? ⟨w.heap.size, 4, none⟩ = some (.string A) := fun u => (sfa u.x u.h).2.2.2.2.1
  have sf5 : ∀ u : SW SS, (u.x).cell? ⟨w.heap.size, 5, none⟩ = some (.string B) := fun u => (sfa u.x u.h).2.2.2.2.2.1
  have sf6 : ∀ u : SW SS, (u.x).cell? ⟨w.heap.size, 6, none⟩ = some (.string C) := fun u => (sfa u.x u.h).2.2.2.2.2.2
  have HOP : Hid (∀ w', SS w' → C7 w' w.heap.size (.int .i64 7) (.int .i64 ch) (.int .i64 2) (.int .i64 sep) (.string A) (.string B) (.string C)) := by rw [hSS]; exact Lib.hid (fun w' h => h)
  obtain ⟨e0, e1, e2, e3, e4, e5, e6⟩ := HOP.out W (HSS.out W (Below.refl _ _))
  have HBW := Lib.hid hbW
  have HZ0 := Lib.hid hz0
  clear hW hbW hz0 HBD hSS sfa
  have t14 : True := trivial
  have HPB : Hid (∀ w' w'', Below W.heap.size W w' → Below w'.heap.size w' w'' → Below W.heap.size W w'') := Lib.hid (fun w' w'' h h2 => h.trans (h2.mono h.size))
  have hb0 : Below W.heap.size W W := Below.refl _ _
  go_upto_region 23 with (first | (clear t14; go_at_call 14; refine (H14.out _).mono ?_; rintro e w' ⟨rfl, rfl⟩) | (go_at_call 14; refine (J14.out _).mono ?_; rintro e w' ⟨rfl, rfl⟩) | (go_at_call 36; refine (link36 _ _ _).mono ?_; rintro r w36 ⟨rfl, hc36⟩; have hb36 := HPB.out _ _ (by assumption) hc36; clear hc36; obtain ⟨g360, g361, g362, g363, g364, g365, g366⟩ := HOP.out w36 (HSS.out w36 hb36)))
  generalize hX : World.alloc w36 _ = X
  have hbX : Below W.heap.size W X := by rw [← hX]; exact hb36.alloc hb36.size _
  have hN : X.heap[w36.heap.size]? = some (.cells #[.int .i64 0, .int .i64 11, .string ⟨#[]⟩, .string B, .string ⟨#[]⟩, .bool false] 52 (0, 0)) := by rw [← hX]; exact heap_alloc_new w36 _
  have hge : W.heap.size ≤ w36.heap.size := hb36.size
  have hne : ¬ (w.heap.size = w36.heap.size) := by have := HZ0.out; omega
  have hne2 : ¬ (w36.heap.size = w.heap.size) := fun h => hne h.symm
  generalize w36.heap.size = N at hN hge hne hne2 ⊢
  have n0 : X.cell? ⟨N, 0, none⟩ = some (.int .i64 0) := (Lib.cell_of_heap hN 0).trans rfl
  have n1 : X.cell? ⟨N, 1, none⟩ = some (.int .i64 11) := (Lib.cell_of_heap hN 1).trans rfl
  have n2 : X.cell? ⟨N, 2, none⟩ = some (.string ⟨#[]⟩) := (Lib.cell_of_heap hN 2).trans rfl
  have n3 : X.cell? ⟨N, 3, none⟩ = some (.string B) := (Lib.cell_of_heap hN 3).trans rfl
  have n4 : X.cell? ⟨N, 4, none⟩ = some (.string ⟨#[]⟩) := (Lib.cell_of_heap hN 4).trans rfl
  have n5 : X.cell? ⟨N, 5, none⟩ = some (.bool false) := (Lib.cell_of_heap hN 5).trans rfl
  have f4 : X.frozen? ⟨N, 4, none⟩ = false := Lib.frozen_of_heap hN 4
  have f5 : X.frozen? ⟨N, 5, none⟩ = false := Lib.frozen_of_heap hN 5
  obtain ⟨x0, x1, x2, x3, x4, x5, x6⟩ := HOP.out X (HSS.out X hbX)
  have HN := Lib.hid hN
  have HBX := Lib.hid hbX
  have HGE := Lib.hid hge
  clear hN hbX hge hX
  go_upto_region 25 with fail
  obtain ⟨Y, hY⟩ : ∃ Y, Y = ((X.setCell ⟨N, 4, none⟩ (.string C)).setCell ⟨N, 5, none⟩ (.bool true)) := ⟨_, rfl⟩
  rw [← hY]
  have hbY : Below W.heap.size W Y := by rw [hY]; exact (HBX.out.setCell (p := ⟨N, 4, none⟩) HGE.out _).setCell (p := ⟨N, 5, none⟩) HGE.out _
  have hN2 : Y.heap[N]? = some (.cells #[.int .i64 0, .int .i64 11, .string ⟨#[]⟩, .string B, .string C, .bool true] 52 (0, 0)) := by rw [hY]; exact cells_set (cells_set HN.out 4 _) 5 _
  have HBX := Lib.hid hbY
  clear hY hbY n0 n1 n2 n3 n4 n5 x0 x1 x2 x3 x4 x5 x6 f4 f5
  obtain ⟨SS2, hSS2⟩ : ∃ SS2 : World → Prop, SS2 = fun w' => SS w' ∧ w'.cell? ⟨N, 0, none⟩ = some (.int .i64 0) ∧ w'.cell? ⟨N, 1, none⟩ = some (.int .i64 11) ∧ w'.cell? ⟨N, 2, none⟩ = some (.string ⟨#[]⟩) ∧ w'.cell? ⟨N, 3, none⟩ = some (.string B) ∧ w'.cell? ⟨N, 4, none⟩ = some (.string C) ∧ w'.cell? ⟨N, 5, none⟩ = some (.bool true) := ⟨_, rfl⟩
  have hNlt : N < Y.heap.size := (Array.getElem?_eq_some_iff.1 hN2).1
  have HSS2 : Hid (∀ w', Below Y.heap.size Y w' → SS2 w') := by
    rw [hSS2]
    refine Lib.hid (fun w' h => ⟨HSS.out w' (HPB.out _ _ HBX.out h), ?_⟩)
    have hb2 := (h.block N hNlt).trans hN2
    exact ⟨(Lib.cell_of_heap hb2 0).trans rfl, (Lib.cell_of_heap hb2 1).trans rfl, (Lib.cell_of_heap hb2 2).trans rfl, (Lib.cell_of_heap hb2 3).trans rfl, (Lib.cell_of_heap hb2 4).trans rfl, (Lib.cell_of_heap hb2 5).trans rfl⟩
  have sg0 : ∀ u : SW SS2, (u.x).cell? ⟨w.heap.size, 0, none⟩ = some (.int .i64 7) := fun u => by obtain ⟨x, hx⟩ := u; show x.cell? _ = _; rw [hSS2] at hx; exact sf0 ⟨x, hx.1⟩
  have sg1 : ∀ u : SW SS2, (u.x).cell? ⟨w.heap.size, 1, none⟩ = some (.int .i64 ch) := fun u => by obtain ⟨x, hx⟩ := u; show x.cell? _ = _; rw [hSS2] at hx; exact sf1 ⟨x, hx.1⟩
  have sg2 : ∀ u : SW SS2, (u.x).cell? ⟨w.heap.size, 2, none⟩ = some (.int .i64 2) := fun u => by obtain ⟨x, hx⟩ := u; show x.cell? _ = _; rw [hSS2] at hx; exact sf2 ⟨x, hx.1⟩
  have sg3 : ∀ u : SW SS2, (u.x).cell? ⟨w.heap.size, 3, none⟩ = some (.int .i64 sep) := fun u => by obtain ⟨x, hx⟩ := u; show x.cell? _ = _; rw [hSS2] at hx; exact sf3 ⟨x, hx.1⟩
  have sg4 : ∀ u : SW SS2, (u.x).cell? ⟨w.heap.size, 4, none⟩ = some (.string A) := fun u => by obtain ⟨x, hx⟩ := u; show x.cell? _ = _; rw [hSS2] at hx; exact sf4 ⟨x, hx.1⟩
  have sg5 : ∀ u : SW SS2, (u.x).cell? ⟨w.heap.size, 5, none⟩ = some (.string B) := fun u => by obtain ⟨x, hx⟩ := u; show x.cell? _ = _; rw [hSS2] at hx; exact sf5 ⟨x, hx.1⟩
  have sg6 : ∀ u : SW SS2, (u.x).cell? ⟨w.heap.size, 6, none⟩ = some (.string C) := fun u => by obtain ⟨x, hx⟩ := u; show x.cell? _ = _; rw [hSS2] at hx; exact sf6 ⟨x, hx.1⟩
  have sn0 : ∀ u : SW SS2, (u.x).cell? ⟨N, 0, none⟩ = some (.int .i64 0) := fun u => by obtain ⟨x, hx⟩ := u; show x.cell? _ = _; rw [hSS2] at hx; exact hx.2.1
  have sn1 : ∀ u : SW SS2, (u.x).cell? ⟨N, 1, none⟩ = some (.int .i64 11) := fun u => by obtain ⟨x, hx⟩ := u; show x.cell? _ = _; rw [hSS2] at hx; exact hx.2.2.1
  have sn2 : ∀ u : SW SS2, (u.x).cell? ⟨N, 2, none⟩ = some (.string ⟨#[]⟩) := fun u => by obtain ⟨x, hx⟩ := u; show x.cell? _ = _; rw [hSS2] at hx; exact hx.2.2.2.1
  have sn3 : ∀ u : SW SS2, (u.x).cell? ⟨N, 3, none⟩ = some (.string B) := fun u => by obtain ⟨x, hx⟩ := u; show x.cell? _ = _; rw [hSS2] at hx; exact hx.2.2.2.2.1
  have sn4 : ∀ u : SW SS2, (u.x).cell? ⟨N, 4, none⟩ = some (.string C) := fun u => by obtain ⟨x, hx⟩ := u; show x.cell? _ = _; rw [hSS2] at hx; exact hx.2.2.2.2.2.1
  have sn5 : ∀ u : SW SS2, (u.x).cell? ⟨N, 5, none⟩ = some (.bool true) := fun u => by obtain ⟨x, hx⟩ := u; show x.cell? _ = _; rw [hSS2] at hx; exact hx.2.2.2.2.2.2
  clear hN2 hNlt hSS2
  try simp only [List.append]
  refine wp_region_pathL (last := 5) (S := fun w' => ∃ u : SW SS2, w' = u.x) (([0, 1, 2] : List Nat).map (fun i => (i, true)) ++ [(3, false), (4, false), (5, false)]) [0, 0, 2, 4, 9, 31] 86 hmix (by kernel_rfl) (by kernel_rfl) (by kernel_rfl) (by kernel_rfl) (by kernel_rfl) (by kernel_rfl) (by kernel_rfl) ⟨⟨_, HSS2.out _ (bdn (Below.refl Y.heap.size Y) 1)⟩, rfl⟩ ?_
  refine wpPath_quietL' _ _ (by kernel_rfl) ?_
  iterate 3 (refine wpQ_op rfl rfl fun K hK => ?_; go_big_quiet_op; (try refine ⟨_, fun _ => rfl, ?_⟩); refine hK _ ?_; clear hK K)
  refine wpQ_nil ?_
  generalize hW2 : ({ Y with drawn := Y.drawn + 1 } : World) = W2
  have hb2 : Below Y.heap.size Y W2 := by rw [← hW2]; exact bdn (Below.refl _ _) 1
  clear hW2
  refine tail_step rfl rfl fun K hK => ?_
  go_wp2_with (go_at_call 35; refine (text35 _ _ _).mono ?_; rintro r w3 ⟨rfl, hc3⟩)
  have hb3 := hb2.trans (hc3.mono hb2.size)
  refine hK _ _ (fun _ => ⟨⟨w3, HSS2.out _ hb3⟩, rfl⟩) ?_
  clear hK K
  try simp only [Act.put, List.setIfInBounds_toArray, List.set_cons_succ, List.set_cons_zero]
  refine tail_step rfl rfl fun K hK => ?_
  go_wp2_with fail
  refine hK _ _ (fun _ => ⟨⟨_, HSS2.out _ (hb3.alloc hb3.size _)⟩, rfl⟩) ?_
  clear hK K
  refine tail_step rfl rfl fun K hK => ?_
  go_wp2_with fail
  refine hK _ _ (fun h => absurd rfl h) ?_
  clear hK K
  refine path_end ?_
  go_wp2_with fail
  go_ret
  refine madeN (HBW.out.trans ((HPB.out _ _ HBX.out hb3).mono HBW.out.size)) ?_ (by rw [HLL.out]; rfl)
  rw [HLL.out]
  try rw [HA.out]
  try rw [HB.out]
  try rw [HC.out]
  simp [cellsN, meK, lkM, inO, inT, inL, InN.vals, ba_app]
set_option maxRecDepth 100000 in
set_option maxHeartbeats 8000000 in
theorem me_7_3 (ch sep : Int) (e : Nat) (he : e ≤ 131070) (a b c : Bs) (hch : ch = 0 ∨ ch = 1) (ha : a.length ≤ 100) (hb : b.length ≤ 100) (hc : c.length ≤ 100) (w : World) :
    Calls Tryz.prog 16 #[.agg #[.int .i64 7, .int .i64 ch, .int .i64 3, .int .i64 sep, strV a, strV b, strV c], .int .i64 e] w fun r w' => MadeN w (meK (e.testBit 5) (e.testBit 4) (oneC ch) (oddC ch) a b c 7 (3 : Int).toNat) r w' := by
  have H14 := Lib.hid (fun w => has14 e 5 32 rfl (by decide) (by decide) (by omega) w)
  have J14 := Lib.hid (fun w => has14 e 4 16 rfl (by decide) (by decide) (by omega) w)
  obtain ⟨del, hdel⟩ : ∃ d, d = e.testBit 5 := ⟨_, rfl⟩
  rw [← hdel] at H14 ⊢
  clear hdel
  obtain ⟨aut, haut⟩ : ∃ d, d = e.testBit 4 := ⟨_, rfl⟩
  rw [← haut] at J14 ⊢
  clear haut
  obtain ⟨A, hA⟩ : ∃ S : ByteArray, S = ⟨a.toArray⟩ := ⟨_, rfl⟩
  obtain ⟨B, hB⟩ : ∃ S : ByteArray, S = ⟨b.toArray⟩ := ⟨_, rfl⟩
  obtain ⟨C, hC⟩ : ∃ S : ByteArray, S = ⟨c.toArray⟩ := ⟨_, rfl⟩
  have zA : A.size ≤ 100 := by rw [hA]; show a.toArray.size ≤ _; simpa using ha
  have zB : B.size ≤ 100 := by rw [hB]; show b.toArray.size ≤ _; simpa using hb
  have zC : C.size ≤ 100 := by rw [hC]; show c.toArray.size ≤ _; simpa using hc
  obtain ⟨LL, hLL⟩ : ∃ LL, LL = meK del aut (oneC ch) (oddC ch) a b c 7 (3 : Int).toNat := ⟨_, rfl⟩
  rw [← hLL]
  simp only [strV]
  rw [← hA, ← hB, ← hC]
  have HA := Lib.hid hA
  have HB := Lib.hid hB
  have HC := Lib.hid hC
  have HLL := Lib.hid hLL
  clear hA hB hC hLL
  have HBD := Lib.hid (fun o => (Below.refl w.heap.size w).alloc (Nat.le_refl _) o)
  have hmix : Tryz.prog.follows .mixedOrders = true := by kernel_rfl
  go_enter Tryz.func16, Tryz.ntmps16
  go_upto_region 1 with fail
  generalize hW : w.alloc _ = W
  have hz0 : W.heap.size = w.heap.size + 1 := by rw [← hW]; simp
  have hbW : Below w.heap.size w W := by rw [← hW]; exact HBD.out _
  obtain ⟨SS, hSS⟩ : ∃ SS : World → Prop, SS = fun w' => C7 w' w.heap.size (.int .i64 7) (.int .i64 ch) (.int .i64 3) (.int .i64 sep) (.string A) (.string B) (.string C) := ⟨_, rfl⟩
  have HSS : Hid (∀ w', Below W.heap.size W w' → SS w') := by
    rw [hSS]
    refine Lib.hid (fun w' h => ?_)
    have hb : w'.heap[w.heap.size]? = W.heap[w.heap.size]? := h.block _ (by rw [hz0]; omega)
    rw [← hW] at hb
    have hb2 := hb.trans (heap_alloc_new w _)
    exact ⟨(Lib.cell_of_heap hb2 0).trans rfl, (Lib.cell_of_heap hb2 1).trans rfl, (Lib.cell_of_heap hb2 2).trans rfl, (Lib.cell_of_heap hb2 3).trans rfl, (Lib.cell_of_heap hb2 4).trans rfl, (Lib.cell_of_heap hb2 5).trans rfl, (Lib.cell_of_heap hb2 6).trans rfl⟩
  have sfa : ∀ x, SS x → C7 x w.heap.size (.int .i64 7) (.int .i64 ch) (.int .i64 3) (.int .i64 sep) (.string A) (.string B) (.string C) := by rw [hSS]; exact fun x h => h
  have sf0 : ∀ u : SW SS, (u.x).cell? ⟨w.heap.size, 0, none⟩ = some (.int .i64 7) := fun u => (sfa u.x u.h).1
  have sf1 : ∀ u : SW SS, (u.x).cell? ⟨w.heap.size, 1, none⟩ = some (.int .i64 ch) := fun u => (sfa u.x u.h).2.1
  have sf2 : ∀ u : SW SS, (u.x).cell? ⟨w.heap.size, 2, none⟩ = some (.int .i64 3) := fun u => (sfa u.x u.h).2.2.1
  have sf3 : ∀ u : SW SS, (u.x).cell? ⟨w.heap.size, 3, none⟩ = some (.int .i64 sep) := fun u => (sfa u.x u.h).2.2.2.1
  have sf4 : ∀ u : SW SS, (u.x).cell? ⟨w.heap.size, 4, none⟩ = some (.string A) := fun u => (sfa u.x u.h).2.2.2.2.1
  have sf5 : ∀ u : SW SS, (u.x).cell? ⟨w.heap.size, 5, none⟩ = some (.string B) := fun u => (sfa u.x u.h).2.2.2.2.2.1
  have sf6 : ∀ u : SW SS, (u.x).cell? ⟨w.heap.size, 6, none⟩ = some (.string C) := fun u => (sfa u.x u.h).2.2.2.2.2.2
  have HOP : Hid (∀ w', SS w' → C7 w' w.heap.size (.int .i64 7) (.int .i64 ch) (.int .i64 3) (.int .i64 sep) (.string A) (.string B) (.string C)) := by rw [hSS]; exact Lib.hid (fun w' h => h)
  obtain ⟨e0, e1, e2, e3, e4, e5, e6⟩ := HOP.out W (HSS.out W (Below.refl _ _))
  have HBW := Lib.hid hbW
  have HZ0 := Lib.hid hz0
  clear hW hbW hz0 HBD hSS sfa
  have t14 : True := trivial
  have HPB : Hid (∀ w' w'', Below W.heap.size W w' → Below w'.heap.size w' w'' → Below W.heap.size W w'') := Lib.hid (fun w' w'' h h2 => h.trans (h2.mono h.size))
  have hb0 : Below W.heap.size W W := Below.refl _ _
  go_upto_region 23 with (first | (clear t14; go_at_call 14; refine (H14.out _).mono ?_; rintro e w' ⟨rfl, rfl⟩) | (go_at_call 14; refine (J14.out _).mono ?_; rintro e w' ⟨rfl, rfl⟩) | (go_at_call 36; refine (link36 _ _ _).mono ?_; rintro r w36 ⟨rfl, hc36⟩; have hb36 := HPB.out _ _ (by assumption) hc36; clear hc36; obtain ⟨g360, g361, g362, g363, g364, g365, g366⟩ := HOP.out w36 (HSS.out w36 hb36)))
  generalize hX : World.alloc w36 _ = X
  have hbX : Below W.heap.size W X := by rw [← hX]; exact hb36.alloc hb36.size _
  have hN : X.heap[w36.heap.size]? = some (.cells #[.int .i64 0, .int .i64 11, .string ⟨#[]⟩, .string B, .string ⟨#[]⟩, .bool false] 52 (0, 0)) := by rw [← hX]; exact heap_alloc_new w36 _
  have hge : W.heap.size ≤ w36.heap.size := hb36.size
  have hne : ¬ (w.heap.size = w36.heap.size) := by have := HZ0.out; omega
  have hne2 : ¬ (w36.heap.size = w.heap.size) := fun h => hne h.symm
  generalize w36.heap.size = N at hN hge hne hne2 ⊢
  have n0 : X.cell? ⟨N, 0, none⟩ = some (.int .i64 0) := (Lib.cell_of_heap hN 0).trans rfl
  have n1 : X.cell? ⟨N, 1, none⟩ = some (.int .i64 11) := (Lib.cell_of_heap hN 1).trans rfl
  have n2 : X.cell? ⟨N, 2, none⟩ = some (.string ⟨#[]⟩) := (Lib.cell_of_heap hN 2).trans rfl
  have n3 : X.cell? ⟨N, 3, none⟩ = some (.string B) := (Lib.cell_of_heap hN 3).trans rfl
  have n4 : X.cell? ⟨N, 4, none⟩ = some (.string ⟨#[]⟩) := (Lib.cell_of_heap hN 4).trans rfl
  have n5 : X.cell? ⟨N, 5, none⟩ = some (.bool false) := (Lib.cell_of_heap hN 5).trans rfl
  have f4 : X.frozen? ⟨N, 4, none⟩ = false := Lib.frozen_of_heap hN 4
  have f5 : X.frozen? ⟨N, 5, none⟩ = false := Lib.frozen_of_heap hN 5
  obtain ⟨x0, x1, x2, x3, x4, x5, x6⟩ := HOP.out X (HSS.out X hbX)
  have HN := Lib.hid hN
  have HBX := Lib.hid hbX
  have HGE := Lib.hid hge
  clear hN hbX hge hX
  go_upto_region 25 with fail
  obtain ⟨Y, hY⟩ : ∃ Y, Y = ((X.setCell ⟨N, 4, none⟩ (.string C)).setCell ⟨N, 5, none⟩ (.bool true)) := ⟨_, rfl⟩
  rw [← hY]
  have hbY : Below W.heap.size W Y := by rw [hY]; exact (HBX.out.setCell (p := ⟨N, 4, none⟩) HGE.out _).setCell (p := ⟨N, 5, none⟩) HGE.out _
  have hN2 : Y.heap[N]? = some (.cells #[.int .i64 0, .int .i64 11, .string ⟨#[]⟩, .string B, .string C, .bool true] 52 (0, 0)) := by rw [hY]; exact cells_set (cells_set HN.out 4 _) 5 _
  have HBX := Lib.hid hbY
  clear hY hbY n0 n1 n2 n3 n4 n5 x0 x1 x2 x3 x4 x5 x6 f4 f5
  obtain ⟨SS2, hSS2⟩ : ∃ SS2 : World → Prop, SS2 = fun w' => SS w' ∧ w'.cell? ⟨N, 0, none⟩ = some (.int .i64 0) ∧ w'.cell? ⟨N, 1, none⟩ = some (.int .i64 11) ∧ w'.cell? ⟨N, 2, none⟩ = some (.string ⟨#[]⟩) ∧ w'.cell? ⟨N, 3, none⟩ = some (.string B) ∧ w'.cell? ⟨N, 4, none⟩ = some (.string C) ∧ w'.cell? ⟨N, 5, none⟩ = some (.bool true) := ⟨_, rfl⟩
  have hNlt : N < Y.heap.size := (Array.getElem?_eq_some_iff.1 hN2).1
  have HSS2 : Hid (∀ w', Below Y.heap.size Y w' → SS2 w') := by
    rw [hSS2]
    refine Lib.hid (fun w' h => ⟨HSS.out w' (HPB.out _ _ HBX.out h), ?_⟩)
    have hb2 := (h.block N hNlt).trans hN2
    exact ⟨(Lib.cell_of_heap hb2 0).trans rfl, (Lib.cell_of_heap hb2 1).trans rfl, (Lib.cell_of_heap hb2 2).trans rfl, (Lib.cell_of_heap hb2 3).trans rfl, (Lib.cell_of_heap hb2 4).trans rfl, (Lib.cell_of_heap hb2 5).trans rfl⟩
  have sg0 : ∀ u : SW SS2, (u.x).cell? ⟨w.heap.size, 0, none⟩ = some (.int .i64 7) := fun u => by obtain ⟨x, hx⟩ := u; show x.cell? _ = _; rw [hSS2] at hx; exact sf0 ⟨x, hx.1⟩
  have sg1 : ∀ u : SW SS2, (u.x).cell? ⟨w.heap.size, 1, none⟩ = some (.int .i64 ch) := fun u => by obtain ⟨x, hx⟩ := u; show x.cell? _ = _; rw [hSS2] at hx; exact sf1 ⟨x, hx.1⟩
  have sg2 : ∀ u : SW SS2, (u.x).cell? ⟨w.heap.size, 2, none⟩ = some (.int .i64 3) := fun u => by obtain ⟨x, hx⟩ := u; show x.cell? _ = _; rw [hSS2] at hx; exact sf2 ⟨x, hx.1⟩
  have sg3 : ∀ u : SW SS2, (u.x).cell? ⟨w.heap.size, 3, none⟩ = some (.int .i64 sep) := fun u => by obtain ⟨x, hx⟩ := u; show x.cell? _ = _; rw [hSS2] at hx; exact sf3 ⟨x, hx.1⟩
  have sg4 : ∀ u : SW SS2, (u.x).cell? ⟨w.heap.size, 4, none⟩ = some (.string A) := fun u => by obtain ⟨x, hx⟩ := u; show x.cell? _ = _; rw [hSS2] at hx; exact sf4 ⟨x, hx.1⟩
  have sg5 : ∀ u : SW SS2, (u.x).cell? ⟨w.heap.size, 5, none⟩ = some (.string B) := fun u => by obtain ⟨x, hx⟩ := u; show x.cell? _ = _; rw [hSS2] at hx; exact sf5 ⟨x, hx.1⟩
  have sg6 : ∀ u : SW SS2, (u.x).cell? ⟨w.heap.size, 6, none⟩ = some (.string C) := fun u => by obtain ⟨x, hx⟩ := u; show x.cell? _ = _; rw [hSS2] at hx; exact sf6 ⟨x, hx.1⟩
  have sn0 : ∀ u : SW SS2, (u.x).cell? ⟨N, 0, none⟩ = some (.int .i64 0) := fun u => by obtain ⟨x, hx⟩ := u; show x.cell? _ = _; rw [hSS2] at hx; exact hx.2.1
  have sn1 : ∀ u : SW SS2, (u.x).cell? ⟨N, 1, none⟩ = some (.int .i64 11) := fun u => by obtain ⟨x, hx⟩ := u; show x.cell? _ = _; rw [hSS2] at hx; exact hx.2.2.1
  have sn2 : ∀ u : SW SS2, (u.x).cell? ⟨N, 2, none⟩ = some (.string ⟨#[]⟩) := fun u => by obtain ⟨x, hx⟩ := u; show x.cell? _ = _; rw [hSS2] at hx; exact hx.2.2.2.1
  have sn3 : ∀ u : SW SS2, (u.x).cell? ⟨N, 3, none⟩ = some (.string B) := fun u => by obtain ⟨x, hx⟩ := u; show x.cell? _ = _; rw [hSS2] at hx; exact hx.2.2.2.2.1
  have sn4 : ∀ u : SW SS2, (u.x).cell? ⟨N, 4, none⟩ = some (.string C) := fun u => by obtain ⟨x, hx⟩ := u; show x.cell? _ = _; rw [hSS2] at hx; exact hx.2.2.2.2.2.1
  have sn5 : ∀ u : SW SS2, (u.x).cell? ⟨N, 5, none⟩ = some (.bool true) := fun u => by obtain ⟨x, hx⟩ := u; show x.cell? _ = _; rw [hSS2] at hx; exact hx.2.2.2.2.2.2
  clear hN2 hNlt hSS2
  try simp only [List.append]
  refine wp_region_pathL (last := 5) (S := fun w' => ∃ u : SW SS2, w' = u.x) (([0, 1, 2] : List Nat).map (fun i => (i, true)) ++ [(3, false), (4, false), (5, false)]) [0, 0, 2, 4, 9, 31] 86 hmix (by kernel_rfl) (by kernel_rfl) (by kernel_rfl) (by kernel_rfl) (by kernel_rfl) (by kernel_rfl) (by kernel_rfl) ⟨⟨_, HSS2.out _ (bdn (Below.refl Y.heap.size Y) 1)⟩, rfl⟩ ?_
  refine wpPath_quietL' _ _ (by kernel_rfl) ?_
  iterate 3 (refine wpQ_op rfl rfl fun K hK => ?_; go_big_quiet_op; (try refine ⟨_, fun _ => rfl, ?_⟩); refine hK _ ?_; clear hK K)
  refine wpQ_nil ?_
  generalize hW2 : ({ Y with drawn := Y.drawn + 1 } : World) = W2
  have hb2 : Below Y.heap.size Y W2 := by rw [← hW2]; exact bdn (Below.refl _ _) 1
  clear hW2
  refine tail_step rfl rfl fun K hK => ?_
  go_wp2_with (go_at_call 35; refine (text35 _ _ _).mono ?_; rintro r w3 ⟨rfl, hc3⟩)
  have hb3 := hb2.trans (hc3.mono hb2.size)
  refine hK _ _ (fun _ => ⟨⟨w3, HSS2.out _ hb3⟩, rfl⟩) ?_
  clear hK K
  try simp only [Act.put, List.setIfInBounds_toArray, List.set_cons_succ, List.set_cons_zero]
  refine tail_step rfl rfl fun K hK => ?_
  go_wp2_with fail
  refine hK _ _ (fun _ => ⟨⟨_, HSS2.out _ (hb3.alloc hb3.size _)⟩, rfl⟩) ?_
  clear hK K
  refine tail_step rfl rfl fun K hK => ?_
  go_wp2_with fail
  refine hK _ _ (fun h => absurd rfl h) ?_
  clear hK K
  refine path_end ?_
  go_wp2_with fail
  go_ret
  refine madeN (HBW.out.trans ((HPB.out _ _ HBX.out hb3).mono HBW.out.size)) ?_ (by rw [HLL.out]; rfl)
  rw [HLL.out]
  try rw [HA.out]
  try rw [HB.out]
  try rw [HC.out]
  simp [cellsN, meK, lkM, inO, inT, inL, InN.vals, ba_app]
set_option maxRecDepth 100000 in
set_option maxHeartbeats 8000000 in
theorem me_7_4 (ch sep : Int) (e : Nat) (he : e ≤ 131070) (a b c : Bs) (hch : ch = 0 ∨ ch = 1) (ha : a.length ≤ 100) (hb : b.length ≤ 100) (hc : c.length ≤ 100) (w : World) :
    Calls Tryz.prog 16 #[.agg #[.int .i64 7, .int .i64 ch, .int .i64 4, .int .i64 sep, strV a, strV b, strV c], .int .i64 e] w fun r w' => MadeN w (meK (e.testBit 5) (e.testBit 4) (oneC ch) (oddC ch) a b c 7 (4 : Int).toNat) r w' := by
  have H14 := Lib.hid (fun w => has14 e 5 32 rfl (by decide) (by decide) (by omega) w)
  have J14 := Lib.hid (fun w => has14 e 4 16 rfl (by decide) (by decide) (by omega) w)
  obtain ⟨del, hdel⟩ : ∃ d, d = e.testBit 5 := ⟨_, rfl⟩
  rw [← hdel] at H14 ⊢
  clear hdel
  obtain ⟨aut, haut⟩ : ∃ d, d = e.testBit 4 := ⟨_, rfl⟩
  rw [← haut] at J14 ⊢
  clear haut
  obtain ⟨A, hA⟩ : ∃ S : ByteArray, S = ⟨a.toArray⟩ := ⟨_, rfl⟩
  obtain ⟨B, hB⟩ : ∃ S : ByteArray, S = ⟨b.toArray⟩ := ⟨_, rfl⟩
  obtain ⟨C, hC⟩ : ∃ S : ByteArray, S = ⟨c.toArray⟩ := ⟨_, rfl⟩
  have zA : A.size ≤ 100 := by rw [hA]; show a.toArray.size ≤ _; simpa using ha
  have zB : B.size ≤ 100 := by rw [hB]; show b.toArray.size ≤ _; simpa using hb
  have zC : C.size ≤ 100 := by rw [hC]; show c.toArray.size ≤ _; simpa using hc
  obtain ⟨LL, hLL⟩ : ∃ LL, LL = meK del aut (oneC ch) (oddC ch) a b c 7 (4 : Int).toNat := ⟨_, rfl⟩
  rw [← hLL]
  simp only [strV]
  rw [← hA, ← hB, ← hC]
  have HA := Lib.hid hA
  have HB := Lib.hid hB
  have HC := Lib.hid hC
  have HLL := Lib.hid hLL
  clear hA hB hC hLL
  have HBD := Lib.hid (fun o => (Below.refl w.heap.size w).alloc (Nat.le_refl _) o)
  have hmix : Tryz.prog.follows .mixedOrders = true := by kernel_rfl
  go_enter Tryz.func16, Tryz.ntmps16
  go_upto_region 1 with fail
  generalize hW : w.alloc _ = W
  have hz0 : W.heap.size = w.heap.size + 1 := by rw [← hW]; simp
  have hbW : Below w.heap.size w W := by rw [← hW]; exact HBD.out _
  obtain ⟨SS, hSS⟩ : ∃ SS : World → Prop, SS = fun w' => C7 w' w.heap.size (.int .i64 7) (.int .i64 ch) (.int .i64 4) (.int .i64 sep) (.string A) (.string B) (.string C) := ⟨_, rfl⟩
  have HSS : Hid (∀ w', Below W.heap.size W w' → SS w') := by
    rw [hSS]
    refine Lib.hid (fun w' h => ?_)
    have hb : w'.heap[w.heap.size]? = W.heap[w.heap.size]? := h.block _ (by rw [hz0]; omega)
    rw [← hW] at hb
    have hb2 := hb.trans (heap_alloc_new w _)
    exact ⟨(Lib.cell_of_heap hb2 0).trans rfl, (Lib.cell_of_heap hb2 1).trans rfl, (Lib.cell_of_heap hb2 2).trans rfl, (Lib.cell_of_heap hb2 3).trans rfl, (Lib.cell_of_heap hb2 4).trans rfl, (Lib.cell_of_heap hb2 5).trans rfl, (Lib.cell_of_heap hb2 6).trans rfl⟩
  have sfa : ∀ x, SS x → C7 x w.heap.size (.int .i64 7) (.int .i64 ch) (.int .i64 4) (.int .i64 sep) (.string A) (.string B) (.string C) := by rw [hSS]; exact fun x h => h
  have sf0 : ∀ u : SW SS, (u.x).cell? ⟨w.heap.size, 0, none⟩ = some (.int .i64 7) := fun u => (sfa u.x u.h).1
  have sf1 : ∀ u : SW SS, (u.x).cell? ⟨w.heap.size, 1, none⟩ = some (.int .i64 ch) := fun u => (sfa u.x u.h).2.1
  have sf2 : ∀ u : SW SS, (u.x).cell? ⟨w.heap.size, 2, none⟩ = some (.int .i64 4) := fun u => (sfa u.x u.h).2.2.1
  have sf3 : ∀ u : SW SS, (u.x).cell? ⟨w.heap.size, 3, none⟩ = some (.int .i64 sep) := fun u => (sfa u.x u.h).2.2.2.1
  have sf4 : ∀ u : SW SS, (u.x).cell? ⟨w.heap.size, 4, none⟩ = some (.string A) := fun u => (sfa u.x u.h).2.2.2.2.1
  have sf5 : ∀ u : SW SS, (u.x).cell? ⟨w.heap.size, 5, none⟩ = some (.string B) := fun u => (sfa u.x u.h).2.2.2.2.2.1
  have sf6 : ∀ u : SW SS, (u.x).cell? ⟨w.heap.size, 6, none⟩ = some (.string C) := fun u => (sfa u.x u.h).2.2.2.2.2.2
  have HOP : Hid (∀ w', SS w' → C7 w' w.heap.size (.int .i64 7) (.int .i64 ch) (.int .i64 4) (.int .i64 sep) (.string A) (.string B) (.string C)) := by rw [hSS]; exact Lib.hid (fun w' h => h)
  obtain ⟨e0, e1, e2, e3, e4, e5, e6⟩ := HOP.out W (HSS.out W (Below.refl _ _))
  have HBW := Lib.hid hbW
  have HZ0 := Lib.hid hz0
  clear hW hbW hz0 HBD hSS sfa
  have t14 : True := trivial
  have HPB : Hid (∀ w' w'', Below W.heap.size W w' → Below w'.heap.size w' w'' → Below W.heap.size W w'') := Lib.hid (fun w' w'' h h2 => h.trans (h2.mono h.size))
  have hb0 : Below W.heap.size W W := Below.refl _ _
  go_upto_region 23 with (first | (clear t14; go_at_call 14; refine (H14.out _).mono ?_; rintro e w' ⟨rfl, rfl⟩) | (go_at_call 14; refine (J14.out _).mono ?_; rintro e w' ⟨rfl, rfl⟩) | (go_at_call 36; refine (link36 _ _ _).mono ?_; rintro r w36 ⟨rfl, hc36⟩; have hb36 := HPB.out _ _ (by assumption) hc36; clear hc36; obtain ⟨g360, g361, g362, g363, g364, g365, g366⟩ := HOP.out w36 (HSS.out w36 hb36)))
  generalize hX : World.alloc w36 _ = X
  have hbX : Below W.heap.size W X := by rw [← hX]; exact hb36.alloc hb36.size _
  have hN : X.heap[w36.heap.size]? = some (.cells #[.int .i64 0, .int .i64 11, .string ⟨#[]⟩, .string B, .string ⟨#[]⟩, .bool false] 52 (0, 0)) := by rw [← hX]; exact heap_alloc_new w36 _
  have hge : W.heap.size ≤ w36.heap.size := hb36.size
  have hne : ¬ (w.heap.size = w36.heap.size) := by have := HZ0.out; omega
  have hne2 : ¬ (w36.heap.size = w.heap.size) := fun h => hne h.symm
  generalize w36.heap.size = N at hN hge hne hne2 ⊢
  have n0 : X.cell? ⟨N, 0, none⟩ = some (.int .i64 0) := (Lib.cell_of_heap hN 0).trans rfl
  have n1 : X.cell? ⟨N, 1, none⟩ = some (.int .i64 11) := (Lib.cell_of_heap hN 1).trans rfl
  have n2 : X.cell? ⟨N, 2, none⟩ = some (.string ⟨#[]⟩) := (Lib.cell_of_heap hN 2).trans rfl
  have n3 : X.cell? ⟨N, 3, none⟩ = some (.string B) := (Lib.cell_of_heap hN 3).trans rfl
  have n4 : X.cell? ⟨N, 4, none⟩ = some (.string ⟨#[]⟩) := (Lib.cell_of_heap hN 4).trans rfl
  have n5 : X.cell? ⟨N, 5, none⟩ = some (.bool false) := (Lib.cell_of_heap hN 5).trans rfl
  obtain ⟨x0, x1, x2, x3, x4, x5, x6⟩ := HOP.out X (HSS.out X hbX)
  have HN := Lib.hid hN
  have HBX := Lib.hid hbX
  have HGE := Lib.hid hge
  clear hN hbX hge hX
  go_upto_region 25 with fail
  have hN2 := HN.out
  obtain ⟨SS2, hSS2⟩ : ∃ SS2 : World → Prop, SS2 = fun w' => SS w' ∧ w'.cell? ⟨N, 0, none⟩ = some (.int .i64 0) ∧ w'.cell? ⟨N, 1, none⟩ = some (.int .i64 11) ∧ w'.cell? ⟨N, 2, none⟩ = some (.string ⟨#[]⟩) ∧ w'.cell? ⟨N, 3, none⟩ = some (.string B) ∧ w'.cell? ⟨N, 4, none⟩ = some (.string ⟨#[]⟩) ∧ w'.cell? ⟨N, 5, none⟩ = some (.bool false) := ⟨_, rfl⟩
  have hNlt : N < X.heap.size := (Array.getElem?_eq_some_iff.1 hN2).1
  have HSS2 : Hid (∀ w', Below X.heap.size X w' → SS2 w') := by
    rw [hSS2]
    refine Lib.hid (fun w' h => ⟨HSS.out w' (HPB.out _ _ HBX.out h), ?_⟩)
    have hb2 := (h.block N hNlt).trans hN2
    exact ⟨(Lib.cell_of_heap hb2 0).trans rfl, (Lib.cell_of_heap hb2 1).trans rfl, (Lib.cell_of_heap hb2 2).trans rfl, (Lib.cell_of_heap hb2 3).trans rfl, (Lib.cell_of_heap hb2 4).trans rfl, (Lib.cell_of_heap hb2 5).trans rfl⟩
  have sg0 : ∀ u : SW SS2, (u.x).cell? ⟨w.heap.size, 0, none⟩ = some (.int .i64 7) := fun u => by obtain ⟨x, hx⟩ := u; show x.cell? _ = _; rw [hSS2] at hx; exact sf0 ⟨x, hx.1⟩
  have sg1 : ∀ u : SW SS2, (u.x).cell? ⟨w.heap.size, 1, none⟩ = some (.int .i64 ch) := fun u => by obtain ⟨x, hx⟩ := u; show x.cell? _ = _; rw [hSS2] at hx; exact sf1 ⟨x, hx.1⟩
  have sg2 : ∀ u : SW SS2, (u.x).cell? ⟨w.heap.size, 2, none⟩ = some (.int .i64 4) := fun u => by obtain ⟨x, hx⟩ := u; show x.cell? _ = _; rw [hSS2] at hx; exact sf2 ⟨x, hx.1⟩
  have sg3 : ∀ u : SW SS2, (u.x).cell? ⟨w.heap.size, 3, none⟩ = some (.int .i64 sep) := fun u => by obtain ⟨x, hx⟩ := u; show x.cell? _ = _; rw [hSS2] at hx; exact sf3 ⟨x, hx.1⟩
  have sg4 : ∀ u : SW SS2, (u.x).cell? ⟨w.heap.size, 4, none⟩ = some (.string A) := fun u => by obtain ⟨x, hx⟩ := u; show x.cell? _ = _; rw [hSS2] at hx; exact sf4 ⟨x, hx.1⟩
  have sg5 : ∀ u : SW SS2, (u.x).cell? ⟨w.heap.size, 5, none⟩ = some (.string B) := fun u => by obtain ⟨x, hx⟩ := u; show x.cell? _ = _; rw [hSS2] at hx; exact sf5 ⟨x, hx.1⟩
  have sg6 : ∀ u : SW SS2, (u.x).cell? ⟨w.heap.size, 6, none⟩ = some (.string C) := fun u => by obtain ⟨x, hx⟩ := u; show x.cell? _ = _; rw [hSS2] at hx; exact sf6 ⟨x, hx.1⟩
  have sn0 : ∀ u : SW SS2, (u.x).cell? ⟨N, 0, none⟩ = some (.int .i64 0) := fun u => by obtain ⟨x, hx⟩ := u; show x.cell? _ = _; rw [hSS2] at hx; exact hx.2.1
  have sn1 : ∀ u : SW SS2, (u.x).cell? ⟨N, 1, none⟩ = some (.int .i64 11) := fun u => by obtain ⟨x, hx⟩ := u; show x.cell? _ = _; rw [hSS2] at hx; exact hx.2.2.1
  have sn2 : ∀ u : SW SS2, (u.x).cell? ⟨N, 2, none⟩ = some (.string ⟨#[]⟩) := fun u => by obtain ⟨x, hx⟩ := u; show x.cell? _ = _; rw [hSS2] at hx; exact hx.2.2.2.1
  have sn3 : ∀ u : SW SS2, (u.x).cell? ⟨N, 3, none⟩ = some (.string B) := fun u => by obtain ⟨x, hx⟩ := u; show x.cell? _ = _; rw [hSS2] at hx; exact hx.2.2.2.2.1
  have sn4 : ∀ u : SW SS2, (u.x).cell? ⟨N, 4, none⟩ = some (.string ⟨#[]⟩) := fun u => by obtain ⟨x, hx⟩ := u; show x.cell? _ = _; rw [hSS2] at hx; exact hx.2.2.2.2.2.1
  have sn5 : ∀ u : SW SS2, (u.x).cell? ⟨N, 5, none⟩ = some (.bool false) := fun u => by obtain ⟨x, hx⟩ := u; show x.cell? _ = _; rw [hSS2] at hx; exact hx.2.2.2.2.2.2
  clear hN2 hNlt hSS2
  try simp only [List.append]
  refine wp_region_pathL (last := 5) (S := fun w' => ∃ u : SW SS2, w' = u.x) (([0, 1, 2] : List Nat).map (fun i => (i, true)) ++ [(3, false), (4, false), (5, false)]) [0, 0, 2, 4, 9, 31] 86 hmix (by kernel_rfl) (by kernel_rfl) (by kernel_rfl) (by kernel_rfl) (by kernel_rfl) (by kernel_rfl) (by kernel_rfl) ⟨⟨_, HSS2.out _ (bdn (Below.refl X.heap.size X) 1)⟩, rfl⟩ ?_
  refine wpPath_quietL' _ _ (by kernel_rfl) ?_
  iterate 3 (refine wpQ_op rfl rfl fun K hK => ?_; go_big_quiet_op; (try refine ⟨_, fun _ => rfl, ?_⟩); refine hK _ ?_; clear hK K)
  refine wpQ_nil ?_
  generalize hW2 : ({ X with drawn := X.drawn + 1 } : World) = W2
  have hb2 : Below X.heap.size X W2 := by rw [← hW2]; exact bdn (Below.refl _ _) 1
  clear hW2
  refine tail_step rfl rfl fun K hK => ?_
  go_wp2_with (go_at_call 35; refine (text35 _ _ _).mono ?_; rintro r w3 ⟨rfl, hc3⟩)
  have hb3 := hb2.trans (hc3.mono hb2.size)
  refine hK _ _ (fun _ => ⟨⟨w3, HSS2.out _ hb3⟩, rfl⟩) ?_
  clear hK K
  try simp only [Act.put, List.setIfInBounds_toArray, List.set_cons_succ, List.set_cons_zero]
  refine tail_step rfl rfl fun K hK => ?_
  go_wp2_with fail
  refine hK _ _ (fun _ => ⟨⟨_, HSS2.out _ (hb3.alloc hb3.size _)⟩, rfl⟩) ?_
  clear hK K
  refine tail_step rfl rfl fun K hK => ?_
  go_wp2_with fail
  refine hK _ _ (fun h => absurd rfl h) ?_
  clear hK K
  refine path_end ?_
  go_wp2_with fail
  go_ret
  refine madeN (HBW.out.trans ((HPB.out _ _ HBX.out hb3).mono HBW.out.size)) ?_ (by rw [HLL.out]; rfl)
  rw [HLL.out]
  try rw [HA.out]
  try rw [HB.out]
  try rw [HC.out]
  simp [cellsN, meK, lkM, inO, inT, inL, InN.vals, ba_app]
set_option maxRecDepth 100000 in
set_option maxHeartbeats 8000000 in
theorem me_20 (ch sep : Int) (var : Int) (e : Nat) (he : e ≤ 131070) (a b c : Bs) (hch : ch = 0 ∨ ch = 1) (ha : a.length ≤ 100) (hb : b.length ≤ 100) (hc : c.length ≤ 100) (w : World) :
    Calls Tryz.prog 16 #[.agg #[.int .i64 20, .int .i64 ch, .int .i64 var, .int .i64 sep, strV a, strV b, strV c], .int .i64 e] w fun r w' => MadeN w (meK (e.testBit 5) (e.testBit 4) (oneC ch) (oddC ch) a b c 20 (var : Int).toNat) r w' := by
  have H14 := Lib.hid (fun w => has14 e 5 32 rfl (by decide) (by decide) (by omega) w)
  have J14 := Lib.hid (fun w => has14 e 4 16 rfl (by decide) (by decide) (by omega) w)
  obtain ⟨del, hdel⟩ : ∃ d, d = e.testBit 5 := ⟨_, rfl⟩
  rw [← hdel] at H14 ⊢
  clear hdel
  obtain ⟨aut, haut⟩ : ∃ d, d = e.testBit 4 := ⟨_, rfl⟩
  rw [← haut] at J14 ⊢
  clear haut
  obtain ⟨A, hA⟩ : ∃ S : ByteArray, S = ⟨a.toArray⟩ := ⟨_, rfl⟩
  obtain ⟨B, hB⟩ : ∃ S : ByteArray, S = ⟨b.toArray⟩ := ⟨_, rfl⟩
  obtain ⟨C, hC⟩ : ∃ S : ByteArray, S = ⟨c.toArray⟩ := ⟨_, rfl⟩
  have zA : A.size ≤ 100 := by rw [hA]; show a.toArray.size ≤ _; simpa using ha
  have zB : B.size ≤ 100 := by rw [hB]; show b.toArray.size ≤ _; simpa using hb
  have zC : C.size ≤ 100 := by rw [hC]; show c.toArray.size ≤ _; simpa using hc
  obtain ⟨LL, hLL⟩ : ∃ LL, LL = meK del aut (oneC ch) (oddC ch) a b c 20 (var : Int).toNat := ⟨_, rfl⟩
  rw [← hLL]
  simp only [strV]
  rw [← hA, ← hB, ← hC]
  have HA := Lib.hid hA
  have HB := Lib.hid hB
  have HC := Lib.hid hC
  have HLL := Lib.hid hLL
  clear hA hB hC hLL
  have HBD := Lib.hid (fun o => (Below.refl w.heap.size w).alloc (Nat.le_refl _) o)
  have hmix : Tryz.prog.follows .mixedOrders = true := by kernel_rfl
  go_enter Tryz.func16, Tryz.ntmps16
  go_upto_region 1 with fail
  generalize hW : w.alloc _ = W
  have hz0 : W.heap.size = w.heap.size + 1 := by rw [← hW]; simp
  have hbW : Below w.heap.size w W := by rw [← hW]; exact HBD.out _
  obtain ⟨SS, hSS⟩ : ∃ SS : World → Prop, SS = fun w' => C7 w' w.heap.size (.int .i64 20) (.int .i64 ch) (.int .i64 var) (.int .i64 sep) (.string A) (.string B) (.string C) := ⟨_, rfl⟩
  have HSS : Hid (∀ w', Below W.heap.size W w' → SS w') := by
    rw [hSS]
    refine Lib.hid (fun w' h => ?_)
    have hb : w'.heap[w.heap.size]? = W.heap[w.heap.size]? := h.block _ (by rw [hz0]; omega)
    rw [← hW] at hb
    have hb2 := hb.trans (heap_alloc_new w _)
    exact ⟨(Lib.cell_of_heap hb2 0).trans rfl, (Lib.cell_of_heap hb2 1).trans rfl, (Lib.cell_of_heap hb2 2).trans rfl, (Lib.cell_of_heap hb2 3).trans rfl, (Lib.cell_of_heap hb2 4).trans rfl, (Lib.cell_of_heap hb2 5).trans rfl, (Lib.cell_of_heap hb2 6).trans rfl⟩
  have sfa : ∀ x, SS x → C7 x w.heap.size (.int .i64 20) (.int .i64 ch) (.int .i64 var) (.int .i64 sep) (.string A) (.string B) (.string C) := by rw [hSS]; exact fun x h => h
  have sf0 : ∀ u : SW SS, (u.x).cell? ⟨w.heap.size, 0, none⟩ = some (.int .i64 20) := fun u => (sfa u.x u.h).1
  have sf1 : ∀ u : SW SS, (u.x).cell? ⟨w.heap.size, 1, none⟩ = some (.int .i64 ch) := fun u => (sfa u.x u.h).2.1
  have sf2 : ∀ u : SW SS, (u.x).cell? ⟨w.heap.size, 2, none⟩ = some (.int .i64 var) := fun u => (sfa u.x u.h).2.2.1
  have sf3 : ∀ u : SW SS, (u.x).cell? ⟨w.heap.size, 3, none⟩ = some (.int .i64 sep) := fun u => (sfa u.x u.h).2.2.2.1
  have sf4 : ∀ u : SW SS, (u.x).cell? ⟨w.heap.size, 4, none⟩ = some (.string A) := fun u => (sfa u.x u.h).2.2.2.2.1
  have sf5 : ∀ u : SW SS, (u.x).cell? ⟨w.heap.size, 5, none⟩ = some (.string B) := fun u => (sfa u.x u.h).2.2.2.2.2.1
  have sf6 : ∀ u : SW SS, (u.x).cell? ⟨w.heap.size, 6, none⟩ = some (.string C) := fun u => (sfa u.x u.h).2.2.2.2.2.2
  have HOP : Hid (∀ w', SS w' → C7 w' w.heap.size (.int .i64 20) (.int .i64 ch) (.int .i64 var) (.int .i64 sep) (.string A) (.string B) (.string C)) := by rw [hSS]; exact Lib.hid (fun w' h => h)
  obtain ⟨e0, e1, e2, e3, e4, e5, e6⟩ := HOP.out W (HSS.out W (Below.refl _ _))
  have HBW := Lib.hid hbW
  have HZ0 := Lib.hid hz0
  clear hW hbW hz0 HBD hSS sfa
  have t14 : True := trivial
  have HPB : Hid (∀ w' w'', Below W.heap.size W w' → Below w'.heap.size w' w'' → Below W.heap.size W w'') := Lib.hid (fun w' w'' h h2 => h.trans (h2.mono h.size))
  have hb0 : Below W.heap.size W W := Below.refl _ _
  go_upto_region 59 with (first | (clear t14; go_at_call 14; refine (H14.out _).mono ?_; rintro e w' ⟨rfl, rfl⟩) | (go_at_call 14; refine (J14.out _).mono ?_; rintro e w' ⟨rfl, rfl⟩) | (go_at_call 36; refine (link36 _ _ _).mono ?_; rintro r w36 ⟨rfl, hc36⟩; have hb36 := HPB.out _ _ (by assumption) hc36; clear hc36; obtain ⟨g360, g361, g362, g363, g364, g365, g366⟩ := HOP.out w36 (HSS.out w36 hb36)))
  generalize hX : World.alloc w36 _ = X
  have hbX : Below W.heap.size W X := by rw [← hX]; exact hb36.alloc hb36.size _
  have hN : X.heap[w36.heap.size]? = some (.cells #[.int .i64 0, .int .i64 11, .string ⟨#[]⟩, .string B, .string ⟨#[]⟩, .bool false] 52 (0, 0)) := by rw [← hX]; exact heap_alloc_new w36 _
  have hge : W.heap.size ≤ w36.heap.size := hb36.size
  have hne : ¬ (w.heap.size = w36.heap.size) := by have := HZ0.out; omega
  have hne2 : ¬ (w36.heap.size = w.heap.size) := fun h => hne h.symm
  generalize w36.heap.size = N at hN hge hne hne2 ⊢
  have n0 : X.cell? ⟨N, 0, none⟩ = some (.int .i64 0) := (Lib.cell_of_heap hN 0).trans rfl
  have n1 : X.cell? ⟨N, 1, none⟩ = some (.int .i64 11) := (Lib.cell_of_heap hN 1).trans rfl
  have n2 : X.cell? ⟨N, 2, none⟩ = some (.string ⟨#[]⟩) := (Lib.cell_of_heap hN 2).trans rfl
  have n3 : X.cell? ⟨N, 3, none⟩ = some (.string B) := (Lib.cell_of_heap hN 3).trans rfl
  have n4 : X.cell? ⟨N, 4, none⟩ = some (.string ⟨#[]⟩) := (Lib.cell_of_heap hN 4).trans rfl
  have n5 : X.cell? ⟨N, 5, none⟩ = some (.bool false) := (Lib.cell_of_heap hN 5).trans rfl
  have f0 : X.frozen? ⟨N, 0, none⟩ = false := Lib.frozen_of_heap hN 0
  obtain ⟨x0, x1, x2, x3, x4, x5, x6⟩ := HOP.out X (HSS.out X hbX)
  have HN := Lib.hid hN
  have HBX := Lib.hid hbX
  have HGE := Lib.hid hge
  clear hN hbX hge hX
  go_upto_region 60 with fail
  obtain ⟨Y, hY⟩ : ∃ Y, Y = (X.setCell ⟨N, 0, none⟩ (.int .i64 1)) := ⟨_, rfl⟩
  rw [← hY]
  have hbY : Below W.heap.size W Y := by rw [hY]; exact HBX.out.setCell (p := ⟨N, 0, none⟩) HGE.out _
  have hN2 : Y.heap[N]? = some (.cells #[.int .i64 1, .int .i64 11, .string ⟨#[]⟩, .string B, .string ⟨#[]⟩, .bool false] 52 (0, 0)) := by rw [hY]; exact cells_set HN.out 0 _
  have HBX := Lib.hid hbY
  clear hY hbY n0 n1 n2 n3 n4 n5 x0 x1 x2 x3 x4 x5 x6 f0
  obtain ⟨SS2, hSS2⟩ : ∃ SS2 : World → Prop, SS2 = fun w' => SS w' ∧ w'.cell? ⟨N, 0, none⟩ = some (.int .i64 1) ∧ w'.cell? ⟨N, 1, none⟩ = some (.int .i64 11) ∧ w'.cell? ⟨N, 2, none⟩ = some (.string ⟨#[]⟩) ∧ w'.cell? ⟨N, 3, none⟩ = some (.string B) ∧ w'.cell? ⟨N, 4, none⟩ = some (.string ⟨#[]⟩) ∧ w'.cell? ⟨N, 5, none⟩ = some (.bool false) := ⟨_, rfl⟩
  have hNlt : N < Y.heap.size := (Array.getElem?_eq_some_iff.1 hN2).1
  have HSS2 : Hid (∀ w', Below Y.heap.size Y w' → SS2 w') := by
    rw [hSS2]
    refine Lib.hid (fun w' h => ⟨HSS.out w' (HPB.out _ _ HBX.out h), ?_⟩)
    have hb2 := (h.block N hNlt).trans hN2
    exact ⟨(Lib.cell_of_heap hb2 0).trans rfl, (Lib.cell_of_heap hb2 1).trans rfl, (Lib.cell_of_heap hb2 2).trans rfl, (Lib.cell_of_heap hb2 3).trans rfl, (Lib.cell_of_heap hb2 4).trans rfl, (Lib.cell_of_heap hb2 5).trans rfl⟩
  have sg0 : ∀ u : SW SS2, (u.x).cell? ⟨w.heap.size, 0, none⟩ = some (.int .i64 20) := fun u => by obtain ⟨x, hx⟩ := u; show x.cell? _ = _; rw [hSS2] at hx; exact sf0 ⟨x, hx.1⟩
  have sg1 : ∀ u : SW SS2, (u.x).cell? ⟨w.heap.size, 1, none⟩ = some (.int .i64 ch) := fun u => by obtain ⟨x, hx⟩ := u; show x.cell? _ = _; rw [hSS2] at hx; exact sf1 ⟨x, hx.1⟩
  have sg2 : ∀ u : SW SS2, (u.x).cell? ⟨w.heap.size, 2, none⟩ = some (.int .i64 var) := fun u => by obtain ⟨x, hx⟩ := u; show x.cell? _ = _; rw [hSS2] at hx; exact sf2 ⟨x, hx.1⟩
  have sg3 : ∀ u : SW SS2, (u.x).cell? ⟨w.heap.size, 3, none⟩ = some (.int .i64 sep) := fun u => by obtain ⟨x, hx⟩ := u; show x.cell? _ = _; rw [hSS2] at hx; exact sf3 ⟨x, hx.1⟩
  have sg4 : ∀ u : SW SS2, (u.x).cell? ⟨w.heap.size, 4, none⟩ = some (.string A) := fun u => by obtain ⟨x, hx⟩ := u; show x.cell? _ = _; rw [hSS2] at hx; exact sf4 ⟨x, hx.1⟩
  have sg5 : ∀ u : SW SS2, (u.x).cell? ⟨w.heap.size, 5, none⟩ = some (.string B) := fun u => by obtain ⟨x, hx⟩ := u; show x.cell? _ = _; rw [hSS2] at hx; exact sf5 ⟨x, hx.1⟩
  have sg6 : ∀ u : SW SS2, (u.x).cell? ⟨w.heap.size, 6, none⟩ = some (.string C) := fun u => by obtain ⟨x, hx⟩ := u; show x.cell? _ = _; rw [hSS2] at hx; exact sf6 ⟨x, hx.1⟩
  have sn0 : ∀ u : SW SS2, (u.x).cell? ⟨N, 0, none⟩ = some (.int .i64 1) := fun u => by obtain ⟨x, hx⟩ := u; show x.cell? _ = _; rw [hSS2] at hx; exact hx.2.1
  have sn1 : ∀ u : SW SS2, (u.x).cell? ⟨N, 1, none⟩ = some (.int .i64 11) := fun u => by obtain ⟨x, hx⟩ := u; show x.cell? _ = _; rw [hSS2] at hx; exact hx.2.2.1
  have sn2 : ∀ u : SW SS2, (u.x).cell? ⟨N, 2, none⟩ = some (.string ⟨#[]⟩) := fun u => by obtain ⟨x, hx⟩ := u; show x.cell? _ = _; rw [hSS2] at hx; exact hx.2.2.2.1
  have sn3 : ∀ u : SW SS2, (u.x).cell? ⟨N, 3, none⟩ = some (.string B) := fun u => by obtain ⟨x, hx⟩ := u; show x.cell? _ = _; rw [hSS2] at hx; exact hx.2.2.2.2.1
  have sn4 : ∀ u : SW SS2, (u.x).cell? ⟨N, 4, none⟩ = some (.string ⟨#[]⟩) := fun u => by obtain ⟨x, hx⟩ := u; show x.cell? _ = _; rw [hSS2] at hx; exact hx.2.2.2.2.2.1
  have sn5 : ∀ u : SW SS2, (u.x).cell? ⟨N, 5, none⟩ = some (.bool false) := fun u => by obtain ⟨x, hx⟩ := u; show x.cell? _ = _; rw [hSS2] at hx; exact hx.2.2.2.2.2.2
  clear hN2 hNlt hSS2
  try simp only [List.append]
  refine wp_region_pathL (last := 8) (S := fun w' => ∃ u : SW SS2, w' = u.x) (([0, 1, 3, 4, 5] : List Nat).map (fun i => (i, true)) ++ [(2, false), (6, false), (7, false), (8, false)]) [0, 1, 2, 0, 0, 16, 36, 76, 255] 279 hmix (by kernel_rfl) (by kernel_rfl) (by kernel_rfl) (by kernel_rfl) (by kernel_rfl) (by kernel_rfl) (by kernel_rfl) ⟨⟨_, HSS2.out _ (bdn (Below.refl Y.heap.size Y) 1)⟩, rfl⟩ ?_
  refine wpPath_quietL' _ _ (by kernel_rfl) ?_
  iterate 5 (refine wpQ_op rfl rfl fun K hK => ?_; go_big_quiet_op; (try refine ⟨_, fun _ => rfl, ?_⟩); refine hK _ ?_; clear hK K)
  refine wpQ_nil ?_
  generalize hW2 : ({ Y with drawn := Y.drawn + 1 } : World) = W2
  have hb2 : Below Y.heap.size Y W2 := by rw [← hW2]; exact bdn (Below.refl _ _) 1
  clear hW2
  refine tail_step rfl rfl fun K hK => ?_
  go_wp2_with (go_at_call 36; refine (link36 _ _ _).mono ?_; rintro r w3 ⟨rfl, hc3⟩)
  have hb3 := hb2.trans (hc3.mono hb2.size)
  refine hK _ _ (fun _ => ⟨⟨w3, HSS2.out _ hb3⟩, rfl⟩) ?_
  clear hK K
  try simp only [Act.put, List.setIfInBounds_toArray, List.set_cons_succ, List.set_cons_zero]
  refine tail_step rfl rfl fun K hK => ?_
  go_wp2_with (go_at_call 35; refine (text35 _ _ _).mono ?_; rintro r w4 ⟨rfl, hc4⟩)
  have hb4 := hb3.trans (hc4.mono hb3.size)
  refine hK _ _ (fun _ => ⟨⟨w4, HSS2.out _ hb4⟩, rfl⟩) ?_
  clear hK K
  try simp only [Act.put, List.setIfInBounds_toArray, List.set_cons_succ, List.set_cons_zero]
  refine tail_step rfl rfl fun K hK => ?_
  go_wp2_with fail
  refine hK _ _ (fun _ => ⟨⟨_, HSS2.out _ (hb4.alloc hb4.size _)⟩, rfl⟩) ?_
  clear hK K
  refine tail_step rfl rfl fun K hK => ?_
  go_wp2_with fail
  refine hK _ _ (fun h => absurd rfl h) ?_
  clear hK K
  refine path_end ?_
  go_wp2_with fail
  go_ret
  refine madeN (HBW.out.trans ((HPB.out _ _ HBX.out hb4).mono HBW.out.size)) ?_ (by rw [HLL.out]; rfl)
  rw [HLL.out]
  try rw [HA.out]
  try rw [HB.out]
  try rw [HC.out]
  simp [cellsN, meK, lkM, inO, inT, inL, InN.vals, ba_app]
end Go.Proofs.YtalajbfpilhfgaaGreatDoor
