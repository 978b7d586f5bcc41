/-
  FnInlineAlone: how a piece is written, by its kinds.
-/
import Derived.Test.YtalajbfpilhfgaaGreatDoorK31
set_option linter.unusedVariables false
set_option linter.unusedSimpArgs false
namespace Go.Proofs.YtalajbfpilhfgaaGreatDoor
open Go.RowKit

set_option maxRecDepth 100000 in
set_option maxHeartbeats 4000000 in
theorem wr_14 (ch sep : Int) (var : Int) (a b c : Bs) (hch : ch = 0 ∨ ch = 1) (ha : a.length ≤ 100) (hb : b.length ≤ 100) (hc : c.length ≤ 100) (w : World) :
    Calls Tryz.prog 15 #[.agg #[.int .i64 14, .int .i64 ch, .int .i64 var, .int .i64 sep, strV a, strV b, strV c]] w fun e w' => e = .returned (strV (wrK (oneC ch) (oddC ch) a b c 14 (var : Int).toNat)) ∧ Below w.heap.size w w' := by
  obtain ⟨A, hA⟩ : ∃ S : ByteArray, S = ⟨a.toArray⟩ := ⟨_, rfl⟩
  obtain ⟨B, hB⟩ : ∃ S : ByteArray, S = ⟨b.toArray⟩ := ⟨_, rfl⟩
  obtain ⟨C, hC⟩ : ∃ S : ByteArray, S = ⟨c.toArray⟩ := ⟨_, rfl⟩
  have zA : A.size ≤ 100 := by rw [hA]; show a.toArray.size ≤ _; simpa using ha
  have zB : B.size ≤ 100 := by rw [hB]; show b.toArray.size ≤ _; simpa using hb
  have zC : C.size ≤ 100 := by rw [hC]; show c.toArray.size ≤ _; simpa using hc
  have HE : Hid (A.data.toList = a ∧ B.data.toList = b ∧ C.data.toList = c) := Lib.hid ⟨by rw [hA], by rw [hB], by rw [hC]⟩
  obtain ⟨O1, X1, O2, X2, O3, X3, zO1, zX1, zO2, zX2, zO3, zX3, hO1, hX1, hO2, hX2, hO3, hX3, hM⟩ := marks_all 14 ch var sep A B C hch
  simp only [strV]
  rw [← hA, ← hB, ← hC]
  clear hA hB hC
  have HO := Lib.hid (And.intro hO1 (And.intro hX1 (And.intro hO2 (And.intro hX2 (And.intro hO3 hX3)))))
  clear hO1 hX1 hO2 hX2 hO3 hX3
  have HBD := Lib.hid (fun o => (Below.refl w.heap.size w).alloc (Nat.le_refl _) o)
  go_enter Tryz.func15, Tryz.ntmps15
  go_upto_region 1 with fail
  generalize hW : w.alloc _ = W
  obtain ⟨PW, hPW⟩ : ∃ PW : World → Prop, PW = fun w' => Below W.heap.size W w' := ⟨_, rfl⟩
  have hpW : PW W := by rw [hPW]; exact Below.refl _ _
  have hz0 : W.heap.size = w.heap.size + 1 := by rw [← hW]; simp
  have hbW : Below w.heap.size w W := by rw [← hW]; exact HBD.out _
  have HEND : Hid (∀ w', PW w' → Below w.heap.size w w') := by rw [hPW]; exact Lib.hid (fun w' h => hbW.trans (h.mono hbW.size))
  have HC : Hid (∀ w', PW w' → C7 w' w.heap.size (.int .i64 14) (.int .i64 ch) (.int .i64 var) (.int .i64 sep) (.string A) (.string B) (.string C)) := by
    rw [hPW]
    refine Lib.hid (fun w' h => ?_)
    have hb : w'.heap[w.heap.size]? = W.heap[w.heap.size]? := h.block _ (by rw [hz0]; omega)
    rw [← hW] at hb
    have hb2 := hb.trans (heap_alloc_new w _)
    exact ⟨(Lib.cell_of_heap hb2 0).trans rfl, (Lib.cell_of_heap hb2 1).trans rfl, (Lib.cell_of_heap hb2 2).trans rfl, (Lib.cell_of_heap hb2 3).trans rfl, (Lib.cell_of_heap hb2 4).trans rfl, (Lib.cell_of_heap hb2 5).trans rfl, (Lib.cell_of_heap hb2 6).trans rfl⟩
  have HPB : Hid (∀ w' w'', PW w' → Below w'.heap.size w' w'' → PW w'') := by rw [hPW]; exact Lib.hid (fun w' w'' h h2 => h.trans (h2.mono h.size))
  have M1 := Lib.hid (fun w' (h : PW w') => (hM.1 w').mono (R' := fun e w'' => e = .returned (.tuple #[.string O1, .string X1]) ∧ PW w'') (by rintro e w'' ⟨h1, h2⟩; exact ⟨h1, HPB.out _ _ h h2⟩))
  have M2 := Lib.hid (fun w' (h : PW w') => (hM.2.1 w').mono (R' := fun e w'' => e = .returned (.tuple #[.string O2, .string X2]) ∧ PW w'') (by rintro e w'' ⟨h1, h2⟩; exact ⟨h1, HPB.out _ _ h h2⟩))
  have M3 := Lib.hid (fun w' (h : PW w') => (hM.2.2 w').mono (R' := fun e w'' => e = .returned (.tuple #[.string O3, .string X3]) ∧ PW w'') (by rintro e w'' ⟨h1, h2⟩; exact ⟨h1, HPB.out _ _ h h2⟩))
  obtain ⟨e0, e1, e2, e3, e4, e5, e6⟩ := HC.out W hpW
  have t1 : True := trivial
  have t2 : True := trivial
  have t3 : True := trivial
  clear hM hW hPW hbW hz0 HBD
  go_wp2_with (first | (clear t1; go_at_call 29; refine (M1.out _ (by assumption)).mono ?_; rintro e w1 ⟨rfl, hp1⟩; obtain ⟨d10, d11, d12, d13, d14, d15, d16⟩ := HC.out w1 hp1) | (clear t2; go_at_call 29; refine (M2.out _ (by assumption)).mono ?_; rintro e w2 ⟨rfl, hp2⟩; obtain ⟨d20, d21, d22, d23, d24, d25, d26⟩ := HC.out w2 hp2) | (clear t3; go_at_call 29; refine (M3.out _ (by assumption)).mono ?_; rintro e w3 ⟨rfl, hp3⟩; obtain ⟨d30, d31, d32, d33, d34, d35, d36⟩ := HC.out w3 hp3))
  go_ret
  refine ⟨ret_one' (str_eq ?_), HEND.out _ (by first | assumption | exact HPB.out _ _ (by assumption) (bdn (Below.refl _ _) _))⟩
  simp [wrK, lkW, bareW, mailW, HE.out.1, HE.out.2.1, HE.out.2.2, HO.out.1, HO.out.2.1, HO.out.2.2.1, HO.out.2.2.2.1, HO.out.2.2.2.2.1, HO.out.2.2.2.2.2, ByteArray.data_append]
set_option maxRecDepth 100000 in
set_option maxHeartbeats 4000000 in
theorem wr_15 (ch sep : Int) (var : Int) (a b c : Bs) (hch : ch = 0 ∨ ch = 1) (ha : a.length ≤ 100) (hb : b.length ≤ 100) (hc : c.length ≤ 100) (w : World) :
    Calls Tryz.prog 15 #[.agg #[.int .i64 15, .int .i64 ch, .int .i64 var, .int .i64 sep, strV a, strV b, strV c]] w fun e w' => e = .returned (strV (wrK (oneC ch) (oddC ch) a b c 15 (var : Int).toNat)) ∧ Below w.heap.size w w' := by
  obtain ⟨A, hA⟩ : ∃ S : ByteArray, S = ⟨a.toArray⟩ := ⟨_, rfl⟩
  obtain ⟨B, hB⟩ : ∃ S : ByteArray, S = ⟨b.toArray⟩ := ⟨_, rfl⟩
  obtain ⟨C, hC⟩ : ∃ S : ByteArray, S = ⟨c.toArray⟩ := ⟨_, rfl⟩
  have zA : A.size ≤ 100 := by rw [hA]; show a.toArray.size ≤ _; simpa using ha
  have zB : B.size ≤ 100 := by rw [hB]; show b.toArray.size ≤ _; simpa using hb
  have zC : C.size ≤ 100 := by rw [hC]; show c.toArray.size ≤ _; simpa using hc
  have HE : Hid (A.data.toList = a ∧ B.data.toList = b ∧ C.data.toList = c) := Lib.hid ⟨by rw [hA], by rw [hB], by rw [hC]⟩
  obtain ⟨O1, X1, O2, X2, O3, X3, zO1, zX1, zO2, zX2, zO3, zX3, hO1, hX1, hO2, hX2, hO3, hX3, hM⟩ := marks_all 15 ch var sep A B C hch
  simp only [strV]
  rw [← hA, ← hB, ← hC]
  clear hA hB hC
  have HO := Lib.hid (And.intro hO1 (And.intro hX1 (And.intro hO2 (And.intro hX2 (And.intro hO3 hX3)))))
  clear hO1 hX1 hO2 hX2 hO3 hX3
  have HBD := Lib.hid (fun o => (Below.refl w.heap.size w).alloc (Nat.le_refl _) o)
  go_enter Tryz.func15, Tryz.ntmps15
  go_upto_region 1 with fail
  generalize hW : w.alloc _ = W
  obtain ⟨PW, hPW⟩ : ∃ PW : World → Prop, PW = fun w' => Below W.heap.size W w' := ⟨_, rfl⟩
  have hpW : PW W := by rw [hPW]; exact Below.refl _ _
  have hz0 : W.heap.size = w.heap.size + 1 := by rw [← hW]; simp
  have hbW : Below w.heap.size w W := by rw [← hW]; exact HBD.out _
  have HEND : Hid (∀ w', PW w' → Below w.heap.size w w') := by rw [hPW]; exact Lib.hid (fun w' h => hbW.trans (h.mono hbW.size))
  have HC : Hid (∀ w', PW w' → C7 w' w.heap.size (.int .i64 15) (.int .i64 ch) (.int .i64 var) (.int .i64 sep) (.string A) (.string B) (.string C)) := by
    rw [hPW]
    refine Lib.hid (fun w' h => ?_)
    have hb : w'.heap[w.heap.size]? = W.heap[w.heap.size]? := h.block _ (by rw [hz0]; omega)
    rw [← hW] at hb
    have hb2 := hb.trans (heap_alloc_new w _)
    exact ⟨(Lib.cell_of_heap hb2 0).trans rfl, (Lib.cell_of_heap hb2 1).trans rfl, (Lib.cell_of_heap hb2 2).trans rfl, (Lib.cell_of_heap hb2 3).trans rfl, (Lib.cell_of_heap hb2 4).trans rfl, (Lib.cell_of_heap hb2 5).trans rfl, (Lib.cell_of_heap hb2 6).trans rfl⟩
  have HPB : Hid (∀ w' w'', PW w' → Below w'.heap.size w' w'' → PW w'') := by rw [hPW]; exact Lib.hid (fun w' w'' h h2 => h.trans (h2.mono h.size))
  have M1 := Lib.hid (fun w' (h : PW w') => (hM.1 w').mono (R' := fun e w'' => e = .returned (.tuple #[.string O1, .string X1]) ∧ PW w'') (by rintro e w'' ⟨h1, h2⟩; exact ⟨h1, HPB.out _ _ h h2⟩))
  have M2 := Lib.hid (fun w' (h : PW w') => (hM.2.1 w').mono (R' := fun e w'' => e = .returned (.tuple #[.string O2, .string X2]) ∧ PW w'') (by rintro e w'' ⟨h1, h2⟩; exact ⟨h1, HPB.out _ _ h h2⟩))
  have M3 := Lib.hid (fun w' (h : PW w') => (hM.2.2 w').mono (R' := fun e w'' => e = .returned (.tuple #[.string O3, .string X3]) ∧ PW w'') (by rintro e w'' ⟨h1, h2⟩; exact ⟨h1, HPB.out _ _ h h2⟩))
  obtain ⟨e0, e1, e2, e3, e4, e5, e6⟩ := HC.out W hpW
  have t1 : True := trivial
  have t2 : True := trivial
  have t3 : True := trivial
  clear hM hW hPW hbW hz0 HBD
  go_wp2_with (first | (clear t1; go_at_call 29; refine (M1.out _ (by assumption)).mono ?_; rintro e w1 ⟨rfl, hp1⟩; obtain ⟨d10, d11, d12, d13, d14, d15, d16⟩ := HC.out w1 hp1) | (clear t2; go_at_call 29; refine (M2.out _ (by assumption)).mono ?_; rintro e w2 ⟨rfl, hp2⟩; obtain ⟨d20, d21, d22, d23, d24, d25, d26⟩ := HC.out w2 hp2) | (clear t3; go_at_call 29; refine (M3.out _ (by assumption)).mono ?_; rintro e w3 ⟨rfl, hp3⟩; obtain ⟨d30, d31, d32, d33, d34, d35, d36⟩ := HC.out w3 hp3))
  go_ret
  refine ⟨ret_one' (str_eq ?_), HEND.out _ (by first | assumption | exact HPB.out _ _ (by assumption) (bdn (Below.refl _ _) _))⟩
  simp [wrK, lkW, bareW, mailW, HE.out.1, HE.out.2.1, HE.out.2.2, HO.out.1, HO.out.2.1, HO.out.2.2.1, HO.out.2.2.2.1, HO.out.2.2.2.2.1, HO.out.2.2.2.2.2, ByteArray.data_append]
set_option maxRecDepth 100000 in
set_option maxHeartbeats 4000000 in
theorem wr_16 (ch sep : Int) (var : Int) (a b c : Bs) (hch : ch = 0 ∨ ch = 1) (ha : a.length ≤ 100) (hb : b.length ≤ 100) (hc : c.length ≤ 100) (w : World) :
    Calls Tryz.prog 15 #[.agg #[.int .i64 16, .int .i64 ch, .int .i64 var, .int .i64 sep, strV a, strV b, strV c]] w fun e w' => e = .returned (strV (wrK (oneC ch) (oddC ch) a b c 16 (var : Int).toNat)) ∧ Below w.heap.size w w' := by
  obtain ⟨A, hA⟩ : ∃ S : ByteArray, S = ⟨a.toArray⟩ := ⟨_, rfl⟩
  obtain ⟨B, hB⟩ : ∃ S : ByteArray, S = ⟨b.toArray⟩ := ⟨_, rfl⟩
  obtain ⟨C, hC⟩ : ∃ S : ByteArray, S = ⟨c.toArray⟩ := ⟨_, rfl⟩
  have zA : A.size ≤ 100 := by rw [hA]; show a.toArray.size ≤ _; simpa using ha
  have zB : B.size ≤ 100 := by rw [hB]; show b.toArray.size ≤ _; simpa using hb
  have zC : C.size ≤ 100 := by rw [hC]; show c.toArray.size ≤ _; simpa using hc
  have HE : Hid (A.data.toList = a ∧ B.data.toList = b ∧ C.data.toList = c) := Lib.hid ⟨by rw [hA], by rw [hB], by rw [hC]⟩
  obtain ⟨O1, X1, O2, X2, O3, X3, zO1, zX1, zO2, zX2, zO3, zX3, hO1, hX1, hO2, hX2, hO3, hX3, hM⟩ := marks_all 16 ch var sep A B C hch
  simp only [strV]
  rw [← hA, ← hB, ← hC]
  clear hA hB hC
  have HO := Lib.hid (And.intro hO1 (And.intro hX1 (And.intro hO2 (And.intro hX2 (And.intro hO3 hX3)))))
  clear hO1 hX1 hO2 hX2 hO3 hX3
  have HBD := Lib.hid (fun o => (Below.refl w.heap.size w).alloc (Nat.le_refl _) o)
  go_enter Tryz.func15, Tryz.ntmps15
  go_upto_region 1 with fail
  generalize hW : w.alloc _ = W
  obtain ⟨PW, hPW⟩ : ∃ PW : World → Prop, PW = fun w' => Below W.heap.size W w' := ⟨_, rfl⟩
  have hpW : PW W := by rw [hPW]; exact Below.refl _ _
  have hz0 : W.heap.size = w.heap.size + 1 := by rw [← hW]; simp
  have hbW : Below w.heap.size w W := by rw [← hW]; exact HBD.out _
  have HEND : Hid (∀ w', PW w' → Below w.heap.size w w') := by rw [hPW]; exact Lib.hid (fun w' h => hbW.trans (h.mono hbW.size))
  have HC : Hid (∀ w', PW w' → C7 w' w.heap.size (.int .i64 16) (.int .i64 ch) (.int .i64 var) (.int .i64 sep) (.string A) (.string B) (.string C)) := by
    rw [hPW]
    refine Lib.hid (fun w' h => ?_)
    have hb : w'.heap[w.heap.size]? = W.heap[w.heap.size]? := h.block _ (by rw [hz0]; omega)
    rw [← hW] at hb
    have hb2 := hb.trans (heap_alloc_new w _)
    exact ⟨(Lib.cell_of_heap hb2 0).trans rfl, (Lib.cell_of_heap hb2 1).trans rfl, (Lib.cell_of_heap hb2 2).trans rfl, (Lib.cell_of_heap hb2 3).trans rfl, (Lib.cell_of_heap hb2 4).trans rfl, (Lib.cell_of_heap hb2 5).trans rfl, (Lib.cell_of_heap hb2 6).trans rfl⟩
  have HPB : Hid (∀ w' w'', PW w' → Below w'.heap.size w' w'' → PW w'') := by rw [hPW]; exact Lib.hid (fun w' w'' h h2 => h.trans (h2.mono h.size))
  have M1 := Lib.hid (fun w' (h : PW w') => (hM.1 w').mono (R' := fun e w'' => e = .returned (.tuple #[.string O1, .string X1]) ∧ PW w'') (by rintro e w'' ⟨h1, h2⟩; exact ⟨h1, HPB.out _ _ h h2⟩))
  have M2 := Lib.hid (fun w' (h : PW w') => (hM.2.1 w').mono (R' := fun e w'' => e = .returned (.tuple #[.string O2, .string X2]) ∧ PW w'') (by rintro e w'' ⟨h1, h2⟩; exact ⟨h1, HPB.out _ _ h h2⟩))
  have M3 := Lib.hid (fun w' (h : PW w') => (hM.2.2 w').mono (R' := fun e w'' => e = .returned (.tuple #[.string O3, .string X3]) ∧ PW w'') (by rintro e w'' ⟨h1, h2⟩; exact ⟨h1, HPB.out _ _ h h2⟩))
  obtain ⟨e0, e1, e2, e3, e4, e5, e6⟩ := HC.out W hpW
  have t1 : True := trivial
  have t2 : True := trivial
  have t3 : True := trivial
  clear hM hW hPW hbW hz0 HBD
  go_wp2_with (first | (clear t1; go_at_call 29; refine (M1.out _ (by assumption)).mono ?_; rintro e w1 ⟨rfl, hp1⟩; obtain ⟨d10, d11, d12, d13, d14, d15, d16⟩ := HC.out w1 hp1) | (clear t2; go_at_call 29; refine (M2.out _ (by assumption)).mono ?_; rintro e w2 ⟨rfl, hp2⟩; obtain ⟨d20, d21, d22, d23, d24, d25, d26⟩ := HC.out w2 hp2) | (clear t3; go_at_call 29; refine (M3.out _ (by assumption)).mono ?_; rintro e w3 ⟨rfl, hp3⟩; obtain ⟨d30, d31, d32, d33, d34, d35, d36⟩ := HC.out w3 hp3))
  go_ret
  refine ⟨ret_one' (str_eq ?_), HEND.out _ (by first | assumption | exact HPB.out _ _ (by assumption) (bdn (Below.refl _ _) _))⟩
  simp [wrK, lkW, bareW, mailW, HE.out.1, HE.out.2.1, HE.out.2.2, HO.out.1, HO.out.2.1, HO.out.2.2.1, HO.out.2.2.2.1, HO.out.2.2.2.2.1, HO.out.2.2.2.2.2, ByteArray.data_append]
set_option maxRecDepth 100000 in
set_option maxHeartbeats 4000000 in
theorem wr_17 (ch sep : Int) (var : Int) (a b c : Bs) (hch : ch = 0 ∨ ch = 1) (ha : a.length ≤ 100) (hb : b.length ≤ 100) (hc : c.length ≤ 100) (w : World) :
    Calls Tryz.prog 15 #[.agg #[.int .i64 17, .int .i64 ch, .int .i64 var, .int .i64 sep, strV a, strV b, strV c]] w fun e w' => e = .returned (strV (wrK (oneC ch) (oddC ch) a b c 17 (var : Int).toNat)) ∧ Below w.heap.size w w' := by
  obtain ⟨A, hA⟩ : ∃ S : ByteArray, S = ⟨a.toArray⟩ := ⟨_, rfl⟩
  obtain ⟨B, hB⟩ : ∃ S : ByteArray, S = ⟨b.toArray⟩ := ⟨_, rfl⟩
  obtain ⟨C, hC⟩ : ∃ S : ByteArray, S = ⟨c.toArray⟩ := ⟨_, rfl⟩
  have zA : A.size ≤ 100 := by rw [hA]; show a.toArray.size ≤ _; simpa using ha
  have zB : B.size ≤ 100 := by rw [hB]; show b.toArray.size ≤ _; simpa using hb
  have zC : C.size ≤ 100 := by rw [hC]; show c.toArray.size ≤ _; simpa using hc
  have HE : Hid (A.data.toList = a ∧ B.data.toList = b ∧ C.data.toList = c) := Lib.hid ⟨by rw [hA], by rw [hB], by rw [hC]⟩
  obtain ⟨O1, X1, O2, X2, O3, X3, zO1, zX1, zO2, zX2, zO3, zX3, hO1, hX1, hO2, hX2, hO3, hX3, hM⟩ := marks_all 17 ch var sep A B C hch
  simp only [strV]
  rw [← hA, ← hB, ← hC]
  clear hA hB hC
  have HO := Lib.hid (And.intro hO1 (And.intro hX1 (And.intro hO2 (And.intro hX2 (And.intro hO3 hX3)))))
  clear hO1 hX1 hO2 hX2 hO3 hX3
  have HBD := Lib.hid (fun o => (Below.refl w.heap.size w).alloc (Nat.le_refl _) o)
  go_enter Tryz.func15, Tryz.ntmps15
  go_upto_region 1 with fail
  generalize hW : w.alloc _ = W
  obtain ⟨PW, hPW⟩ : ∃ PW : World → Prop, PW = fun w' => Below W.heap.size W w' := ⟨_, rfl⟩
  have hpW : PW W := by rw [hPW]; exact Below.refl _ _
  have hz0 : W.heap.size = w.heap.size + 1 := by rw [← hW]; simp
  have hbW : Below w.heap.size w W := by rw [← hW]; exact HBD.out _
  have HEND : Hid (∀ w', PW w' → Below w.heap.size w w') := by rw [hPW]; exact Lib.hid (fun w' h => hbW.trans (h.mono hbW.size))
  have HC : Hid (∀ w', PW w' → C7 w' w.heap.size (.int .i64 17) (.int .i64 ch) (.int .i64 var) (.int .i64 sep) (.string A) (.string B) (.string C)) := by
    rw [hPW]
    refine Lib.hid (fun w' h => ?_)
    have hb : w'.heap[w.heap.size]? = W.heap[w.heap.size]? := h.block _ (by rw [hz0]; omega)
    rw [← hW] at hb
    have hb2 := hb.trans (heap_alloc_new w _)
    exact ⟨(Lib.cell_of_heap hb2 0).trans rfl, (Lib.cell_of_heap hb2 1).trans rfl, (Lib.cell_of_heap hb2 2).trans rfl, (Lib.cell_of_heap hb2 3).trans rfl, (Lib.cell_of_heap hb2 4).trans rfl, (Lib.cell_of_heap hb2 5).trans rfl, (Lib.cell_of_heap hb2 6).trans rfl⟩
  have HPB : Hid (∀ w' w'', PW w' → Below w'.heap.size w' w'' → PW w'') := by rw [hPW]; exact Lib.hid (fun w' w'' h h2 => h.trans (h2.mono h.size))
  have M1 := Lib.hid (fun w' (h : PW w') => (hM.1 w').mono (R' := fun e w'' => e = .returned (.tuple #[.string O1, .string X1]) ∧ PW w'') (by rintro e w'' ⟨h1, h2⟩; exact ⟨h1, HPB.out _ _ h h2⟩))
  have M2 := Lib.hid (fun w' (h : PW w') => (hM.2.1 w').mono (R' := fun e w'' => e = .returned (.tuple #[.string O2, .string X2]) ∧ PW w'') (by rintro e w'' ⟨h1, h2⟩; exact ⟨h1, HPB.out _ _ h h2⟩))
  have M3 := Lib.hid (fun w' (h : PW w') => (hM.2.2 w').mono (R' := fun e w'' => e = .returned (.tuple #[.string O3, .string X3]) ∧ PW w'') (by rintro e w'' ⟨h1, h2⟩; exact ⟨h1, HPB.out _ _ h h2⟩))
  obtain ⟨e0, e1, e2, e3, e4, e5, e6⟩ := HC.out W hpW
  have t1 : True := trivial
  have t2 : True := trivial
  have t3 : True := trivial
  clear hM hW hPW hbW hz0 HBD
  go_wp2_with (first | (clear t1; go_at_call 29; refine (M1.out _ (by assumption)).mono ?_; rintro e w1 ⟨rfl, hp1⟩; obtain ⟨d10, d11, d12, d13, d14, d15, d16⟩ := HC.out w1 hp1) | (clear t2; go_at_call 29; refine (M2.out _ (by assumption)).mono ?_; rintro e w2 ⟨rfl, hp2⟩; obtain ⟨d20, d21, d22, d23, d24, d25, d26⟩ := HC.out w2 hp2) | (clear t3; go_at_call 29; refine (M3.out _ (by assumption)).mono ?_; rintro e w3 ⟨rfl, hp3⟩; obtain ⟨d30, d31, d32, d33, d34, d35, d36⟩ := HC.out w3 hp3))
  go_ret
  refine ⟨ret_one' (str_eq ?_), HEND.out _ (by first | assumption | exact HPB.out _ _ (by assumption) (bdn (Below.refl _ _) _))⟩
  simp [wrK, lkW, bareW, mailW, HE.out.1, HE.out.2.1, HE.out.2.2, HO.out.1, HO.out.2.1, HO.out.2.2.1, HO.out.2.2.2.1, HO.out.2.2.2.2.1, HO.out.2.2.2.2.2, ByteArray.data_append]
set_option maxRecDepth 100000 in
set_option maxHeartbeats 4000000 in
theorem wr_18 (ch sep : Int) (var : Int) (a b c : Bs) (hch : ch = 0 ∨ ch = 1) (ha : a.length ≤ 100) (hb : b.length ≤ 100) (hc : c.length ≤ 100) (w : World) :
    Calls Tryz.prog 15 #[.agg #[.int .i64 18, .int .i64 ch, .int .i64 var, .int .i64 sep, strV a, strV b, strV c]] w fun e w' => e = .returned (strV (wrK (oneC ch) (oddC ch) a b c 18 (var : Int).toNat)) ∧ Below w.heap.size w w' := by
  obtain ⟨A, hA⟩ : ∃ S : ByteArray, S = ⟨a.toArray⟩ := ⟨_, rfl⟩
  obtain ⟨B, hB⟩ : ∃ S : ByteArray, S = ⟨b.toArray⟩ := ⟨_, rfl⟩
  obtain ⟨C, hC⟩ : ∃ S : ByteArray, S = ⟨c.toArray⟩ := ⟨_, rfl⟩
  have zA : A.size ≤ 100 := by rw [hA]; show a.toArray.size ≤ _; simpa using ha
  have zB : B.size ≤ 100 := by rw [hB]; show b.toArray.size ≤ _; simpa using hb
  have zC : C.size ≤ 100 := by rw [hC]; show c.toArray.size ≤ _; simpa using hc
  have HE : Hid (A.data.toList = a ∧ B.data.toList = b ∧ C.data.toList = c) := Lib.hid ⟨by rw [hA], by rw [hB], by rw [hC]⟩
  obtain ⟨O1, X1, O2, X2, O3, X3, zO1, zX1, zO2, zX2, zO3, zX3, hO1, hX1, hO2, hX2, hO3, hX3, hM⟩ := marks_all 18 ch var sep A B C hch
  simp only [strV]
  rw [← hA, ← hB, ← hC]
  clear hA hB hC
  have HO := Lib.hid (And.intro hO1 (And.intro hX1 (And.intro hO2 (And.intro hX2 (And.intro hO3 hX3)))))
  clear hO1 hX1 hO2 hX2 hO3 hX3
  have HBD := Lib.hid (fun o => (Below.refl w.heap.size w).alloc (Nat.le_refl _) o)
  go_enter Tryz.func15, Tryz.ntmps15
  go_upto_region 1 with fail
  generalize hW : w.alloc _ = W
  obtain ⟨PW, hPW⟩ : ∃ PW : World → Prop, PW = fun w' => Below W.heap.size W w' := ⟨_, rfl⟩
  have hpW : PW W := by rw [hPW]; exact Below.refl _ _
  have hz0 : W.heap.size = w.heap.size + 1 := by rw [← hW]; simp
  have hbW : Below w.heap.size w W := by rw [← hW]; exact HBD.out _
  have HEND : Hid (∀ w', PW w' → Below w.heap.size w w') := by rw [hPW]; exact Lib.hid (fun w' h => hbW.trans (h.mono hbW.size))
  have HC : Hid (∀ w', PW w' → C7 w' w.heap.size (.int .i64 18) (.int .i64 ch) (.int .i64 var) (.int .i64 sep) (.string A) (.string B) (.string C)) := by
    rw [hPW]
    refine Lib.hid (fun w' h => ?_)
    have hb : w'.heap[w.heap.size]? = W.heap[w.heap.size]? := h.block _ (by rw [hz0]; omega)
    rw [← hW] at hb
    have hb2 := hb.trans (heap_alloc_new w _)
    exact ⟨(Lib.cell_of_heap hb2 0).trans rfl, (Lib.cell_of_heap hb2 1).trans rfl, (Lib.cell_of_heap hb2 2).trans rfl, (Lib.cell_of_heap hb2 3).trans rfl, (Lib.cell_of_heap hb2 4).trans rfl, (Lib.cell_of_heap hb2 5).trans rfl, (Lib.cell_of_heap hb2 6).trans rfl⟩
  have HPB : Hid (∀ w' w'', PW w' → Below w'.heap.size w' w'' → PW w'') := by rw [hPW]; exact Lib.hid (fun w' w'' h h2 => h.trans (h2.mono h.size))
  have M1 := Lib.hid (fun w' (h : PW w') => (hM.1 w').mono (R' := fun e w'' => e = .returned (.tuple #[.string O1, .string X1]) ∧ PW w'') (by rintro e w'' ⟨h1, h2⟩; exact ⟨h1, HPB.out _ _ h h2⟩))
  have M2 := Lib.hid (fun w' (h : PW w') => (hM.2.1 w').mono (R' := fun e w'' => e = .returned (.tuple #[.string O2, .string X2]) ∧ PW w'') (by rintro e w'' ⟨h1, h2⟩; exact ⟨h1, HPB.out _ _ h h2⟩))
  have M3 := Lib.hid (fun w' (h : PW w') => (hM.2.2 w').mono (R' := fun e w'' => e = .returned (.tuple #[.string O3, .string X3]) ∧ PW w'') (by rintro e w'' ⟨h1, h2⟩; exact ⟨h1, HPB.out _ _ h h2⟩))
  obtain ⟨e0, e1, e2, e3, e4, e5, e6⟩ := HC.out W hpW
  have t1 : True := trivial
  have t2 : True := trivial
  have t3 : True := trivial
  clear hM hW hPW hbW hz0 HBD
  go_wp2_with (first | (clear t1; go_at_call 29; refine (M1.out _ (by assumption)).mono ?_; rintro e w1 ⟨rfl, hp1⟩; obtain ⟨d10, d11, d12, d13, d14, d15, d16⟩ := HC.out w1 hp1) | (clear t2; go_at_call 29; refine (M2.out _ (by assumption)).mono ?_; rintro e w2 ⟨rfl, hp2⟩; obtain ⟨d20, d21, d22, d23, d24, d25, d26⟩ := HC.out w2 hp2) | (clear t3; go_at_call 29; refine (M3.out _ (by assumption)).mono ?_; rintro e w3 ⟨rfl, hp3⟩; obtain ⟨d30, d31, d32, d33, d34, d35, d36⟩ := HC.out w3 hp3))
  go_ret
  refine ⟨ret_one' (str_eq ?_), HEND.out _ (by first | assumption | exact HPB.out _ _ (by assumption) (bdn (Below.refl _ _) _))⟩
  simp [wrK, lkW, bareW, mailW, HE.out.1, HE.out.2.1, HE.out.2.2, HO.out.1, HO.out.2.1, HO.out.2.2.1, HO.out.2.2.2.1, HO.out.2.2.2.2.1, HO.out.2.2.2.2.2, ByteArray.data_append]
set_option maxRecDepth 100000 in
set_option maxHeartbeats 4000000 in
theorem wr_19 (ch sep : Int) (var : Int) (a b c : Bs) (hch : ch = 0 ∨ ch = 1) (ha : a.length ≤ 100) (hb : b.length ≤ 100) (hc : c.length ≤ 100) (w : World) :
    Calls Tryz.prog 15 #[.agg #[.int .i64 19, .int .i64 ch, .int .i64 var, .int .i64 sep, strV a, strV b, strV c]] w fun e w' => e = .returned (strV (wrK (oneC ch) (oddC ch) a b c 19 (var : Int).toNat)) ∧ Below w.heap.size w w' := by
  obtain ⟨A, hA⟩ : ∃ S : ByteArray, S = ⟨a.toArray⟩ := ⟨_, rfl⟩
  obtain ⟨B, hB⟩ : ∃ S : ByteArray, S = ⟨b.toArray⟩ := ⟨_, rfl⟩
  obtain ⟨C, hC⟩ : ∃ S : ByteArray, S = ⟨c.toArray⟩ := ⟨_, rfl⟩
  have zA : A.size ≤ 100 := by rw [hA]; show a.toArray.size ≤ _; simpa using ha
  have zB : B.size ≤ 100 := by rw [hB]; show b.toArray.size ≤ _; simpa using hb
  have zC : C.size ≤ 100 := by rw [hC]; show c.toArray.size ≤ _; simpa using hc
  have HE : Hid (A.data.toList = a ∧ B.data.toList = b ∧ C.data.toList = c) := Lib.hid ⟨by rw [hA], by rw [hB], by rw [hC]⟩
  obtain ⟨O1, X1, O2, X2, O3, X3, zO1, zX1, zO2, zX2, zO3, zX3, hO1, hX1, hO2, hX2, hO3, hX3, hM⟩ := marks_all 19 ch var sep A B C hch
  simp only [strV]
  rw [← hA, ← hB, ← hC]
  clear hA hB hC
  have HO := Lib.hid (And.intro hO1 (And.intro hX1 (And.intro hO2 (And.intro hX2 (And.intro hO3 hX3)))))
  clear hO1 hX1 hO2 hX2 hO3 hX3
  have HBD := Lib.hid (fun o => (Below.refl w.heap.size w).alloc (Nat.le_refl _) o)
  go_enter Tryz.func15, Tryz.ntmps15
  go_upto_region 1 with fail
  generalize hW : w.alloc _ = W
  obtain ⟨PW, hPW⟩ : ∃ PW : World → Prop, PW = fun w' => Below W.heap.size W w' := ⟨_, rfl⟩
  have hpW : PW W := by rw [hPW]; exact Below.refl _ _
  have hz0 : W.heap.size = w.heap.size + 1 := by rw [← hW]; simp
  have hbW : Below w.heap.size w W := by rw [← hW]; exact HBD.out _
  have HEND : Hid (∀ w', PW w' → Below w.heap.size w w') := by rw [hPW]; exact Lib.hid (fun w' h => hbW.trans (h.mono hbW.size))
  have HC : Hid (∀ w', PW w' → C7 w' w.heap.size (.int .i64 19) (.int .i64 ch) (.int .i64 var) (.int .i64 sep) (.string A) (.string B) (.string C)) := by
    rw [hPW]
    refine Lib.hid (fun w' h => ?_)
    have hb : w'.heap[w.heap.size]? = W.heap[w.heap.size]? := h.block _ (by rw [hz0]; omega)
    rw [← hW] at hb
    have hb2 := hb.trans (heap_alloc_new w _)
    exact ⟨(Lib.cell_of_heap hb2 0).trans rfl, (Lib.cell_of_heap hb2 1).trans rfl, (Lib.cell_of_heap hb2 2).trans rfl, (Lib.cell_of_heap hb2 3).trans rfl, (Lib.cell_of_heap hb2 4).trans rfl, (Lib.cell_of_heap hb2 5).trans rfl, (Lib.cell_of_heap hb2 6).trans rfl⟩
  have HPB : Hid (∀ w' w'', PW w' → Below w'.heap.size w' w'' → PW w'') := by rw [hPW]; exact Lib.hid (fun w' w'' h h2 => h.trans (h2.mono h.size))
  have M1 := Lib.hid (fun w' (h : PW w') => (hM.1 w').mono (R' := fun e w'' => e = .returned (.tuple #[.string O1, .string X1]) ∧ PW w'') (by rintro e w'' ⟨h1, h2⟩; exact ⟨h1, HPB.out _ _ h h2⟩))
  have M2 := Lib.hid (fun w' (h : PW w') => (hM.2.1 w').mono (R' := fun e w'' => e = .returned (.tuple #[.string O2, .string X2]) ∧ PW w'') (by rintro e w'' ⟨h1, h2⟩; exact ⟨h1, HPB.out _ _ h h2⟩))
  have M3 := Lib.hid (fun w' (h : PW w') => (hM.2.2 w').mono (R' := fun e w'' => e = .returned (.tuple #[.string O3, .string X3]) ∧ PW w'') (by rintro e w'' ⟨h1, h2⟩; exact ⟨h1, HPB.out _ _ h h2⟩))
  obtain ⟨e0, e1, e2, e3, e4, e5, e6⟩ := HC.out W hpW
  have t1 : True := trivial
  have t2 : True := trivial
  have t3 : True := trivial
  clear hM hW hPW hbW hz0 HBD
  go_wp2_with (first | (clear t1; go_at_call 29; refine (M1.out _ (by assumption)).mono ?_; rintro e w1 ⟨rfl, hp1⟩; obtain ⟨d10, d11, d12, d13, d14, d15, d16⟩ := HC.out w1 hp1) | (clear t2; go_at_call 29; refine (M2.out _ (by assumption)).mono ?_; rintro e w2 ⟨rfl, hp2⟩; obtain ⟨d20, d21, d22, d23, d24, d25, d26⟩ := HC.out w2 hp2) | (clear t3; go_at_call 29; refine (M3.out _ (by assumption)).mono ?_; rintro e w3 ⟨rfl, hp3⟩; obtain ⟨d30, d31, d32, d33, d34, d35, d36⟩ := HC.out w3 hp3))
  go_ret
  refine ⟨ret_one' (str_eq ?_), HEND.out _ (by first | assumption | exact HPB.out _ _ (by assumption) (bdn (Below.refl _ _) _))⟩
  simp [wrK, lkW, bareW, mailW, HE.out.1, HE.out.2.1, HE.out.2.2, HO.out.1, HO.out.2.1, HO.out.2.2.1, HO.out.2.2.2.1, HO.out.2.2.2.2.1, HO.out.2.2.2.2.2, ByteArray.data_append]
set_option maxRecDepth 100000 in
set_option maxHeartbeats 4000000 in
theorem wr_20 (ch sep : Int) (var : Int) (a b c : Bs) (hch : ch = 0 ∨ ch = 1) (ha : a.length ≤ 100) (hb : b.length ≤ 100) (hc : c.length ≤ 100) (w : World) :
    Calls Tryz.prog 15 #[.agg #[.int .i64 20, .int .i64 ch, .int .i64 var, .int .i64 sep, strV a, strV b, strV c]] w fun e w' => e = .returned (strV (wrK (oneC ch) (oddC ch) a b c 20 (var : Int).toNat)) ∧ Below w.heap.size w w' := by
  obtain ⟨A, hA⟩ : ∃ S : ByteArray, S = ⟨a.toArray⟩ := ⟨_, rfl⟩
  obtain ⟨B, hB⟩ : ∃ S : ByteArray, S = ⟨b.toArray⟩ := ⟨_, rfl⟩
  obtain ⟨C, hC⟩ : ∃ S : ByteArray, S = ⟨c.toArray⟩ := ⟨_, rfl⟩
  have zA : A.size ≤ 100 := by rw [hA]; show a.toArray.size ≤ _; simpa using ha
  have zB : B.size ≤ 100 := by rw [hB]; show b.toArray.size ≤ _; simpa using hb
  have zC : C.size ≤ 100 := by rw [hC]; show c.toArray.size ≤ _; simpa using hc
  have HE : Hid (A.data.toList = a ∧ B.data.toList = b ∧ C.data.toList = c) := Lib.hid ⟨by rw [hA], by rw [hB], by rw [hC]⟩
  obtain ⟨O1, X1, O2, X2, O3, X3, zO1, zX1, zO2, zX2, zO3, zX3, hO1, hX1, hO2, hX2, hO3, hX3, hM⟩ := marks_all 20 ch var sep A B C hch
  simp only [strV]
  rw [← hA, ← hB, ← hC]
  clear hA hB hC
  have HO := Lib.hid (And.intro hO1 (And.intro hX1 (And.intro hO2 (And.intro hX2 (And.intro hO3 hX3)))))
  clear hO1 hX1 hO2 hX2 hO3 hX3
  have HBD := Lib.hid (fun o => (Below.refl w.heap.size w).alloc (Nat.le_refl _) o)
  go_enter Tryz.func15, Tryz.ntmps15
  go_upto_region 1 with fail
  generalize hW : w.alloc _ = W
  obtain ⟨PW, hPW⟩ : ∃ PW : World → Prop, PW = fun w' => Below W.heap.size W w' := ⟨_, rfl⟩
  have hpW : PW W := by rw [hPW]; exact Below.refl _ _
  have hz0 : W.heap.size = w.heap.size + 1 := by rw [← hW]; simp
  have hbW : Below w.heap.size w W := by rw [← hW]; exact HBD.out _
  have HEND : Hid (∀ w', PW w' → Below w.heap.size w w') := by rw [hPW]; exact Lib.hid (fun w' h => hbW.trans (h.mono hbW.size))
  have HC : Hid (∀ w', PW w' → C7 w' w.heap.size (.int .i64 20) (.int .i64 ch) (.int .i64 var) (.int .i64 sep) (.string A) (.string B) (.string C)) := by
    rw [hPW]
    refine Lib.hid (fun w' h => ?_)
    have hb : w'.heap[w.heap.size]? = W.heap[w.heap.size]? := h.block _ (by rw [hz0]; omega)
    rw [← hW] at hb
    have hb2 := hb.trans (heap_alloc_new w _)
    exact ⟨(Lib.cell_of_heap hb2 0).trans rfl, (Lib.cell_of_heap hb2 1).trans rfl, (Lib.cell_of_heap hb2 2).trans rfl, (Lib.cell_of_heap hb2 3).trans rfl, (Lib.cell_of_heap hb2 4).trans rfl, (Lib.cell_of_heap hb2 5).trans rfl, (Lib.cell_of_heap hb2 6).trans rfl⟩
  have HPB : Hid (∀ w' w'', PW w' → Below w'.heap.size w' w'' → PW w'') := by rw [hPW]; exact Lib.hid (fun w' w'' h h2 => h.trans (h2.mono h.size))
  have M1 := Lib.hid (fun w' (h : PW w') => (hM.1 w').mono (R' := fun e w'' => e = .returned (.tuple #[.string O1, .string X1]) ∧ PW w'') (by rintro e w'' ⟨h1, h2⟩; exact ⟨h1, HPB.out _ _ h h2⟩))
  have M2 := Lib.hid (fun w' (h : PW w') => (hM.2.1 w').mono (R' := fun e w'' => e = .returned (.tuple #[.string O2, .string X2]) ∧ PW w'') (by rintro e w'' ⟨h1, h2⟩; exact ⟨h1, HPB.out _ _ h h2⟩))
  have M3 := Lib.hid (fun w' (h : PW w') => (hM.2.2 w').mono (R' := fun e w'' => e = .returned (.tuple #[.string O3, .string X3]) ∧ PW w'') (by rintro e w'' ⟨h1, h2⟩; exact ⟨h1, HPB.out _ _ h h2⟩))
  obtain ⟨e0, e1, e2, e3, e4, e5, e6⟩ := HC.out W hpW
  have t1 : True := trivial
  have t2 : True := trivial
  have t3 : True := trivial
  clear hM hW hPW hbW hz0 HBD
  go_wp2_with (first | (clear t1; go_at_call 29; refine (M1.out _ (by assumption)).mono ?_; rintro e w1 ⟨rfl, hp1⟩; obtain ⟨d10, d11, d12, d13, d14, d15, d16⟩ := HC.out w1 hp1) | (clear t2; go_at_call 29; refine (M2.out _ (by assumption)).mono ?_; rintro e w2 ⟨rfl, hp2⟩; obtain ⟨d20, d21, d22, d23, d24, d25, d26⟩ := HC.out w2 hp2) | (clear t3; go_at_call 29; refine (M3.out _ (by assumption)).mono ?_; rintro e w3 ⟨rfl, hp3⟩; obtain ⟨d30, d31, d32, d33, d34, d35, d36⟩ := HC.out w3 hp3))
  go_ret
  refine ⟨ret_one' (str_eq ?_), HEND.out _ (by first | assumption | exact HPB.out _ _ (by assumption) (bdn (Below.refl _ _) _))⟩
  simp [wrK, lkW, bareW, mailW, HE.out.1, HE.out.2.1, HE.out.2.2, HO.out.1, HO.out.2.1, HO.out.2.2.1, HO.out.2.2.2.1, HO.out.2.2.2.2.1, HO.out.2.2.2.2.2, ByteArray.data_append]
end Go.Proofs.YtalajbfpilhfgaaGreatDoor
