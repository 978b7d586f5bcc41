/-
  FnInlineAlone: a new parser.
  FnInlineAlone: the parser made by the thin package.
  FnInlineAlone: a new paragraph is parsed.
-/
import Derived.Test.YtalajbfpilhfgaaGreatDoorK09
import Derived.Test.YtalajbfpilhfgaaGreatDoorK21
import Derived.Carry
set_option linter.unusedVariables false
set_option linter.unusedSimpArgs false
namespace Go.Proofs.YtalajbfpilhfgaaGreatDoor
open Go.RowKit

set_option maxRecDepth 100000 in
set_option maxHeartbeats 4000000 in
theorem opt42 (ext : Nat) (w : World) : Calls Tryz.prog 42 #[.int .i64 ext] w fun r w' => r = .returned (.func (.func 57) #[] #[.pointer (some ⟨w.heap.size, 0, none⟩)]) ∧ w' = w.alloc (.cells #[.int .i64 ext] 95) := by
  go_enter Tryz.func42, Tryz.ntmps42
  go_wp2
  go_ret
  exact ⟨rfl, rfl⟩
theorem info125 : (Tryz.prog.info? 125).map (fun i => (i.zero, i.size, i.bytes)) = some (some nilP, 1, 8) := by kernel_rfl
theorem mk105 (W : World) : (Instr.makeSlice 105 (.int .i64 0) (.int .i64 0)).run Tryz.prog W = .ok (.slice (some ⟨W.heap.size, 0, none⟩) 0 0) (W.alloc (.cells #[] 125)) := by
  obtain ⟨i0, hi, hz0, hz1, hz2⟩ := info_parts info125
  have h := run_makeSlice (P := Tryz.prog) W 105 125 i0 nilP Tryz.underlying105 hi hz0 .i64 .i64 0 0 (by decide) (by decide) (by simp) (by simp) (by decide)
  rw [show madeCells nilP.cells ((0 : Int).toNat * i0.size) = #[] from Array.eq_empty_of_size_eq_zero (by rw [size_madeCells]; simp)] at h
  exact h
theorem md_new (w : World) (A : Array Value) : MdIs (w.alloc (.cells A 107)) w.heap.size A := by
  show (w.heap.push _)[w.heap.size]? = _
  simp
theorem MdIs.below {w w' : World} {a : Nat} {A : Array Value} (h : MdIs w a A) (hb : Below w.heap.size w w') : MdIs w' a A := (hb.block a h.lt).trans h
theorem MdIs.alloc {w : World} {a : Nat} {A : Array Value} (h : MdIs w a A) (o : Obj) : MdIs (w.alloc o) a A := h.below ((Below.refl _ w).alloc (Nat.le_refl _) o)
theorem zero_size : Tryz.zeroCells107.size = 269 := by kernel_rfl
theorem zero_cb : (List.range 256).all (fun i => match Tryz.zeroCells107[3 + i]? with | some .nilFunc => true | _ => false) = true := by kernel_rfl
theorem zero_cbs (i : Nat) (h : i < 256) : Tryz.zeroCells107[3 + i]? = some .nilFunc := by
  have := List.all_eq_true.1 zero_cb i (List.mem_range.2 h)
  generalize Tryz.zeroCells107[3 + i]? = o at this ⊢
  split at this
  · rfl
  · cases this
theorem zero_260 : Tryz.zeroCells107[260]? = some (.int .i64 0) := by kernel_rfl
theorem some_at {C : Array Value} {n : Nat} (h : C.size = n) (i : Nat) (hi : i < n) : ∃ v, C[i]? = some v := ⟨_, Array.getElem?_eq_getElem (by omega)⟩

/-- The parser's cells ahead of the callbacks. -/
structure PreMd (C : Array Value) (ext : Nat) : Prop where
  size : C.size = 269
  cbs : ∀ i, i < 256 → C[3 + i]? = some .nilFunc
  ext : C[259]? = some (.int .i64 ext)
  nest : C[260]? = some (.int .i64 0)
  max : C[261]? = some (.int .i64 16)
  ins : C[262]? = some (.bool false)
theorem pre_mk (ext : Nat) (v2 : Value) : PreMd ((((Tryz.zeroCells107.setIfInBounds 259 (.int .i64 ext)).setIfInBounds 2 v2).setIfInBounds 261 (.int .i64 16)).setIfInBounds 262 (.bool false)) ext := by
  refine ⟨by simp only [Array.size_setIfInBounds]; exact zero_size, fun i hi => ?_, ?_, ?_, ?_, ?_⟩ <;> simp only [Array.getElem?_setIfInBounds, Array.size_setIfInBounds, zero_size]
  · rw [if_neg (by omega), if_neg (by omega), if_neg (by omega), if_neg (by omega)]
    exact zero_cbs i hi
  · rfl
  · exact zero_260
  · rfl
  · rfl

/-- The parser's cells, some callbacks set. -/
structure MdPart (C : Array Value) (ext : Nat) (f : Nat → Value) : Prop where
  size : C.size = 269
  cbs : ∀ i, i < 256 → C[3 + i]? = some (f i)
  ext : C[259]? = some (.int .i64 ext)
  nest : C[260]? = some (.int .i64 0)
  max : C[261]? = some (.int .i64 16)
  ins : C[262]? = some (.bool false)
def setF (f : Nat → Value) (c : Nat) (v : Value) : Nat → Value := fun i => if i = c then v else f i
theorem MdPart.cb {C : Array Value} {ext : Nat} {f : Nat → Value} (h : MdPart C ext f) (c : Nat) (hc : c < 256) (v : Value) : MdPart (C.setIfInBounds (3 + c) v) ext (setF f c v) := by
  have hs := h.size
  refine ⟨by rw [Array.size_setIfInBounds]; exact h.size, fun i hi => ?_, ?_, ?_, ?_, ?_⟩ <;> rw [Array.getElem?_setIfInBounds]
  · unfold setF
    by_cases e : i = c
    · subst e
      rw [if_pos rfl, if_pos (by omega), if_pos rfl]
    · rw [if_neg (by omega), if_neg e]
      exact h.cbs i hi
  · rw [if_neg (by omega)]; exact h.ext
  · rw [if_neg (by omega)]; exact h.nest
  · rw [if_neg (by omega)]; exact h.max
  · rw [if_neg (by omega)]; exact h.ins
theorem MdPart.other {C : Array Value} {ext : Nat} {f : Nat → Value} (h : MdPart C ext f) (c : Nat) (hc : 263 ≤ c) (v : Value) : MdPart (C.setIfInBounds c v) ext f := by
  refine ⟨by rw [Array.size_setIfInBounds]; exact h.size, fun i hi => ?_, ?_, ?_, ?_, ?_⟩ <;> rw [Array.getElem?_setIfInBounds]
  · rw [if_neg (by omega)]; exact h.cbs i hi
  · rw [if_neg (by omega)]; exact h.ext
  · rw [if_neg (by omega)]; exact h.nest
  · rw [if_neg (by omega)]; exact h.max
  · rw [if_neg (by omega)]; exact h.ins
theorem PreMd.part {C : Array Value} {ext : Nat} (h : PreMd C ext) : MdPart C ext (fun _ => .nilFunc) := ⟨h.size, h.cbs, h.ext, h.nest, h.max, h.ins⟩
theorem MdPart.arr {C : Array Value} {ext : Nat} {f : Nat → Value} (h : MdPart C ext f) (hf : ∀ x : UInt8, f x.toNat = cbV ext x) : MdArr C ext 0 false :=
  ⟨fun x => by rw [h.cbs _ x.toNat_lt, hf], h.ext, h.nest, h.max, h.ins⟩
def fn (n : Nat) : Value := .func (.func n) #[] #[]
def fA : Nat → Value := setF (setF (setF (fun _ => .nilFunc) 32 (fn 46)) 42 (fn 47)) 95 (fn 47)
def fB (ext : Nat) : Nat → Value := if ext.testBit 5 = true then setF fA 126 (fn 47) else fA
def fC (ext : Nat) : Nat → Value := setF (setF (setF (setF (setF (setF (setF (setF (fB ext) 96 (fn 48)) 10 (fn 49)) 91 (fn 50)) 60 (fn 51)) 92 (fn 52)) 38 (fn 53)) 33 (fn 54)) 94 (fn 55)
def fD (ext : Nat) : Nat → Value := if ext.testBit 4 = true then setF (setF (setF (setF (setF (setF (fC ext) 104 (fn 56)) 109 (fn 56)) 102 (fn 56)) 72 (fn 56)) 77 (fn 56)) 70 (fn 56) else fC ext
theorem ne_nat {x c : UInt8} (h : ¬ x = c) : ¬ (x.toNat = c.toNat) := fun e => h (UInt8.toNat_inj.mp e)
theorem fD_cb (ext : Nat) (x : UInt8) : fD ext x.toNat = cbV ext x := by
  unfold fD cbV cbN fC fB fA setF
  by_cases h32 : x = 32
  · subst h32; cases ext.testBit 5 <;> cases ext.testBit 4 <;> rfl
  by_cases h42 : x = 42
  · subst h42; cases ext.testBit 5 <;> cases ext.testBit 4 <;> rfl
  by_cases h95 : x = 95
  · subst h95; cases ext.testBit 5 <;> cases ext.testBit 4 <;> rfl
  by_cases h126 : x = 126
  · subst h126; cases ext.testBit 5 <;> cases ext.testBit 4 <;> rfl
  by_cases h96 : x = 96
  · subst h96; cases ext.testBit 5 <;> cases ext.testBit 4 <;> rfl
  by_cases h10 : x = 10
  · subst h10; cases ext.testBit 5 <;> cases ext.testBit 4 <;> rfl
  by_cases h91 : x = 91
  · subst h91; cases ext.testBit 5 <;> cases ext.testBit 4 <;> rfl
  by_cases h60 : x = 60
  · subst h60; cases ext.testBit 5 <;> cases ext.testBit 4 <;> rfl
  by_cases h92 : x = 92
  · subst h92; cases ext.testBit 5 <;> cases ext.testBit 4 <;> rfl
  by_cases h38 : x = 38
  · subst h38; cases ext.testBit 5 <;> cases ext.testBit 4 <;> rfl
  by_cases h33 : x = 33
  · subst h33; cases ext.testBit 5 <;> cases ext.testBit 4 <;> rfl
  by_cases h94 : x = 94
  · subst h94; cases ext.testBit 5 <;> cases ext.testBit 4 <;> rfl
  by_cases h104 : x = 104
  · subst h104; cases ext.testBit 5 <;> cases ext.testBit 4 <;> rfl
  by_cases h109 : x = 109
  · subst h109; cases ext.testBit 5 <;> cases ext.testBit 4 <;> rfl
  by_cases h102 : x = 102
  · subst h102; cases ext.testBit 5 <;> cases ext.testBit 4 <;> rfl
  by_cases h72 : x = 72
  · subst h72; cases ext.testBit 5 <;> cases ext.testBit 4 <;> rfl
  by_cases h77 : x = 77
  · subst h77; cases ext.testBit 5 <;> cases ext.testBit 4 <;> rfl
  by_cases h70 : x = 70
  · subst h70; cases ext.testBit 5 <;> cases ext.testBit 4 <;> rfl

  have n32 : ¬ (x.toNat = 32) := ne_nat h32
  have n42 : ¬ (x.toNat = 42) := ne_nat h42
  have n95 : ¬ (x.toNat = 95) := ne_nat h95
  have n126 : ¬ (x.toNat = 126) := ne_nat h126
  have n96 : ¬ (x.toNat = 96) := ne_nat h96
  have n10 : ¬ (x.toNat = 10) := ne_nat h10
  have n91 : ¬ (x.toNat = 91) := ne_nat h91
  have n60 : ¬ (x.toNat = 60) := ne_nat h60
  have n92 : ¬ (x.toNat = 92) := ne_nat h92
  have n38 : ¬ (x.toNat = 38) := ne_nat h38
  have n33 : ¬ (x.toNat = 33) := ne_nat h33
  have n94 : ¬ (x.toNat = 94) := ne_nat h94
  have n104 : ¬ (x.toNat = 104) := ne_nat h104
  have n109 : ¬ (x.toNat = 109) := ne_nat h109
  have n102 : ¬ (x.toNat = 102) := ne_nat h102
  have n72 : ¬ (x.toNat = 72) := ne_nat h72
  have n77 : ¬ (x.toNat = 77) := ne_nat h77
  have n70 : ¬ (x.toNat = 70) := ne_nat h70
  simp only [h32, n32, h42, n42, h95, n95, h126, n126, h96, n96, h10, n10, h91, n91, h60, n60, h92, n92, h38, n38, h33, n33, h94, n94, h104, n104, h109, n109, h102, n102, h72, n72, h77, n77, h70, n70, if_false, or_self, ite_self]
  cases ext.testBit 5 <;> cases ext.testBit 4 <;> simp only [n32, n42, n95, n126, n96, n10, n91, n60, n92, n38, n33, n94, n104, n109, n102, n72, n77, n70, if_false, if_true, Bool.false_eq_true]
set_option maxRecDepth 100000 in
set_option maxHeartbeats 8000000 in
theorem new41 (g b ext : Nat) (hx : ext ≤ 131070) (w : World) (hg : w.cell? ⟨g, 0, none⟩ = some (.func (.func 57) #[] #[.pointer (some ⟨b, 0, none⟩)])) (hb : w.cell? ⟨b, 0, none⟩ = some (.int .i64 ext)) :
    Calls Tryz.prog 41 #[.slice (some ⟨g, 0, none⟩) 1 1] w fun r w' => ∃ M C, r = .returned (ptr M) ∧ Below w.heap.size w w' ∧ MdIs w' M C ∧ MdArr C ext 0 false := by
  have hmk : ∀ W, (Instr.makeMap 101 none).run Tryz.prog W = .ok (.map (some W.heap.size)) (W.alloc (.map #[] 0)) := fun W => rfl
  have hms := mk105
  have CN := Lib.hid (fun w => new39 0 w)
  have B5 := Lib.hid (and_bit ext 5 hx (by omega))
  have B4 := Lib.hid (and_bit ext 4 hx (by omega))
  have B10 := Lib.hid (and_bit ext 10 hx (by omega))
  go_enter Tryz.func41, Tryz.ntmps41
  go_upto_region 2 with fail
  obtain ⟨Z, hZ⟩ : ∃ Z, Z = Tryz.zeroCells107 := ⟨_, rfl⟩
  rw [← hZ]
  obtain ⟨W0, hW0⟩ : ∃ W0, W0 = w.alloc (.cells Z 107) := ⟨_, rfl⟩
  rw [← hW0]
  obtain ⟨M, hM⟩ : ∃ M, M = w.heap.size := ⟨_, rfl⟩
  rw [← hM]
  have hb0' : Below w.heap.size w W0 := by rw [hW0]; exact (Below.refl _ w).alloc (Nat.le_refl _) _
  have hg0 : W0.cell? ⟨g, 0, none⟩ = some (.func (.func 57) #[] #[.pointer (some ⟨b, 0, none⟩)]) := by rw [hb0'.cell (p := ⟨g, 0, none⟩) (World.block_lt_of_cell? w _ hg)]; exact hg
  have hb0 : W0.cell? ⟨b, 0, none⟩ = some (.int .i64 ext) := by rw [hb0'.cell (p := ⟨b, 0, none⟩) (World.block_lt_of_cell? w _ hb)]; exact hb
  have HBE := Lib.hid hb0'
  have HZ := Lib.hid hZ
  have HM := Lib.hid hM
  have HMD0 : Hid (MdIs W0 M Z) := by rw [hW0, hM]; exact md_new w Z
  clear hg hb hZ hW0 hM hb0'
  go_wp2
  go_loopg [9] 2 (fun q v9 wr => (q = 2 ∧ v9 = .int .i64 0 ∧ W0 = wr) ∨ (q = 1 ∧ v9 = .int .i64 1 ∧ W0.setCell ⟨M, 259, none⟩ (.int .i64 ext) = wr))
  case atStart => exact .inl ⟨rfl, rfl, rfl⟩
  case round =>
    rcases hrel with ⟨hq, rfl, rfl⟩ | ⟨hq, rfl, hwr⟩
    · obtain ⟨v0, c259⟩ : ∃ v, W0.cell? ⟨M, 259, none⟩ = some v := by rw [HMD0.out.cell]; exact some_at (HZ.out ▸ zero_size) 259 (by decide)
      have f259 : W0.frozen? ⟨M, 259, none⟩ = false := HMD0.out.free 259
      go_wp2
      go_end0
      go_wp2
      go_roundg 1
      case measure => omega
      case rel => exact .inr ⟨rfl, rfl, rfl⟩
    · have HMD1 : Hid (MdIs wr M (Z.setIfInBounds 259 (.int .i64 ext))) := by rw [← hwr]; exact HMD0.out.set 259 _
      have HB1 : Hid (Below w.heap.size w wr) := by rw [← hwr]; exact HBE.out.setCell (p := ⟨M, 259, none⟩) (by rw [HM.out]; exact Nat.le_refl _) _
      clear hq hwr hg0 hb0
      have hs1 : (Z.setIfInBounds 259 (.int .i64 ext)).size = 269 := by rw [Array.size_setIfInBounds, HZ.out]; exact zero_size
      obtain ⟨u2, c2⟩ : ∃ v, (wr.alloc (.map #[] 0)).cell? ⟨M, 2, none⟩ = some v := by rw [(HMD1.out.alloc _).cell]; exact some_at hs1 2 (by decide)
      have f2 : (wr.alloc (.map #[] 0)).frozen? ⟨M, 2, none⟩ = false := (HMD1.out.alloc _).free 2
      obtain ⟨u261, c261⟩ : ∃ v, (wr.alloc (.map #[] 0)).cell? ⟨M, 261, none⟩ = some v := by rw [(HMD1.out.alloc _).cell]; exact some_at hs1 261 (by decide)
      have f261 : (wr.alloc (.map #[] 0)).frozen? ⟨M, 261, none⟩ = false := (HMD1.out.alloc _).free 261
      obtain ⟨u262, c262⟩ : ∃ v, (wr.alloc (.map #[] 0)).cell? ⟨M, 262, none⟩ = some v := by rw [(HMD1.out.alloc _).cell]; exact some_at hs1 262 (by decide)
      have f262 : (wr.alloc (.map #[] 0)).frozen? ⟨M, 262, none⟩ = false := (HMD1.out.alloc _).free 262
      clear hs1
      go_upto_region 11 with (go_at_call 39; refine (CN.out _).mono ?_; rintro r w5 ⟨rfl, -, hb5, -⟩; have HB5 := Lib.hid hb5; clear hb5)
      have hmd5 : ∃ C4, MdIs w5 M C4 ∧ MdPart C4 ext (fun _ => .nilFunc) := ⟨_, ((((HMD1.out.alloc _).set 2 _).set 261 _).set 262 _).below HB5.out, PreMd.part (by have := pre_mk ext (.map (some wr.heap.size)); rw [← HZ.out] at this; exact this)⟩
      obtain ⟨C4, hmd5, hpre⟩ := hmd5
      have hb6 := (((HB1.out.alloc HB1.out.size (.map #[] 0)).setCell (p := ⟨M, 2, none⟩) (Nat.le_of_eq HM.out.symm) (.map (some wr.heap.size))).setCell (p := ⟨M, 261, none⟩) (Nat.le_of_eq HM.out.symm) (.int .i64 16)).setCell (p := ⟨M, 262, none⟩) (Nat.le_of_eq HM.out.symm) (.bool false)
      have HB6 := Lib.hid (hb6.trans (HB5.out.mono hb6.size))
      clear hb6 HB5 c2 c261 c262 f2 f261 f262 u2 u261 u262
      have HMD5 := Lib.hid hmd5
      have HP5 := Lib.hid hpre
      clear hmd5 hpre
      have c259 : w5.cell? ⟨M, 259, none⟩ = some (.int .i64 ext) := by rw [HMD5.out.cell]; exact HP5.out.ext
      obtain ⟨v264, c264⟩ : ∃ v, w5.cell? ⟨M, 264, none⟩ = some v := by rw [HMD5.out.cell]; exact some_at HP5.out.size 264 (by decide)
      have f264 : w5.frozen? ⟨M, 264, none⟩ = false := HMD5.out.free 264
      obtain ⟨v265, c265⟩ : ∃ v, w5.cell? ⟨M, 265, none⟩ = some v := by rw [HMD5.out.cell]; exact some_at HP5.out.size 265 (by decide)
      have f265 : w5.frozen? ⟨M, 265, none⟩ = false := HMD5.out.free 265
      obtain ⟨v266, c266⟩ : ∃ v, w5.cell? ⟨M, 266, none⟩ = some v := by rw [HMD5.out.cell]; exact some_at HP5.out.size 266 (by decide)
      have f266 : w5.frozen? ⟨M, 266, none⟩ = false := HMD5.out.free 266
      obtain ⟨v267, c267⟩ : ∃ v, w5.cell? ⟨M, 267, none⟩ = some v := by rw [HMD5.out.cell]; exact some_at HP5.out.size 267 (by decide)
      have f267 : w5.frozen? ⟨M, 267, none⟩ = false := HMD5.out.free 267
      obtain ⟨v268, c268⟩ : ∃ v, w5.cell? ⟨M, 268, none⟩ = some v := by rw [HMD5.out.cell]; exact some_at HP5.out.size 268 (by decide)
      have f268 : w5.frozen? ⟨M, 268, none⟩ = false := HMD5.out.free 268
      obtain ⟨v35, c35⟩ : ∃ v, w5.cell? ⟨M, 35, none⟩ = some v := by rw [HMD5.out.cell]; exact some_at HP5.out.size 35 (by decide)
      have f35 : w5.frozen? ⟨M, 35, none⟩ = false := HMD5.out.free 35
      obtain ⟨v45, c45⟩ : ∃ v, w5.cell? ⟨M, 45, none⟩ = some v := by rw [HMD5.out.cell]; exact some_at HP5.out.size 45 (by decide)
      have f45 : w5.frozen? ⟨M, 45, none⟩ = false := HMD5.out.free 45
      obtain ⟨v98, c98⟩ : ∃ v, w5.cell? ⟨M, 98, none⟩ = some v := by rw [HMD5.out.cell]; exact some_at HP5.out.size 98 (by decide)
      have f98 : w5.frozen? ⟨M, 98, none⟩ = false := HMD5.out.free 98
      obtain ⟨v129, c129⟩ : ∃ v, w5.cell? ⟨M, 129, none⟩ = some v := by rw [HMD5.out.cell]; exact some_at HP5.out.size 129 (by decide)
      have f129 : w5.frozen? ⟨M, 129, none⟩ = false := HMD5.out.free 129
      go_upto_if 39 with fail
      go_cut [] from 40 to 41 (fun wx => ∃ C, MdIs wx M C ∧ MdPart C ext (fB ext) ∧ Below w.heap.size w wx)
      case first =>
        by_cases t5 : ext.testBit 5 = true
        · have hb5 : bits .and .i64 (ext : Int) 32 = 32 := by have := B5.out; rw [if_pos t5] at this; exact this
          have T5 := Lib.hid t5
          clear t5
          go_wp2
          go_meet
          case rel => exact ⟨_, ((((((((((((((((((HMD5.out).set 264 _)).set 265 _)).set 266 _)).set 267 _)).set 268 _)).set 35 _)).set 45 _)).set 98 _)).set 129 _), by rw [fB, if_pos T5.out]; exact ((((((((((((((((((HP5.out).other 264 (by decide) _)).other 265 (by decide) _)).other 266 (by decide) _)).other 267 (by decide) _)).other 268 (by decide) _)).cb 32 (by decide) _)).cb 42 (by decide) _)).cb 95 (by decide) _)).cb 126 (by decide) _), ((((((((((((((((((HB6.out).setCell (p := ⟨M, 264, none⟩) (Nat.le_of_eq HM.out.symm) _)).setCell (p := ⟨M, 265, none⟩) (Nat.le_of_eq HM.out.symm) _)).setCell (p := ⟨M, 266, none⟩) (Nat.le_of_eq HM.out.symm) _)).setCell (p := ⟨M, 267, none⟩) (Nat.le_of_eq HM.out.symm) _)).setCell (p := ⟨M, 268, none⟩) (Nat.le_of_eq HM.out.symm) _)).setCell (p := ⟨M, 35, none⟩) (Nat.le_of_eq HM.out.symm) _)).setCell (p := ⟨M, 45, none⟩) (Nat.le_of_eq HM.out.symm) _)).setCell (p := ⟨M, 98, none⟩) (Nat.le_of_eq HM.out.symm) _)).setCell (p := ⟨M, 129, none⟩) (Nat.le_of_eq HM.out.symm) _)⟩
        · have hb5 : bits .and .i64 (ext : Int) 32 = 0 := by have := B5.out; rw [if_neg t5] at this; exact this
          have T5 := Lib.hid t5
          clear t5
          go_wp2
          go_meet
          case rel => exact ⟨_, ((((((((((((((((HMD5.out).set 264 _)).set 265 _)).set 266 _)).set 267 _)).set 268 _)).set 35 _)).set 45 _)).set 98 _), by rw [fB, if_neg T5.out]; exact ((((((((((((((((HP5.out).other 264 (by decide) _)).other 265 (by decide) _)).other 266 (by decide) _)).other 267 (by decide) _)).other 268 (by decide) _)).cb 32 (by decide) _)).cb 42 (by decide) _)).cb 95 (by decide) _), ((((((((((((((((HB6.out).setCell (p := ⟨M, 264, none⟩) (Nat.le_of_eq HM.out.symm) _)).setCell (p := ⟨M, 265, none⟩) (Nat.le_of_eq HM.out.symm) _)).setCell (p := ⟨M, 266, none⟩) (Nat.le_of_eq HM.out.symm) _)).setCell (p := ⟨M, 267, none⟩) (Nat.le_of_eq HM.out.symm) _)).setCell (p := ⟨M, 268, none⟩) (Nat.le_of_eq HM.out.symm) _)).setCell (p := ⟨M, 35, none⟩) (Nat.le_of_eq HM.out.symm) _)).setCell (p := ⟨M, 45, none⟩) (Nat.le_of_eq HM.out.symm) _)).setCell (p := ⟨M, 98, none⟩) (Nat.le_of_eq HM.out.symm) _)⟩
      case rest =>
      obtain ⟨C6, hmd6, hp6, hb7⟩ := hcut
      have HMD6 := Lib.hid hmd6
      have HP6 := Lib.hid hp6
      have HB7 := Lib.hid hb7
      clear hmd6 hp6 hb7 c259
      clear c264 f264 v264 c265 f265 v265 c266 f266 v266 c267 f267 v267 c268 f268 v268 c35 f35 v35 c45 f45 v45 c98 f98 v98 c129 f129 v129
      have c259 : wc.cell? ⟨M, 259, none⟩ = some (.int .i64 ext) := by rw [HMD6.out.cell]; exact HP6.out.ext
      obtain ⟨v99, c99⟩ : ∃ v, wc.cell? ⟨M, 99, none⟩ = some v := by rw [HMD6.out.cell]; exact some_at HP6.out.size 99 (by decide)
      have f99 : wc.frozen? ⟨M, 99, none⟩ = false := HMD6.out.free 99
      obtain ⟨v13, c13⟩ : ∃ v, wc.cell? ⟨M, 13, none⟩ = some v := by rw [HMD6.out.cell]; exact some_at HP6.out.size 13 (by decide)
      have f13 : wc.frozen? ⟨M, 13, none⟩ = false := HMD6.out.free 13
      obtain ⟨v94, c94⟩ : ∃ v, wc.cell? ⟨M, 94, none⟩ = some v := by rw [HMD6.out.cell]; exact some_at HP6.out.size 94 (by decide)
      have f94 : wc.frozen? ⟨M, 94, none⟩ = false := HMD6.out.free 94
      obtain ⟨v63, c63⟩ : ∃ v, wc.cell? ⟨M, 63, none⟩ = some v := by rw [HMD6.out.cell]; exact some_at HP6.out.size 63 (by decide)
      have f63 : wc.frozen? ⟨M, 63, none⟩ = false := HMD6.out.free 63
      obtain ⟨v95, c95⟩ : ∃ v, wc.cell? ⟨M, 95, none⟩ = some v := by rw [HMD6.out.cell]; exact some_at HP6.out.size 95 (by decide)
      have f95 : wc.frozen? ⟨M, 95, none⟩ = false := HMD6.out.free 95
      obtain ⟨v41, c41⟩ : ∃ v, wc.cell? ⟨M, 41, none⟩ = some v := by rw [HMD6.out.cell]; exact some_at HP6.out.size 41 (by decide)
      have f41 : wc.frozen? ⟨M, 41, none⟩ = false := HMD6.out.free 41
      obtain ⟨v36, c36⟩ : ∃ v, wc.cell? ⟨M, 36, none⟩ = some v := by rw [HMD6.out.cell]; exact some_at HP6.out.size 36 (by decide)
      have f36 : wc.frozen? ⟨M, 36, none⟩ = false := HMD6.out.free 36
      obtain ⟨v97, c97⟩ : ∃ v, wc.cell? ⟨M, 97, none⟩ = some v := by rw [HMD6.out.cell]; exact some_at HP6.out.size 97 (by decide)
      have f97 : wc.frozen? ⟨M, 97, none⟩ = false := HMD6.out.free 97
      obtain ⟨v107, c107⟩ : ∃ v, wc.cell? ⟨M, 107, none⟩ = some v := by rw [HMD6.out.cell]; exact some_at HP6.out.size 107 (by decide)
      have f107 : wc.frozen? ⟨M, 107, none⟩ = false := HMD6.out.free 107
      obtain ⟨v112, c112⟩ : ∃ v, wc.cell? ⟨M, 112, none⟩ = some v := by rw [HMD6.out.cell]; exact some_at HP6.out.size 112 (by decide)
      have f112 : wc.frozen? ⟨M, 112, none⟩ = false := HMD6.out.free 112
      obtain ⟨v105, c105⟩ : ∃ v, wc.cell? ⟨M, 105, none⟩ = some v := by rw [HMD6.out.cell]; exact some_at HP6.out.size 105 (by decide)
      have f105 : wc.frozen? ⟨M, 105, none⟩ = false := HMD6.out.free 105
      obtain ⟨v75, c75⟩ : ∃ v, wc.cell? ⟨M, 75, none⟩ = some v := by rw [HMD6.out.cell]; exact some_at HP6.out.size 75 (by decide)
      have f75 : wc.frozen? ⟨M, 75, none⟩ = false := HMD6.out.free 75
      obtain ⟨v80, c80⟩ : ∃ v, wc.cell? ⟨M, 80, none⟩ = some v := by rw [HMD6.out.cell]; exact some_at HP6.out.size 80 (by decide)
      have f80 : wc.frozen? ⟨M, 80, none⟩ = false := HMD6.out.free 80
      obtain ⟨v73, c73⟩ : ∃ v, wc.cell? ⟨M, 73, none⟩ = some v := by rw [HMD6.out.cell]; exact some_at HP6.out.size 73 (by decide)
      have f73 : wc.frozen? ⟨M, 73, none⟩ = false := HMD6.out.free 73
      go_upto_if 61 with fail
      go_cut [] from 62 to 73 (fun wx => ∃ C, MdIs wx M C ∧ MdPart C ext (fD ext) ∧ Below w.heap.size w wx)
      case first =>
        by_cases t5 : ext.testBit 4 = true
        · have hb5 : bits .and .i64 (ext : Int) 16 = 16 := by have := B4.out; rw [if_pos t5] at this; exact this
          have T5 := Lib.hid t5
          clear t5
          go_wp2
          go_meet
          case rel => exact ⟨_, ((((((((((((((((((((((((((((HMD6.out).set 99 _)).set 13 _)).set 94 _)).set 63 _)).set 95 _)).set 41 _)).set 36 _)).set 97 _)).set 107 _)).set 112 _)).set 105 _)).set 75 _)).set 80 _)).set 73 _), by rw [fD, if_pos T5.out]; exact ((((((((((((((((((((((((((((HP6.out).cb 96 (by decide) _)).cb 10 (by decide) _)).cb 91 (by decide) _)).cb 60 (by decide) _)).cb 92 (by decide) _)).cb 38 (by decide) _)).cb 33 (by decide) _)).cb 94 (by decide) _)).cb 104 (by decide) _)).cb 109 (by decide) _)).cb 102 (by decide) _)).cb 72 (by decide) _)).cb 77 (by decide) _)).cb 70 (by decide) _), ((((((((((((((((((((((((((((HB7.out).setCell (p := ⟨M, 99, none⟩) (Nat.le_of_eq HM.out.symm) _)).setCell (p := ⟨M, 13, none⟩) (Nat.le_of_eq HM.out.symm) _)).setCell (p := ⟨M, 94, none⟩) (Nat.le_of_eq HM.out.symm) _)).setCell (p := ⟨M, 63, none⟩) (Nat.le_of_eq HM.out.symm) _)).setCell (p := ⟨M, 95, none⟩) (Nat.le_of_eq HM.out.symm) _)).setCell (p := ⟨M, 41, none⟩) (Nat.le_of_eq HM.out.symm) _)).setCell (p := ⟨M, 36, none⟩) (Nat.le_of_eq HM.out.symm) _)).setCell (p := ⟨M, 97, none⟩) (Nat.le_of_eq HM.out.symm) _)).setCell (p := ⟨M, 107, none⟩) (Nat.le_of_eq HM.out.symm) _)).setCell (p := ⟨M, 112, none⟩) (Nat.le_of_eq HM.out.symm) _)).setCell (p := ⟨M, 105, none⟩) (Nat.le_of_eq HM.out.symm) _)).setCell (p := ⟨M, 75, none⟩) (Nat.le_of_eq HM.out.symm) _)).setCell (p := ⟨M, 80, none⟩) (Nat.le_of_eq HM.out.symm) _)).setCell (p := ⟨M, 73, none⟩) (Nat.le_of_eq HM.out.symm) _)⟩
        · have hb5 : bits .and .i64 (ext : Int) 16 = 0 := by have := B4.out; rw [if_neg t5] at this; exact this
          have T5 := Lib.hid t5
          clear t5
          go_wp2
          go_meet
          case rel => exact ⟨_, ((((((((((((((((HMD6.out).set 99 _)).set 13 _)).set 94 _)).set 63 _)).set 95 _)).set 41 _)).set 36 _)).set 97 _), by rw [fD, if_neg T5.out]; exact ((((((((((((((((HP6.out).cb 96 (by decide) _)).cb 10 (by decide) _)).cb 91 (by decide) _)).cb 60 (by decide) _)).cb 92 (by decide) _)).cb 38 (by decide) _)).cb 33 (by decide) _)).cb 94 (by decide) _), ((((((((((((((((HB7.out).setCell (p := ⟨M, 99, none⟩) (Nat.le_of_eq HM.out.symm) _)).setCell (p := ⟨M, 13, none⟩) (Nat.le_of_eq HM.out.symm) _)).setCell (p := ⟨M, 94, none⟩) (Nat.le_of_eq HM.out.symm) _)).setCell (p := ⟨M, 63, none⟩) (Nat.le_of_eq HM.out.symm) _)).setCell (p := ⟨M, 95, none⟩) (Nat.le_of_eq HM.out.symm) _)).setCell (p := ⟨M, 41, none⟩) (Nat.le_of_eq HM.out.symm) _)).setCell (p := ⟨M, 36, none⟩) (Nat.le_of_eq HM.out.symm) _)).setCell (p := ⟨M, 97, none⟩) (Nat.le_of_eq HM.out.symm) _)⟩
      case rest =>
      obtain ⟨C8, hmd8, hp8, hb9⟩ := hcut
      have HMD8 := Lib.hid hmd8
      have HP8 := Lib.hid hp8
      have HB9 := Lib.hid hb9
      rename_i wd
      clear hmd8 hp8 hb9 c259
      clear c99 f99 v99 c13 f13 v13 c94 f94 v94 c63 f63 v63 c95 f95 v95 c41 f41 v41 c36 f36 v36 c97 f97 v97 c107 f107 v107 c112 f112 v112 c105 f105 v105 c75 f75 v75 c80 f80 v80 c73 f73 v73
      have c259 : wc.cell? ⟨M, 259, none⟩ = some (.int .i64 ext) := by rw [HMD8.out.cell]; exact HP8.out.ext
      obtain ⟨v263, c263⟩ : ∃ v, (wc.alloc (.cells #[] 125)).cell? ⟨M, 263, none⟩ = some v := by rw [(HMD8.out.alloc _).cell]; exact some_at HP8.out.size 263 (by decide)
      have f263 : (wc.alloc (.cells #[] 125)).frozen? ⟨M, 263, none⟩ = false := (HMD8.out.alloc _).free 263
      by_cases t5 : ext.testBit 10 = true
      · have hb5 : bits .and .i64 (ext : Int) 1024 = 1024 := by have := B10.out; rw [if_pos t5] at this; exact this
        clear t5
        go_wp2
        go_ret
        exact ⟨M, _, rfl, (HB9.out.alloc HB9.out.size _).setCell (p := ⟨M, 263, none⟩) (Nat.le_of_eq HM.out.symm) _, (HMD8.out.alloc _).set 263 _, (HP8.out.other 263 (by decide) _).arr (fD_cb ext)⟩
      · have hb5 : bits .and .i64 (ext : Int) 1024 = 0 := by have := B10.out; rw [if_neg t5] at this; exact this
        clear t5
        go_wp2
        go_ret
        exact ⟨M, _, rfl, HB9.out, HMD8.out, HP8.out.arr (fD_cb ext)⟩

theorem top_cell (w : World) (A : Array Value) (t : TypeId) (g i : Nat) (hg : g = w.heap.size) : (w.alloc (.cells A t)).cell? ⟨g, i, none⟩ = A[i]? := by
  subst hg
  unfold World.cell?
  rw [show (w.alloc (.cells A t)).heap[(⟨w.heap.size, i, none⟩ : Addr).block]? = some (.cells A t (0, 0)) from heap_alloc_new w _]
  rfl
set_option maxRecDepth 100000 in
set_option maxHeartbeats 4000000 in
theorem parser24 (ext : Nat) (hx : ext ≤ 131070) (w : World) : Calls Tryz.prog 24 #[.int .i64 ext] w fun r w' => ∃ M C, r = .returned (ptr M) ∧ Below w.heap.size w w' ∧ MdIs w' M C ∧ MdArr C ext 0 false := by
  have C42 := Lib.hid (fun w => opt42 ext w)
  have hsz : (w.alloc (.cells #[.int .i64 ext] 95)).heap.size = w.heap.size + 1 := alloc_size w _
  have hb0 : Below w.heap.size w ((w.alloc (.cells #[.int .i64 ext] 95)).alloc (.cells #[.func (.func 57) #[] #[.pointer (some ⟨w.heap.size, 0, none⟩)]] 93)) := ((Below.refl _ w).alloc (Nat.le_refl _) _).alloc (by omega) _
  have C41 := Lib.hid (new41 (w.heap.size + 1) w.heap.size ext hx ((w.alloc (.cells #[.int .i64 ext] 95)).alloc (.cells #[.func (.func 57) #[] #[.pointer (some ⟨w.heap.size, 0, none⟩)]] 93))
    ((top_cell _ _ _ _ 0 hsz.symm).trans rfl)
    ((World.cell?_of_block (a := ⟨w.heap.size, 0, none⟩) (Below.heap_alloc (w.alloc (.cells #[.int .i64 ext] 95)) _ w.heap.size (by omega))).trans ((top_cell w #[.int .i64 ext] 95 w.heap.size 0 rfl).trans rfl)))
  have HB0 := Lib.hid hb0
  clear hb0 hsz
  go_enter Tryz.func24, Tryz.ntmps24
  go_wp2_with (first
    | (go_at_call 42; refine (C42.out _).mono ?_; rintro r w1 ⟨rfl, rfl⟩)
    | (go_at_call 41; refine C41.out.mono ?_; rintro r w2 ⟨M, C, rfl, hb, hm, ha⟩; have HB := Lib.hid hb; have HM := Lib.hid hm; have HA := Lib.hid ha; clear hb hm ha))
  go_ret
  exact ⟨M, C, rfl, HB0.out.trans (HB.out.mono HB0.out.size), HM.out, HA.out⟩

set_option maxRecDepth 100000 in
set_option maxHeartbeats 4000000 in
theorem pub23 (x : Ctx) (s : List Seg) (w : World) (hi : x.inv 0 false w) (hs : SegsOk x 1 false s 0) (h0 : 0 < x.D.length) (hl : x.D.getD (x.D.length - 1) 0 ≠ 10) :
    Calls Tryz.prog 23 #[ptr x.M, x.val] w fun r w' => ∃ (c : Nat) (f : F), r = .returned (ptr c) ∧ NodeIs w' c (nodeArr 4 nilP f.headP f.lastP nilP nilP nilS nilS nilS) ∧ f.at w' ∧ f.abs = outG x.D s 0 0 ∧ Below w.heap.size w w' ∧ (∀ b ∈ c :: f.blocks, b < w'.heap.size) := by
  have CN := Lib.hid (fun w => new39 4 w)
  have CI := Lib.hid (fun w1 (hb : Below w.heap.size w w1) (hn : NodeIs w1 w.heap.size (nodeArr 4 nilP nilP nilP nilP nilP nilS nilS nilS)) => inline40 x w.heap.size 4 nilP nilP nilP nilS nilS nilS 0 false s w1 (by decide) ⟨hn, trivial⟩ (hi.below hb) hs h0 hl)
  unfold Ctx.val at CI ⊢
  clear hi hs h0 hl
  go_enter Tryz.func23, Tryz.ntmps23
  go_wp2_with (first
    | (go_at_call 39; refine (CN.out _).mono ?_; rintro r w1 ⟨rfl, hn1, hb1, hz1⟩; have HN1 := Lib.hid hn1; have HB1 := Lib.hid hb1; have HZ1 := Lib.hid hz1; clear hn1 hb1 hz1)
    | (go_at_call 40; refine (CI.out _ HB1.out HN1.out).mono ?_; rintro r w2 ⟨rfl, f, hk, hf, hg, hb, hnd⟩; have HK := Lib.hid hk; have HF := Lib.hid hf; have HG := Lib.hid hg; clear hk hf hg hb hnd))
  go_ret
  refine ⟨w.heap.size, f, rfl, HK.out.1, HK.out.2, HF.out, HB1.out.grown HG.out (by have := HB1.out.size; omega) (fun k hk => by injection hk with hk; omega), fun b hb => ?_⟩
  rcases List.mem_cons.1 hb with rfl | hb
  · exact HK.out.1.lt
  · exact F.at_lt f HK.out.2 b hb
end Go.Proofs.YtalajbfpilhfgaaGreatDoor
