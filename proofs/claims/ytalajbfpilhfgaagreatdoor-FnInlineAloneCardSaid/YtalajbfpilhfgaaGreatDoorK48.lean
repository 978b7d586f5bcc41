/-
  FnInlineAlone: rows of nodes copied (8); that the copy is no document's tree (20).
-/
import Derived.Test.YtalajbfpilhfgaaGreatDoorK21
import Derived.Deep.AppendLies
import Derived.Deep.MidRow
import Derived.Deep.WholeRow
set_option linter.unusedVariables false
set_option linter.unusedSimpArgs false
namespace Go.Proofs.YtalajbfpilhfgaaGreatDoor
open Go.RowKit

theorem RdV.shape {w : World} {v : Value} {o : Option Bs} (h : RdV w v o) : ∃ A n c, v = .slice A n c := by
  cases o with
  | none => exact ⟨_, _, _, h⟩
  | some l =>
    obtain ⟨g, off, cap, C, fz, rfl, _⟩ := h
    exact ⟨_, _, _, rfl⟩
theorem rowOf_len (s : RS) (l d t : Value) : (rowOf s l d t).length = 25 := rfl
theorem RowsAre.get {w : World} : ∀ {ss : List RS} {vs : List Value}, RowsAre w ss vs → ∀ (i : Nat) (s : RS), ss[i]? = some s → ∃ l d t, (∀ j v, (rowOf s l d t)[j]? = some v → vs[i * 25 + j]? = some v) ∧ RdV w l s.lb ∧ RdV w d s.db ∧ RdV w t s.tb ∧ vs.take ((i + 1) * 25) = vs.take (i * 25) ++ rowOf s l d t
  | [], _, _, i, s, hs => by simp at hs
  | a :: r, _, ⟨row, vs', rfl, hrow, hrest⟩, 0, s, hs => by
    obtain ⟨l, d, t, rfl, h1, h2, h3⟩ := hrow
    have : a = s := by simpa using hs
    subst this
    refine ⟨l, d, t, fun j v hv => ?_, h1, h2, h3, ?_⟩
    · have hj : j < (rowOf a l d t).length := (List.getElem?_eq_some_iff.1 hv).1
      rw [Nat.zero_mul, Nat.zero_add, List.getElem?_append_left hj]
      exact hv
    · rw [Nat.zero_mul, List.take_zero, List.nil_append, List.take_append_of_le_length (by rw [rowOf_len]; omega), List.take_of_length_le (by rw [rowOf_len]; omega)]
  | a :: r, _, ⟨row, vs', rfl, hrow, hrest⟩, i + 1, s, hs => by
    obtain ⟨l0, d0, t0, rfl, _⟩ := hrow
    obtain ⟨l, d, t, h0, h1, h2, h3, h4⟩ := RowsAre.get hrest i s (by simpa using hs)
    have hl := rowOf_len a l0 d0 t0
    refine ⟨l, d, t, fun j v hv => ?_, h1, h2, h3, ?_⟩
    · rw [List.getElem?_append_right (by omega), hl, show (i + 1) * 25 + j - 25 = i * 25 + j from by omega]
      exact h0 j v hv
    · have t1 : (rowOf a l0 d0 t0).take ((i + 1 + 1) * 25) = rowOf a l0 d0 t0 := List.take_of_length_le (by omega)
      have t2 : (rowOf a l0 d0 t0).take ((i + 1) * 25) = rowOf a l0 d0 t0 := List.take_of_length_le (by omega)
      rw [List.take_append, List.take_append, hl, show (i + 1 + 1) * 25 - 25 = (i + 1) * 25 from by omega, show (i + 1) * 25 - 25 = i * 25 from by omega, h4, t1, t2, List.append_assoc]
theorem info49 : (Tryz.prog.info? 49).map (fun i => (i.zero, i.size, i.bytes)) = some (some zero53, 25, 256) := by kernel_rfl
theorem RowsAre.len {w : World} {ss : List RS} {vs : List Value} (h : RowsAre w ss vs) : vs.length = ss.length * 25 := h.one.1
theorem rowOf_one {w : World} {s : RS} {l d t : Value} (h1 : RdV w l s.lb) (h2 : RdV w d s.db) (h3 : RdV w t s.tb) : ∀ u ∈ rowOf s l d t, u.oneCell' = true := by
  have h := RowsAre.one (w := w) (ss := [s]) (vs := rowOf s l d t) ⟨_, [], by rw [List.append_nil], ⟨l, d, t, rfl, h1, h2, h3⟩, rfl⟩
  exact h.2
theorem size53 : (Tryz.prog.info? 53).map (·.size) = some 25 := by kernel_rfl
section
variable {P : Program}
theorem list_step {ops : Array Oper} {rest : List Oper} {o : Oper} {a : Act} {w : World} {Q : Exit → Act → World → Prop} (hgd : o.guard = none) (h : ∀ K : Act → World → Prop, (∀ a' w', True → wpList P ops Q rest a' w' → K a' w') → o.wp P a w K Q) : wpList P ops Q (o :: rest) a w :=
  wpList_plain hgd fun K hK => h K fun a' w' _ h' => hK a' w' h'
theorem wpList_store_new {ops : Array Oper} {rest : List Oper} {op : Oper} {a : Act} {w : World} {Q : Exit → Act → World → Prop} (hgd : op.guard = none) (ty : TypeId) (x y : Operand) (ho : op.op = .store ty x y) (c c' : Array Value) (B : Nat) (hB : B = w.heap.size)
    (hx : a.eval x = .pointer (some ⟨B, 0, none⟩)) (hy : a.eval y = .agg c') (hi : (P.info? ty).map (·.size) = some c'.size) (hsz : c.size = c'.size) (h1 : c'.all (·.oneCell') = true)
    (h : wpList P ops Q rest (a.put op.dst undef) (w.alloc (.cells c' ty))) : wpList P ops Q (op :: rest) a (w.alloc (.cells c ty)) := by
  subst hB
  refine wpList_plain hgd fun K hK => ?_
  unfold Oper.wp execOp
  simp only [ho, hx, hy, Sem.run_bind, Sem.run_pure, Result.andThen_ok, run_storeAt_new w ty c c' hi hsz h1]
  exact hK _ _ h
theorem wpList_load_new {ops : Array Oper} {rest : List Oper} {op : Oper} {a : Act} {w : World} {Q : Exit → Act → World → Prop} (hgd : op.guard = none) (ty : TypeId) (x : Operand) (ho : op.op = .load ty x) (c : Array Value) (B : Nat) (hB : B = w.heap.size)
    (hx : a.eval x = .pointer (some ⟨B, 0, none⟩)) (d : TypeDesc) (hu : P.underlying ty = some d) (hd : (match d with | .struct _ | .array _ _ => true | _ => false) = true) (hi : (P.info? ty).map (·.size) = some c.size)
    (h : wpList P ops Q rest (a.put op.dst (.agg c)) (w.alloc (.cells c ty))) : wpList P ops Q (op :: rest) a (w.alloc (.cells c ty)) := by
  subst hB
  refine wpList_plain hgd fun K hK => ?_
  unfold Oper.wp execOp
  simp only [ho, hx, Instr.loadAt, Instr.sureAddr, Sem.run_bind, Sem.run_pure, Result.andThen_ok, run_loadVar_row _ w.heap.size ty ty c (0, 0) d (heap_alloc_last w _) hu hd hi]
  exact hK _ _ h
end
set_option maxRecDepth 100000 in
set_option maxHeartbeats 8000000 in
theorem spec8 (B : Nat) (vo : Value) (n : Nat) (vs : List Value) (ss : List RS) (w : World) (ho : w.ownsRow B 53 25 vo n vs) (hr : RowsAre w ss vs) (hn : n = ss.length) (hn0 : 0 < n) (hnb : n ≤ 1000000) :
    Calls Tryz.prog 8 #[vo] w fun r w' => ∃ v', r = .returned v' ∧ w'.ownsRow w.heap.size 49 25 v' n vs ∧ RowsAre w' ss vs ∧ Below w.heap.size w w' := by
  obtain ⟨i0, hi0, hz0, hz1, hz2⟩ := info_parts info49
  have hzs := zero53_size
  rcases ho.2 with ⟨_, h0⟩ | ⟨g, cap, cur, rfl, hB, hg, hcap1, hcap2, hcur⟩
  · omega
  have hcells := ho.cells (g := g) rfl
  have hlt := (ho.lt g rfl).2
  have HC : Hid (∀ j u, vs[j]? = some u → w.cell? ⟨g, j, none⟩ = some u) := Lib.hid (fun j u hu => by have := hcells j u hu; rwa [add_at, Nat.zero_add] at this)
  have HLT := Lib.hid hlt
  have HR := Lib.hid hr
  have HN := Lib.hid hn
  have HBD := Lib.hid (Below.refl w.heap.size w)
  have HZ53 := Lib.hid hzs
  have hcm : cap ≤ 9223372036854775807 := by first | exact hcap2 | (unfold maxLen at hcap2; omega)
  clear ho hB hg hcap1 hcap2 hcur hcells hlt hr hn hzs cur
  go_enter Tryz.func8, Tryz.ntmps8
  go_wp2
  go_loopg [3, 8] (n + 1) (fun q v3 v8 wr => ∃ (i : Nat) (A : Option Addr) (c : Nat), v8 = .int .i64 (i : Nat) ∧ v3 = .slice A i c ∧ q + i = n + 1 ∧ i ≤ n ∧ wr.ownsRow w.heap.size 49 25 (.slice A i c) i (vs.take (i * 25)) ∧ Below w.heap.size w wr)
  case atStart => exact ⟨0, none, 0, rfl, rfl, by omega, by omega, by rw [Nat.zero_mul, List.take_zero]; exact World.ownsRow_nil _ _ _ _, HBD.out⟩
  case round =>
    obtain ⟨i, A, c, rfl, rfl, hq, hi, ho, hb⟩ := hrel
    have HQ := Lib.hid hq
    have HO := Lib.hid ho
    have HB := Lib.hid hb
    clear hq ho hb
    by_cases hin : i < n
    · obtain ⟨s, hs⟩ : ∃ s, ss[i]? = some s := ⟨_, List.getElem?_eq_getElem (by rw [← HN.out]; exact hin)⟩
      obtain ⟨vl, vd, vt, hrow, r1, r2, r3, htk⟩ := HR.out.get i s hs
      obtain ⟨xA, xn, xc, rfl⟩ := r1.shape
      obtain ⟨yA, yn, yc, rfl⟩ := r2.shape
      obtain ⟨zA, zn, zc, rfl⟩ := r3.shape
      have hcell : ∀ j u, (rowOf s (.slice xA xn xc) (.slice yA yn yc) (.slice zA zn zc))[j]? = some u → wr.cell? ⟨g, i * 25 + j, none⟩ = some u := fun j u hu => (HB.out.cell (p := ⟨g, i * 25 + j, none⟩) HLT.out).trans (HC.out _ u (hrow j u hu))
      have HTK := Lib.hid htk
      have H1 : Hid (∀ u ∈ rowOf s (.slice xA xn xc) (.slice yA yn yc) (.slice zA zn zc), u.oneCell' = true) := Lib.hid (rowOf_one r1 r2 r3)
      have HRG : Hid (wr.rangeAt g (i * 25) (rowOf s (.slice xA xn xc) (.slice yA yn yc) (.slice zA zn zc))) := Lib.hid (fun j v hv => hcell j v hv)
      have H1A : Hid ((rowOf s (.slice xA xn xc) (.slice yA yn yc) (.slice zA zn zc)).toArray.all (·.oneCell') = true) := Lib.hid (all_oneCell_toArray H1.out)
      clear hs hrow r1 r2 r3 htk hcell
      have new2x : ∀ (w : World) (o1 : Obj) (A : Array Value) (t : TypeId), ((w.alloc o1).alloc (.cells A t)).heap[w.heap.size + 1]? = some (.cells A t (0, 0)) := fun w o1 A t => by
        have := heap_alloc_new (w.alloc o1) (.cells A t)
        rwa [show (w.alloc o1).heap.size = w.heap.size + 1 from by simp] at this
      have HNEW := Lib.hid new2x
      clear new2x
      go_upto_region 4 with fail
      refine wp_region_lit ?_
      refine list_step rfl fun K hK => ?_
      go_wp2_with fail
      refine hK _ _ trivial ?_
      clear hK K
      try simp only [Act.put, List.setIfInBounds_toArray, List.set_cons_succ, List.set_cons_zero]
      refine wpList_load_mid rfl 53 (.tmp 10) rfl g (i * 25) rfl (rowOf s (.slice xA xn xc) (.slice yA yn yc) (.slice zA zn zc)) _ HRG.out Tryz.underlying53 rfl size53 ?_
      try simp only [Act.put, List.setIfInBounds_toArray, List.set_cons_succ, List.set_cons_zero]
      refine list_step rfl fun K hK => ?_
      go_wp2_with fail
      refine hK _ _ trivial ?_
      clear hK K
      try simp only [Act.put, List.setIfInBounds_toArray, List.set_cons_succ, List.set_cons_zero]
      refine wpList_store_new rfl 53 (.tmp 5) (.tmp 11) rfl _ (rowOf s (.slice xA xn xc) (.slice yA yn yc) (.slice zA zn zc)).toArray _ rfl rfl rfl size53 rfl H1A.out ?_
      try simp only [Act.put, List.setIfInBounds_toArray, List.set_cons_succ, List.set_cons_zero]
      go_upto_region 5 with fail
      refine wp_region_lit ?_
      refine list_step rfl fun K hK => ?_
      go_wp2_with fail
      refine hK _ _ trivial ?_
      clear hK K
      try simp only [Act.put, List.setIfInBounds_toArray, List.set_cons_succ, List.set_cons_zero]
      refine wpList_load_new rfl 53 (.tmp 5) rfl (rowOf s (.slice xA xn xc) (.slice yA yn yc) (.slice zA zn zc)).toArray _ rfl rfl _ Tryz.underlying53 rfl size53 ?_
      try simp only [Act.put, List.setIfInBounds_toArray, List.set_cons_succ, List.set_cons_zero]
      simp only [rowOf]
      refine list_step rfl fun K hK => ?_
      go_wp2_with fail
      refine hK _ _ trivial ?_
      clear hK K
      try simp only [Act.put, List.setIfInBounds_toArray, List.set_cons_succ, List.set_cons_zero]
      refine wpList_append_lies _ rfl _ _ 30 rfl w.heap.size 49 i0 _ 25 256 Tryz.underlying30 hi0 hz0 hz1 hz2 HZ53.out (by decide) (.slice A i c) i (vs.take (i * 25)) rfl ((HO.out.alloc _).alloc _) ⟨_, 0, none⟩ 1 1 (rowOf s (.slice xA xn xc) (.slice yA yn yc) (.slice zA zn zc)) rfl rfl (World.news_of_block (cs := (rowOf s (.slice xA xn xc) (.slice yA yn yc) (.slice zA zn zc)).toArray) (HNEW.out _ _ _ _)) H1.out (by decide) ?qc2 ?qc3 ?qc4 _ rfl ?_
      case qc2 => unfold maxLen; omega
      case qc3 => omega
      case qc4 => have := HB.out.size; simp; omega
      intro gg cap2 w1 hown hgrow hat hlt
      have hb1 : Below w.heap.size w w1 := (((HB.out.alloc HB.out.size _).alloc (by have := HB.out.size; simp; omega) _).grown hgrow (by have := HB.out.size; simp; omega) (fun k hk => (HO.out.lt k hk).1))
      have HOWN : Hid (w1.ownsRow w.heap.size 49 25 (.slice (some ⟨gg, 0, none⟩) (i + 1) cap2) (i + 1) (vs.take ((i + 1) * 25))) := Lib.hid (by rw [HTK.out]; exact hown)
      have HB1 := Lib.hid hb1
      clear hown hgrow hat hlt hb1
      go_wp2
      go_roundg (n - i)
      case measure => have := HQ.out; omega
      case rel => exact ⟨i + 1, _, cap2, by go_num, rfl, by have := HQ.out; omega, by omega, HOWN.out, HB1.out⟩
    · obtain rfl : i = n := by omega
      go_wp2
      go_ret
      refine ⟨_, rfl, ?_, HR.out.keep (keep5_below HB.out), HB.out⟩
      have := HO.out
      rwa [List.take_of_length_le (by rw [HR.out.len, ← HN.out]; exact Nat.le_refl _)] at this
set_option maxRecDepth 100000 in
set_option maxHeartbeats 4000000 in
theorem tree20 (A : Addr) (n c : Nat) (ty : Int) (w : World) (h0 : w.cell? A = some (.int .i64 (-1))) (h1 : w.cell? (A.add 1) = some (.int .i64 ty)) (hty : ty ≠ 0) (hn0 : 0 < n) (hA : ∃ g, A = ⟨g, 0, none⟩) : Calls Tryz.prog 20 #[.slice (some A) n c] w fun r w' => r = .returned (.bool false) ∧ w = w' := by
  obtain ⟨g, rfl⟩ := hA
  have e1 : w.cell? ⟨g, 1, none⟩ = some (.int .i64 ty) := h1
  have b1 : (ty != 0) = true := by simpa using hty
  have b2 : ((n : Int) == 0) = false := by simp; omega
  clear h1 hty
  go_enter Tryz.func20, Tryz.ntmps20
  go_wp2
  go_ret
  exact ⟨rfl, rfl⟩
end Go.Proofs.YtalajbfpilhfgaaGreatDoor
