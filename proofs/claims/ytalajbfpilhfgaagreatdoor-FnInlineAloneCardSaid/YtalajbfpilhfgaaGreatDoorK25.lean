/-
  FnInlineAlone: a tree is gathered as rows: the steps.
-/
import Derived.Test.YtalajbfpilhfgaaGreatDoorK24
import Derived.Deep.AppendLies
import Derived.Deep.RegionHeld3
set_option linter.unusedVariables false
set_option linter.unusedSimpArgs false
namespace Go.Proofs.YtalajbfpilhfgaaGreatDoor
open Go.RowKit

/-- A world that meets a condition. -/
structure SW (SS : World → Prop) where
  x : World
  h : SS x
section
variable {P : Program} {ops : Array Oper} {Q : Exit → Act → World → Prop} {S : World → Prop} {last : Nat}
theorem wpPath_quiet' {T : List (Nat × Bool)} {w : World} : ∀ (H : List Nat) (a : Act), (H.all fun i => match ops[i]? with | some o => givesB o | none => false) = true →
    wpQuiet P ops S (fun a => wpPath P ops Q S last T a w) (H.filterMap fun i => ops[i]?) a → wpPath P ops Q S last (H.map (fun i => (i, true)) ++ T) a w := fun H a hg h => by
  have key : ∀ (H : List Nat), (H.all fun i => match ops[i]? with | some o => givesB o | none => false) = true → H.map (fun i => ops[i]?) = (H.filterMap fun i => ops[i]?).map some ∧ (H.filterMap fun i => ops[i]?).all givesB = true := by
    intro H
    induction H with
    | nil => intro _; exact ⟨rfl, rfl⟩
    | cons i H ih =>
      intro hg
      rw [List.all_cons, Bool.and_eq_true] at hg
      obtain ⟨h1, h2⟩ := ih hg.2
      cases ho : ops[i]? with
      | none => rw [ho] at hg; exact absurd hg.1 (by simp)
      | some o =>
        rw [ho] at hg
        rw [List.filterMap_cons_some ho, List.map_cons, List.map_cons, ho, h1]
        exact ⟨rfl, by rw [List.all_cons, h2, Bool.and_true]; exact hg.1⟩
  obtain ⟨h1, h2⟩ := key H hg
  exact wpPath_quiet (fun a h => h) H _ a h1 h2 h
theorem wpQ_step {Q' : Act → Prop} {i : Nat} {H : List Nat} {o : Oper} {a : Act} (hi : ops[i]? = some o) (h : wpQuiet P ops S Q' (o :: H.filterMap fun i => ops[i]?) a) : wpQuiet P ops S Q' ((i :: H).filterMap fun i => ops[i]?) a := by
  rw [List.filterMap_cons_some hi]
  exact h
theorem op_at {i : Nat} {o : Oper} (hi : (ops.toList.drop i).head? = some o) : ops[i]? = some o := by
  rw [List.head?_drop, Array.getElem?_toList] at hi
  exact hi
theorem wpQ_op {Q' : Act → Prop} {i : Nat} {H : List Nat} {o : Oper} {a : Act} (hi' : (ops.toList.drop i).head? = some o) (hg : o.guard = none) (h : ∀ K : Act → Prop, (∀ a, wpQuiet P ops S Q' (H.filterMap fun i => ops[i]?) a → K a) → o.quiet P a S K) : wpQuiet P ops S Q' ((i :: H).filterMap fun i => ops[i]?) a := by
  have hi := op_at hi'
  rw [List.filterMap_cons_some hi, wpQuiet, if_pos (by simp [Region.wanted, hg])]
  exact h _ (fun a h => h)
theorem wp_gives {o : Oper} {a : Act} {w : World} {v : Value} {K : Act → World → Prop} (hrun : (execOp a.eval o).run P w = .ok (.value v) w) (hk : K (a.put o.dst v) w) : o.wp P a w K Q := by
  unfold Oper.wp
  rw [hrun]
  exact hk
theorem path_end {a : Act} {w : World} (h : Q .normal a w) : wpPath P ops (NoPanic Q) S last [] a w := h
theorem wpQ_nil {Q' : Act → Prop} {a : Act} (h : Q' a) : wpQuiet P ops S Q' (([] : List Nat).filterMap fun i => ops[i]?) a := h
theorem tail_step {i : Nat} {L : List (Nat × Bool)} {o : Oper} {a : Act} {w : World} (hi' : (ops.toList.drop i).head? = some o) (hg : o.guard = none) (h : ∀ K : Act → World → Prop, (∀ a' w', (i ≠ last → S w') → wpPath P ops Q S last L a' w' → K a' w') → o.wp P a w K Q) : wpPath P ops Q S last ((i, false) :: L) a w := by
  have h1 := h (fun a' w' => (i ≠ last → S w') ∧ wpPath P ops Q S last L a' w') (fun a' w' h1 h2 => ⟨h1, h2⟩)
  have hi := op_at hi'
  show wpOp P ops Q i _ a w
  unfold wpOp
  rw [hi]
  simp only
  rw [if_pos (by simp [Region.wanted, hg])]
  exact .inl h1
end
/-- A row is longer by what has been made in a new block, and its slice is stored anew. -/
theorem stage {w w1 : World} {B P Q e size n m : Nat} {v v1 vq : Value} {xs news : List Value} {o : Obj} {tp tq e2 size2 n2 : Nat} {ys : List Value}
    (hB : B ≤ w.heap.size) (hP : w.heap[P]? = some (.cells #[v] tp (0, 0))) (hQ : w.heap[Q]? = some (.cells #[vq] tq (0, 0))) (hv : w.ownsRow B e size v n xs) (hq : w.ownsRow B e2 size2 vq n2 ys)
    (hown : w1.ownsRow B e size v1 m news) (hg : (w.alloc o).grownBy w1 v.ownBlock) (d1 : e ≠ tp) (d2 : e ≠ tq) (d3 : e ≠ e2) (d4 : tp ≠ tq) (d5 : e2 ≠ tp) (d6 : e ≠ 5) (d7 : tp ≠ 5) (hPB : B ≤ P) :
    w1.cell? ⟨P, 0, none⟩ = some v ∧ w1.frozen? ⟨P, 0, none⟩ = false ∧ (w1.setCell ⟨P, 0, none⟩ v1).heap[P]? = some (.cells #[v1] tp (0, 0)) ∧ (w1.setCell ⟨P, 0, none⟩ v1).heap[Q]? = some (.cells #[vq] tq (0, 0)) ∧
    (w1.setCell ⟨P, 0, none⟩ v1).ownsRow B e size v1 m news ∧ (w1.setCell ⟨P, 0, none⟩ v1).ownsRow B e2 size2 vq n2 ys ∧ Below B w (w1.setCell ⟨P, 0, none⟩ v1) ∧ Keep5 w (w1.setCell ⟨P, 0, none⟩ v1) := by
  have hba : Below w.heap.size w (w.alloc o) := (Below.refl _ w).alloc (Nat.le_refl _) o
  have hPa := (hba.block P (Array.getElem?_eq_some_iff.1 hP).1).trans hP
  have hQa := (hba.block Q (Array.getElem?_eq_some_iff.1 hQ).1).trans hQ
  have hva := own_below hv hba
  have hqa := own_below hq hba
  have hP1 := (hg.block P (Array.getElem?_eq_some_iff.1 hPa).1 (own_ne hva hPa d1)).trans hPa
  have hQ1 := (hg.block Q (Array.getElem?_eq_some_iff.1 hQa).1 (own_ne hva hQa d2)).trans hQa
  have hq1 : w1.ownsRow B e2 size2 vq n2 ys := by
    refine ⟨hqa.1, ?_⟩
    rcases hqa.2 with ⟨rfl, h0⟩ | ⟨g, cap, cur, rfl, hb, hgg, hr⟩
    · exact .inl ⟨rfl, h0⟩
    · exact .inr ⟨g, cap, cur, rfl, hb, (hg.block g (Array.getElem?_eq_some_iff.1 hgg).1 (own_ne hva hgg d3)).trans hgg, hr⟩
  have hb1 : Below B w w1 := (hba.mono hB).grown hg (Nat.le_trans hB hba.size) (fun k hk => ((hva.lt) k hk).1)
  refine ⟨(Lib.cell_of_heap hP1 0).trans rfl, Lib.frozen_of_heap hP1 0, cell_set_same hP1 v1, (Below.heap_setCell w1 _ _ Q (blk_ne hQ1 hP1 (fun e => d4 e.symm))).trans hQ1, own_set hown (p := ⟨P, 0, none⟩) hP1 d1 _, own_set hq1 (p := ⟨P, 0, none⟩) hP1 d5 _, hb1.setCell (p := ⟨P, 0, none⟩) hPB _, ?_⟩
  exact ((keep5_below hba).trans (keep5_grown hva d6 hg)).trans (keep5_set' (p := ⟨P, 0, none⟩) hP1 d7 _)
theorem run_neq_nil (w : World) (a : Option Addr) (n c : Nat) : (binOp .neq 34 (.slice a n c) (.slice none 0 0)).run Tryz.prog w = .ok (.bool a.isSome) w := by
  simp only [binOp]
  simp [Op.equal, Op.maxDepth, Lib.run_equalIn_slice_nil w 9999 34 5 a n c 0 0 Tryz.underlying34]
theorem own25s (v : Value) (o : Option Bs) (w : World) (h : RdV w v o) (hl : ∀ l, o = some l → l.length ≤ 140737488355328) : Calls Tryz.prog 25 #[v] w fun e w' => ∃ A n c, e = .returned (.slice A n c) ∧ RdV w' (.slice A n c) o ∧ Below w.heap.size w w' := by
  cases o with
  | none =>
    rw [show v = nilS from h]
    refine (own_none w).mono ?_
    rintro e w' ⟨rfl, rfl⟩
    exact ⟨_, _, _, rfl, rfl, Below.refl _ _⟩
  | some l =>
    obtain ⟨g, off, cap, C, fz, rfl, h1, h2, h3, h4⟩ := h
    refine (own_some g off l.length cap l w rfl (hl l rfl) h4).mono ?_
    rintro e w' ⟨g', c', rfl, hr, hb, -⟩
    exact ⟨_, _, _, rfl, hr, hb⟩
theorem neq_nil5 (v : Value) (o : Option Bs) {w : World} (h : RdV w v o) (W : World) : (binOp .neq 34 v (.slice none 0 0)).run Tryz.prog W = .ok (.bool o.isSome) W := by
  cases o with
  | none =>
    rw [show v = nilS from h]
    exact run_neq_nil W none 0 0
  | some l =>
    obtain ⟨g, off, cap, C, fz, rfl, _⟩ := h
    exact run_neq_nil W (some ⟨g, off, none⟩) _ _
theorem guard_nil (v : Value) (o : Option Bs) {w : World} (h : RdV w v o) (x y : Operand) (W : World) : (eqGuard .neq 34 x y v (.slice none 0 0)).run Tryz.prog W = .ok () W := by
  cases o with
  | none =>
    rw [show v = nilS from h]
    go_simp
  | some l =>
    obtain ⟨g, off, cap, C, fz, rfl, _⟩ := h
    go_simp
theorem F.headP_nil : F.nil.headP = nilP := rfl
theorem F.headP_cons (c : Nat) (d : ND) (k r : F) : (F.cons c d k r).headP = ptr c := rfl
theorem F.len_le : ∀ (f : F), f.len ≤ f.blocks.length
  | .nil => Nat.le_refl _
  | .cons a d k r => by rw [F.len, F.blocks, List.length_cons, List.length_append]; have := F.len_le r; omega
theorem flat_head (a : Nat) (d : ND) (k : F) (p : Int) (i : Nat) : flatF (F.one a d k) p i = ⟨p, d.ty, d.lb, d.db, d.tb⟩ :: flatF k i (i + 1) := by
  rw [F.one, flatF, flatF, List.append_nil]

def tab37 : List Nat := [0, 0, 2, 4, 0, 0, 0x20, 0x40, 0x80, 0, 0x200, 0x400, 0x800, 0x1000, 0, 0x4000, 0x8000, 0x10000, 0x20000, 0, 0x80000, 0x100000, 0x200000, 0x400000, 0, 0x1000000, 0x2000000, 0x4000000, 0x8000000, 0, 0x20000000, 0x40000000, 0x80000000, 0x100000000, 0, 0x400000000, 0x800000000, 0x1000000000, 0x2000000000, 0, 0x8000000000, 0x10000000000, 0x20000000000, 0x40000000000, 0, 0x100000000000, 0x200000000000, 0x400000000000, 0x800000000000, 0, 0x2000000000000, 0x4000000000000, 0x8000000000000, 0x10000000000000, 0x20000000000000, 0, 0x80000000000000, 0x100000000000000, 0x200000000000000, 0x400000000000000, 0x800000000002000, 0, 0x2000000000000000, 0x4000000000000000, 0x8000000000000000, 0x10000000000000000, 0, 0x40000000000000000, 0x80000000000000000, 0x100000000000000000, 0x200000000000000000, 0, 0x800000000000000000, 0x1000000000000000000, 0x2000000000000000000, 0x4000000000000000000, 0x8001000000000000000, 0, 0x20000000000000000000, 0x40000000000000000000, 0x80000000000000000000, 0x100000000000000000000, 0, 0x400000000000000000000, 0x800000000000000000000, 0x1000000000000000000000, 0x2000000000000000000000, 0, 0x8000000000000000000000, 0x10000000000000000000000, 0x20000000000000000000000, 0x40000000000000000000000, 0, 0x100000000000000000000000, 0x200000000000000000000000, 0x400000000000000000000000, 0x800000000000000000000000, 0x1000010000000000000000000, 0, 0x4000000000000000000000000, 0x8000000000000000000000000, 0x10000000000000000000000000, 0x20000000000000000000000000, 0x42000000000000000000000000, 0, 0x100000000000000000000000000, 0x200000000000000000000000000, 0x400000000000000000000000000, 0x800000000000000000000000000, 0x1000000000000000000000000000, 0, 0x4000000000000000000000000000, 0x8000000000000000000000000000, 0x10000000000000000000000000000, 0x20000000000000000000000000000, 0, 0x80000000000000000000000000000, 0x100000000000000000000000000000, 0x200000000000000000000000000000, 0x400000000000000000000000000000, 0, 0x1000000000000000000000000000000, 0x2000000000000000000000000000000, 0x4000000000000000000000000000000, 0x8000000000000000000000000000000, 0x10842082084210421041084210842110, 0x20000000000000000000000000000000, 0x40000080000000000000000000000008, 0xffffffffffffffffffffffffffffffff, 0x1ffffffffffffffffffffffffffffffff]
set_option maxRecDepth 100000 in
set_option maxHeartbeats 8000000 in
theorem gather_step (B ALL OUT a : Nat) (d : ND) (k : F) (hk : AllG B ALL OUT k) : GatherOk B ALL OUT a d k := by
  intro w p ns ss par prv nxt hG hN hd hkat hB hds hks hlen hss hBw
  obtain ⟨i0, hi, hz0, hz1, hz2⟩ := info_parts info55
  obtain ⟨j0, hj, hy0, hy1, hy2⟩ := info_parts info53
  rw [flat_head]
  obtain ⟨ty, lv, lb, dv, db, tv, tb⟩ := d
  simp only at hN hds ⊢
  have q34 := neq_nil5 tv tb hd.2.2
  have qg := fun W => guard_nil tv tb hd.2.2 (.tmp 130) (.const (.slice none 0 0)) W
  have qn : ∀ W, (binOp .neq 34 (.slice none 0 0) (.slice none 0 0)).run Tryz.prog W = .ok (.bool false) W := fun W => run_neq_nil W none 0 0
  obtain ⟨⟨va, hA1, hA2⟩, ⟨vo, vs, hO1, hO2, hO3⟩, hge1, hge2⟩ := hG
  have hab := hB a (by simp)
  have cA : w.cell? ⟨ALL, 0, none⟩ = some va := (Lib.cell_of_heap hA1 0).trans rfl
  have cO : w.cell? ⟨OUT, 0, none⟩ = some vo := (Lib.cell_of_heap hO1 0).trans rfl
  have hvv : ∃ Ao co, vo = .slice Ao ss.length co := by
    rcases hO2.2 with ⟨h1, h2⟩ | ⟨g, cap, cur, h1, _⟩
    · exact ⟨none, 0, by rw [h1, h2]⟩
    · exact ⟨_, _, h1⟩
  obtain ⟨Ao, co, hvo⟩ := hvv
  have HVO := Lib.hid hvo
  have hls : ∀ l, (lb = some l → l.length ≤ 140737488355328) ∧ (db = some l → l.length ≤ 140737488355328) ∧ (tb = some l → l.length ≤ 140737488355328) := fun l => ⟨fun h => hds l (.inl h), fun h => hds l (.inr (.inl h)), fun h => hds l (.inr (.inr h))⟩
  have HA2 := Lib.hid hA2
  have HO2 := Lib.hid hO2
  have HO3 := Lib.hid hO3
  have HA1 := Lib.hid hA1
  have HO1 := Lib.hid hO1
  have HN := Lib.hid hN
  have HDL := Lib.hid hd.1
  have HDD := Lib.hid hd.2.1
  have HDT := Lib.hid hd.2.2
  have HK := Lib.hid hkat
  have HBK := Lib.hid hB
  have HLS := Lib.hid hls
  have HKS := Lib.hid hks
  have HSS := Lib.hid hss
  have HAG := Lib.hid hk
  clear hA1 hA2 hO1 hO2 hO3 hN hd hkat hB hds hks hss hk hls hvo
  obtain ⟨nn, hnn⟩ : ∃ nn, nn = ss.length := ⟨_, rfl⟩
  have HNN := Lib.hid hnn
  have hnb : nn ≤ 1000000 := by have := HSS.out; omega
  rw [HVO.out, ← hnn] at cO
  clear hnn
  go_enter Tryz.func37, Tryz.ntmps37
  go_wp2_with (at_builtin; refine wpList_append_lies _ rfl _ _ 69 rfl B 55 i0 nilP 1 8 Tryz.underlying69 hi hz0 hz1 hz2 rfl (by decide) _ _ _ rfl (HA2.out.alloc _) ⟨_, 0, none⟩ 1 1 [ptr a] rfl rfl (cell_one_new _ _ _) ?qc1 (by decide) ?qc2 ?qc3 ?qc4 _ rfl ?_)
  case qc1 => rfl
  case qc2 => unfold maxLen; omega
  case qc3 => omega
  case qc4 => exact Nat.le_trans hBw (Nat.le_succ _)
  intro ga ca w1 hown1 hgrow1 hat1 hlt1
  obtain ⟨va1, hva1⟩ : ∃ va1, va1 = Value.slice (some ⟨ga, 0, none⟩) (ns.length + 1) ca := ⟨_, rfl⟩
  rw [← hva1] at hown1
  obtain ⟨s1, s2, s3, s4, s5, s6, s7, s8⟩ := stage hBw HA1.out HO1.out HA2.out HO2.out hown1 hgrow1 (by decide) (by decide) (by decide) (by decide) (by decide) (by decide) (by decide) hge1
  have HN1 := Lib.hid (HN.out.same (s7.block a hab))
  have cO1 : (w1.setCell ⟨ALL, 0, none⟩ va1).cell? ⟨OUT, 0, none⟩ = some (.slice Ao nn co) := by rw [HNN.out, ← HVO.out]; exact (Lib.cell_of_heap s4 0).trans rfl
  have HS3 := Lib.hid s3
  have HS4 := Lib.hid s4
  have HS5 := Lib.hid s5
  have HS6 := Lib.hid s6
  have HS7 := Lib.hid s7
  have HS8 := Lib.hid s8
  clear hown1 hgrow1 hat1 hlt1 s3 s4 s5 s6 s7 s8 cA cO
  obtain ⟨W1, hW1⟩ : ∃ W1, W1 = w1.setCell ⟨ALL, 0, none⟩ va1 := ⟨_, rfl⟩
  have HW1 := Lib.hid hW1
  rw [← hW1] at HN1 cO1 HS3 HS4 HS5 HS6 HS7 HS8
  rw [hva1] at hW1
  have hKeep : ∀ w' : World, w'.heap[a]? = W1.heap[a]? → w'.heap[OUT]? = W1.heap[OUT]? → w'.cell? ⟨OUT, 0, none⟩ = some (.slice Ao nn co) ∧ w'.cell? ⟨a, 0, none⟩ = some (.int .i64 ty) ∧ w'.cell? ⟨a, 6, none⟩ = some (lv) ∧ w'.cell? ⟨a, 7, none⟩ = some (.int .i64 0) ∧ w'.cell? ⟨a, 8, none⟩ = some (.string ⟨#[]⟩) ∧ w'.cell? ⟨a, 9, none⟩ = some (.bool false) ∧ w'.cell? ⟨a, 10, none⟩ = some (.int .i64 0) ∧ w'.cell? ⟨a, 11, none⟩ = some (.bool false) ∧ w'.cell? ⟨a, 12, none⟩ = some (.int .u8 0) ∧ w'.cell? ⟨a, 13, none⟩ = some (.int .u8 0) ∧ w'.cell? ⟨a, 14, none⟩ = some (nilS) ∧ w'.cell? ⟨a, 15, none⟩ = some (.bool false) ∧ w'.cell? ⟨a, 16, none⟩ = some (.bool false) ∧ w'.cell? ⟨a, 17, none⟩ = some (nilS) ∧ w'.cell? ⟨a, 18, none⟩ = some (.int .u8 0) ∧ w'.cell? ⟨a, 19, none⟩ = some (.int .i64 0) ∧ w'.cell? ⟨a, 20, none⟩ = some (.int .i64 0) ∧ w'.cell? ⟨a, 21, none⟩ = some (dv) ∧ w'.cell? ⟨a, 22, none⟩ = some (tv) ∧ w'.cell? ⟨a, 23, none⟩ = some (.int .i64 0) ∧ w'.cell? ⟨a, 25, none⟩ = some (.bool false) ∧ w'.cell? ⟨a, 26, none⟩ = some (.int .i64 0) := fun w' ha hbo => by
    have hn := HN1.out.same ha
    have ho := hbo.trans HS4.out
    refine ⟨by rw [HNN.out, ← HVO.out]; exact (Lib.cell_of_heap ho 0).trans rfl, hn.cell 0, hn.cell 6, hn.cell 7, hn.cell 8, hn.cell 9, hn.cell 10, hn.cell 11, hn.cell 12, hn.cell 13, hn.cell 14, hn.cell 15, hn.cell 16, hn.cell 17, hn.cell 18, hn.cell 19, hn.cell 20, hn.cell 21, hn.cell 22, hn.cell 23, hn.cell 25, hn.cell 26⟩
  have HKEEP := Lib.hid hKeep
  have HAL : Hid (∀ (w' : World) (o : Obj), Below W1.heap.size W1 w' → Below W1.heap.size W1 (w'.alloc o)) := fun w' o hb => hb.alloc hb.size o
  have hB1 : Below W1.heap.size W1 W1 := Below.refl _ _
  have CL : Hid (∀ w', Below W1.heap.size W1 w' → Calls Tryz.prog 25 #[lv] w' fun e w2 => ∃ A n c, e = .returned (.slice A n c) ∧ RdV w2 (.slice A n c) lb ∧ Below w'.heap.size w' w2) := fun w' hb => own25s lv lb w' (HDL.out.keep (HS8.out.trans (keep5_below hb))) (fun l => (HLS.out l).1)
  have CD : Hid (∀ w', Below W1.heap.size W1 w' → Calls Tryz.prog 25 #[dv] w' fun e w2 => ∃ A n c, e = .returned (.slice A n c) ∧ RdV w2 (.slice A n c) db ∧ Below w'.heap.size w' w2) := fun w' hb => own25s dv db w' (HDD.out.keep (HS8.out.trans (keep5_below hb))) (fun l => (HLS.out l).2.1)
  have CT : Hid (∀ w', Below W1.heap.size W1 w' → Calls Tryz.prog 25 #[tv] w' fun e w2 => ∃ A n c, e = .returned (.slice A n c) ∧ RdV w2 (.slice A n c) tb ∧ Below w'.heap.size w' w2) := fun w' hb => own25s tv tb w' (HDT.out.keep (HS8.out.trans (keep5_below hb))) (fun l => (HLS.out l).2.2)
  have CNI := Lib.hid (fun w' => own_none w')
  clear hKeep cO1
  have hmix : Tryz.prog.follows .mixedOrders = true := by kernel_rfl
  obtain ⟨SS, hSS⟩ : ∃ SS : World → Prop, SS = fun w' => w'.cell? ⟨OUT, 0, none⟩ = some (.slice Ao nn co) ∧ w'.cell? ⟨a, 0, none⟩ = some (.int .i64 ty) ∧ w'.cell? ⟨a, 6, none⟩ = some (lv) ∧ w'.cell? ⟨a, 7, none⟩ = some (.int .i64 0) ∧ w'.cell? ⟨a, 8, none⟩ = some (.string ⟨#[]⟩) ∧ w'.cell? ⟨a, 9, none⟩ = some (.bool false) ∧ w'.cell? ⟨a, 10, none⟩ = some (.int .i64 0) ∧ w'.cell? ⟨a, 11, none⟩ = some (.bool false) ∧ w'.cell? ⟨a, 12, none⟩ = some (.int .u8 0) ∧ w'.cell? ⟨a, 13, none⟩ = some (.int .u8 0) ∧ w'.cell? ⟨a, 14, none⟩ = some (nilS) ∧ w'.cell? ⟨a, 15, none⟩ = some (.bool false) ∧ w'.cell? ⟨a, 16, none⟩ = some (.bool false) ∧ w'.cell? ⟨a, 17, none⟩ = some (nilS) ∧ w'.cell? ⟨a, 18, none⟩ = some (.int .u8 0) ∧ w'.cell? ⟨a, 19, none⟩ = some (.int .i64 0) ∧ w'.cell? ⟨a, 20, none⟩ = some (.int .i64 0) ∧ w'.cell? ⟨a, 21, none⟩ = some (dv) ∧ w'.cell? ⟨a, 22, none⟩ = some (tv) ∧ w'.cell? ⟨a, 23, none⟩ = some (.int .i64 0) ∧ w'.cell? ⟨a, 25, none⟩ = some (.bool false) ∧ w'.cell? ⟨a, 26, none⟩ = some (.int .i64 0) := ⟨_, rfl⟩
  have sf0 : ∀ u : SW SS, (u.x).cell? ⟨OUT, 0, none⟩ = some (.slice Ao nn co) := fun u => by obtain ⟨x, hx⟩ := u; show x.cell? _ = _; rw [hSS] at hx; exact hx.1
  have sf1 : ∀ u : SW SS, (u.x).cell? ⟨a, 0, none⟩ = some (.int .i64 ty) := fun u => by obtain ⟨x, hx⟩ := u; show x.cell? _ = _; rw [hSS] at hx; exact hx.2.1
  have sf2 : ∀ u : SW SS, (u.x).cell? ⟨a, 6, none⟩ = some (lv) := fun u => by obtain ⟨x, hx⟩ := u; show x.cell? _ = _; rw [hSS] at hx; exact hx.2.2.1
  have sf3 : ∀ u : SW SS, (u.x).cell? ⟨a, 7, none⟩ = some (.int .i64 0) := fun u => by obtain ⟨x, hx⟩ := u; show x.cell? _ = _; rw [hSS] at hx; exact hx.2.2.2.1
  have sf4 : ∀ u : SW SS, (u.x).cell? ⟨a, 8, none⟩ = some (.string ⟨#[]⟩) := fun u => by obtain ⟨x, hx⟩ := u; show x.cell? _ = _; rw [hSS] at hx; exact hx.2.2.2.2.1
  have sf5 : ∀ u : SW SS, (u.x).cell? ⟨a, 9, none⟩ = some (.bool false) := fun u => by obtain ⟨x, hx⟩ := u; show x.cell? _ = _; rw [hSS] at hx; exact hx.2.2.2.2.2.1
  have sf6 : ∀ u : SW SS, (u.x).cell? ⟨a, 10, none⟩ = some (.int .i64 0) := fun u => by obtain ⟨x, hx⟩ := u; show x.cell? _ = _; rw [hSS] at hx; exact hx.2.2.2.2.2.2.1
  have sf7 : ∀ u : SW SS, (u.x).cell? ⟨a, 11, none⟩ = some (.bool false) := fun u => by obtain ⟨x, hx⟩ := u; show x.cell? _ = _; rw [hSS] at hx; exact hx.2.2.2.2.2.2.2.1
  have sf8 : ∀ u : SW SS, (u.x).cell? ⟨a, 12, none⟩ = some (.int .u8 0) := fun u => by obtain ⟨x, hx⟩ := u; show x.cell? _ = _; rw [hSS] at hx; exact hx.2.2.2.2.2.2.2.2.1
  have sf9 : ∀ u : SW SS, (u.x).cell? ⟨a, 13, none⟩ = some (.int .u8 0) := fun u => by obtain ⟨x, hx⟩ := u; show x.cell? _ = _; rw [hSS] at hx; exact hx.2.2.2.2.2.2.2.2.2.1
  have sf10 : ∀ u : SW SS, (u.x).cell? ⟨a, 14, none⟩ = some (nilS) := fun u => by obtain ⟨x, hx⟩ := u; show x.cell? _ = _; rw [hSS] at hx; exact hx.2.2.2.2.2.2.2.2.2.2.1
  have sf11 : ∀ u : SW SS, (u.x).cell? ⟨a, 15, none⟩ = some (.bool false) := fun u => by obtain ⟨x, hx⟩ := u; show x.cell? _ = _; rw [hSS] at hx; exact hx.2.2.2.2.2.2.2.2.2.2.2.1
  have sf12 : ∀ u : SW SS, (u.x).cell? ⟨a, 16, none⟩ = some (.bool false) := fun u => by obtain ⟨x, hx⟩ := u; show x.cell? _ = _; rw [hSS] at hx; exact hx.2.2.2.2.2.2.2.2.2.2.2.2.1
  have sf13 : ∀ u : SW SS, (u.x).cell? ⟨a, 17, none⟩ = some (nilS) := fun u => by obtain ⟨x, hx⟩ := u; show x.cell? _ = _; rw [hSS] at hx; exact hx.2.2.2.2.2.2.2.2.2.2.2.2.2.1
  have sf14 : ∀ u : SW SS, (u.x).cell? ⟨a, 18, none⟩ = some (.int .u8 0) := fun u => by obtain ⟨x, hx⟩ := u; show x.cell? _ = _; rw [hSS] at hx; exact hx.2.2.2.2.2.2.2.2.2.2.2.2.2.2.1
  have sf15 : ∀ u : SW SS, (u.x).cell? ⟨a, 19, none⟩ = some (.int .i64 0) := fun u => by obtain ⟨x, hx⟩ := u; show x.cell? _ = _; rw [hSS] at hx; exact hx.2.2.2.2.2.2.2.2.2.2.2.2.2.2.2.1
  have sf16 : ∀ u : SW SS, (u.x).cell? ⟨a, 20, none⟩ = some (.int .i64 0) := fun u => by obtain ⟨x, hx⟩ := u; show x.cell? _ = _; rw [hSS] at hx; exact hx.2.2.2.2.2.2.2.2.2.2.2.2.2.2.2.2.1
  have sf17 : ∀ u : SW SS, (u.x).cell? ⟨a, 21, none⟩ = some (dv) := fun u => by obtain ⟨x, hx⟩ := u; show x.cell? _ = _; rw [hSS] at hx; exact hx.2.2.2.2.2.2.2.2.2.2.2.2.2.2.2.2.2.1
  have sf18 : ∀ u : SW SS, (u.x).cell? ⟨a, 22, none⟩ = some (tv) := fun u => by obtain ⟨x, hx⟩ := u; show x.cell? _ = _; rw [hSS] at hx; exact hx.2.2.2.2.2.2.2.2.2.2.2.2.2.2.2.2.2.2.1
  have sf19 : ∀ u : SW SS, (u.x).cell? ⟨a, 23, none⟩ = some (.int .i64 0) := fun u => by obtain ⟨x, hx⟩ := u; show x.cell? _ = _; rw [hSS] at hx; exact hx.2.2.2.2.2.2.2.2.2.2.2.2.2.2.2.2.2.2.2.1
  have sf20 : ∀ u : SW SS, (u.x).cell? ⟨a, 25, none⟩ = some (.bool false) := fun u => by obtain ⟨x, hx⟩ := u; show x.cell? _ = _; rw [hSS] at hx; exact hx.2.2.2.2.2.2.2.2.2.2.2.2.2.2.2.2.2.2.2.2.1
  have sf21 : ∀ u : SW SS, (u.x).cell? ⟨a, 26, none⟩ = some (.int .i64 0) := fun u => by obtain ⟨x, hx⟩ := u; show x.cell? _ = _; rw [hSS] at hx; exact hx.2.2.2.2.2.2.2.2.2.2.2.2.2.2.2.2.2.2.2.2.2
  have HSB : Hid (∀ w' : World, w'.heap[a]? = W1.heap[a]? → w'.heap[OUT]? = W1.heap[OUT]? → SS w') := by rw [hSS]; exact HKEEP
  have HSS : Hid (∀ w', Below W1.heap.size W1 w' → SS w') := Lib.hid (fun w' hb => HSB.out w' (hb.block a HN1.out.lt) (hb.block OUT (Array.getElem?_eq_some_iff.1 HS4.out).1))
  clear hSS HKEEP HAL hB1
  go_wp2
  rw [← hW1]
  clear hW1 hva1
  simp only [List.append]
  refine wp_region_pathN (last := 129) (S := fun w' => ∃ u : SW SS, w' = u.x) (([0, 1, 2, 3, 4, 5, 6, 7, 8, 9, 10, 11, 12, 14, 15, 16, 17, 18, 19, 20, 21, 22, 23, 24, 25, 26, 27, 28, 29, 30, 31, 32, 33, 34, 35, 36, 37, 38, 39, 40, 41, 42, 43, 44, 45, 46, 47, 48, 49, 50, 51, 52, 53, 54, 55, 56, 57, 58, 59, 61, 62, 63, 64, 65, 66, 67, 68, 69, 70, 71, 72, 73, 74, 75, 77, 78, 79, 80, 81, 82, 83, 84, 85, 86, 87, 88, 89, 90, 91, 92, 93, 94, 95, 96, 98, 99, 100, 101, 102, 104, 105, 106, 107, 108, 109, 110, 111, 112, 113, 114, 115, 116, 117, 118, 119, 120, 121, 122, 123, 124] : List Nat).map (fun i => (i, true)) ++ [(13, false), (60, false), (76, false), (97, false), (103, false), (125, false), (126, false), (127, false), (128, false), (129, false)]) tab37 22 hmix (by kernel_rfl) (by kernel_rfl) (by kernel_rfl) (by kernel_rfl) (by kernel_rfl) (by kernel_rfl) (by kernel_rfl) ⟨⟨_, HSS.out _ (below_drewN (Below.refl W1.heap.size W1) 1)⟩, rfl⟩ ?_
  refine wpPath_quiet' _ _ (by kernel_rfl) ?_
  refine wpQ_op rfl rfl fun K hK => ?_
  go_big_quiet_op
  refine hK _ ?_
  clear hK K
  repeat (refine wpQ_op rfl rfl fun K hK => ?_; go_big_quiet_op; (try refine ⟨_, fun _ => rfl, ?_⟩); refine hK _ ?_; clear hK K)
  refine wpQ_nil ?_
  generalize hW2 : ({ W1 with drawn := W1.drawn + 1 } : World) = W2
  have hb2 : Below W1.heap.size W1 W2 := by rw [← hW2]; exact below_drewN (Below.refl _ _) 1
  clear hW2
  refine tail_step rfl rfl fun K hK => ?_
  go_wp2_with (go_at_call 25; refine (CL.out W2 hb2).mono ?_; rintro r w3 ⟨AL, nL, cL, rfl, hrL, hbL⟩)
  have hb3 := hb2.trans (hbL.mono hb2.size)
  refine hK _ _ (fun _ => ⟨⟨w3, HSS.out _ hb3⟩, rfl⟩) ?_
  clear hK K
  refine tail_step rfl rfl fun K hK => ?_
  go_wp2_with (go_at_call 25; refine (CNI.out w3).mono ?_; rintro r w' ⟨rfl, hw'⟩; rw [hw']; clear hw')
  refine hK _ _ (fun _ => ⟨⟨w3, HSS.out _ hb3⟩, rfl⟩) ?_
  clear hK K
  refine tail_step rfl rfl fun K hK => ?_
  go_wp2_with (go_at_call 25; refine (CNI.out w3).mono ?_; rintro r w' ⟨rfl, hw'⟩; rw [hw']; clear hw')
  refine hK _ _ (fun _ => ⟨⟨w3, HSS.out _ hb3⟩, rfl⟩) ?_
  clear hK K
  refine tail_step rfl rfl fun K hK => ?_
  go_wp2_with (go_at_call 25; refine (CD.out w3 hb3).mono ?_; rintro r w4 ⟨AD, nD, cD, rfl, hrD, hbD⟩)
  have hb4 := hb3.trans (hbD.mono hb3.size)
  refine hK _ _ (fun _ => ⟨⟨w4, HSS.out _ hb4⟩, rfl⟩) ?_
  clear hK K
  refine tail_step rfl rfl fun K hK => ?_
  go_wp2_with (go_at_call 25; refine (CT.out w4 hb4).mono ?_; rintro r w5 ⟨AT, nT, cT, rfl, hrT, hbT⟩)
  have hb5 := hb4.trans (hbT.mono hb4.size)
  refine hK _ _ (fun _ => ⟨⟨w5, HSS.out _ hb5⟩, rfl⟩) ?_
  clear hK K
  have hown5 : w5.ownsRow B 53 25 (.slice Ao nn co) nn vs := by have := own_below HS6.out hb5; rw [HVO.out] at this; rw [HNN.out]; exact this
  have hall5 : w5.ownsRow B 55 1 va1 (ns.length + 1) (ns.map ptr ++ [ptr a]) := own_below HS5.out hb5
  have hP5 : w5.heap[OUT]? = some (.cells #[.slice Ao nn co] 32 (0, 0)) := by rw [hb5.block OUT (Array.getElem?_eq_some_iff.1 HS4.out).1, HS4.out, HVO.out, HNN.out]
  have hQ5 : w5.heap[ALL]? = some (.cells #[va1] 69 (0, 0)) := (hb5.block ALL (Array.getElem?_eq_some_iff.1 HS3.out).1).trans HS3.out
  have hN5 := HN1.out.below hb5
  have hBw5 : B ≤ w5.heap.size := Nat.le_trans hBw (Nat.le_trans HS7.out.size hb5.size)
  have hk5 : Keep5 w w5 := HS8.out.trans (keep5_below hb5)
  have HRL := Lib.hid (hrL.keep ((keep5_below hbD).trans (keep5_below hbT)))
  have HRD := Lib.hid (hrD.keep (keep5_below hbT))
  have HRT := Lib.hid hrT
  have HB5 := Lib.hid hb5
  have HO5 := Lib.hid hown5
  have HAL5 := Lib.hid hall5
  have HP5 := Lib.hid hP5
  have HQ5 := Lib.hid hQ5
  have HN5 := Lib.hid hN5
  have HK5 := Lib.hid hk5
  clear hrL hrD hrT hbL hbD hbT hb2 hb3 hb4 hown5 hall5 hP5 hQ5 hN5 hk5
  refine tail_step rfl rfl fun K hK => ?_
  refine wp_gives (v := .agg #[.int .i64 p, .int .i64 ty, .slice AL nL cL, .int .i64 0, .string ⟨#[]⟩, .bool false, .int .i64 0, .bool false, .int .u8 0, .int .u8 0, .bool false, .slice none 0 0, .bool false, .bool false, .slice none 0 0, .int .u8 0, .int .i64 0, .int .i64 0, .slice AD nD cD, .slice AT nT cT, .bool tb.isSome, .int .i64 0, .int .i64 (-1), .bool false, .int .i64 0]) (by kernel_rfl) ?_
  simp only [Act.put, List.setIfInBounds_toArray, List.set_cons_succ, List.set_cons_zero]
  refine hK _ _ (fun _ => ⟨⟨w5, HSS.out _ HB5.out⟩, rfl⟩) ?_
  clear hK K
  refine tail_step rfl rfl fun K hK => ?_
  go_wp2_with fail
  refine hK _ _ (fun _ => ⟨⟨_, HSS.out _ (HB5.out.alloc HB5.out.size _)⟩, rfl⟩) ?_
  clear hK K
  refine tail_step rfl rfl fun K hK => ?_
  refine wp_append_lies _ (.tmp 25) (.tmp 148) 32 (by rfl) B 53 j0 zero53 25 256 Tryz.underlying32 hj hy0 hy1 hy2 zero53_size (by decide) (.slice Ao nn co) nn vs (by rfl) (HO5.out.alloc _) ⟨w5.heap.size, 0, none⟩ 1 1 (rowOf ⟨p, ty, lb, db, tb⟩ (.slice AL nL cL) (.slice AD nD cD) (.slice AT nT cT)) (by rfl) (by rfl) (World.news_of_block (cs := (rowOf ⟨p, ty, lb, db, tb⟩ (.slice AL nL cL) (.slice AD nD cD) (.slice AT nT cT)).toArray) (heap_alloc_new w5 _)) ?qc1 (by decide) ?qc2 ?qc3 ?qc4 _ rfl ?_
  case qc1 => intro u hu; exact (RowsAre.one (w := w5) (ss := [⟨p, ty, lb, db, tb⟩]) ⟨_, [], (List.append_nil _).symm, ⟨_, _, _, rfl, HRL.out, HRD.out, HRT.out⟩, rfl⟩).2 u hu
  case qc2 => unfold maxLen; omega
  case qc3 => omega
  case qc4 => rw [World.size_alloc]; omega
  intro g6 c6 w6 hown6 hg6 hat6 hlt6
  have hltO : OUT < w5.heap.size := (Array.getElem?_eq_some_iff.1 HP5.out).1
  have hPo := Below.heap_alloc w5 (.cells (rowOf ⟨p, ty, lb, db, tb⟩ (.slice AL nL cL) (.slice AD nD cD) (.slice AT nT cT)).toArray 53) OUT hltO
  obtain ⟨t1, t2, t3, t4, t5, t6, t7, t8⟩ := stage hBw5 HP5.out HQ5.out HO5.out HAL5.out hown6 hg6 (by decide) (by decide) (by decide) (by decide) (by decide) (by decide) (by decide) hge2
  have ha6 : w6.heap[a]? = W1.heap[a]? := (Below.heap_setCell w6 ⟨OUT, 0, none⟩ _ a (by show a ≠ OUT; omega)).symm.trans ((t7.block a hab).trans (HB5.out.block a HN1.out.lt))
  have ho6 : w6.heap[OUT]? = W1.heap[OUT]? := ((hg6.block OUT (by rw [World.size_alloc]; omega) (own_ne (HO5.out.alloc _) (hPo.trans HP5.out) (by decide))).trans hPo).trans (HB5.out.block OUT (Array.getElem?_eq_some_iff.1 HS4.out).1)
  have hS6 := HSB.out w6 ha6 ho6
  have HT3 := Lib.hid t3
  have HT4 := Lib.hid t4
  have HT5 := Lib.hid t5
  have HT6 := Lib.hid t6
  have HT7 := Lib.hid t7
  have HT8 := Lib.hid t8
  have HS6' := Lib.hid hS6
  clear hown6 hg6 hat6 hlt6 hPo t3 t4 t5 t6 t7 t8 ha6 ho6 hS6
  refine hK _ _ (fun _ => ⟨⟨w6, HS6'.out⟩, rfl⟩) ?_
  clear hK K
  simp only [Act.put, List.setIfInBounds_toArray, List.set_cons_succ, List.set_cons_zero]
  refine tail_step rfl rfl fun K hK => ?_
  go_wp2_with fail
  refine hK _ _ (fun _ => ⟨⟨w6, HS6'.out⟩, rfl⟩) ?_
  clear hK K
  refine tail_step rfl rfl fun K hK => ?_
  go_wp2_with fail
  refine hK _ _ (fun h => absurd rfl h) ?_
  clear hK K
  refine path_end ?_
  have hk6 : Keep5 w (w6.setCell ⟨OUT, 0, none⟩ (.slice (some ⟨g6, 0, none⟩) (nn + 1) c6)) := HK5.out.trans HT8.out
  have hb6 : Below B w (w6.setCell ⟨OUT, 0, none⟩ (.slice (some ⟨g6, 0, none⟩) (nn + 1) c6)) := (HS7.out.trans (HB5.out.mono (Nat.le_trans hBw HS7.out.size))).trans HT7.out
  have hgat : Gat B ALL OUT (w6.setCell ⟨OUT, 0, none⟩ (.slice (some ⟨g6, 0, none⟩) (nn + 1) c6)) (ns ++ [a]) (ss ++ [⟨p, ty, lb, db, tb⟩]) := by
    refine ⟨⟨va1, HT4.out, ?_⟩, ⟨_, _, HT3.out, ?_, RowsAre.app ⟨_, _, _, rfl, HRL.out.keep HT8.out, HRD.out.keep HT8.out, HRT.out.keep HT8.out⟩ (HO3.out.keep hk6)⟩, hge1, hge2⟩
    · rw [List.length_append, List.map_append]; exact HT6.out
    · rw [List.length_append, ← HNN.out]; exact HT5.out
  have e2 : (w6.setCell ⟨OUT, 0, none⟩ (.slice (some ⟨g6, 0, none⟩) (nn + 1) c6)).cell? ⟨a, 2, none⟩ = some k.headP := (HN.out.same (hb6.block a hab)).cell 2
  have HK6 := Lib.hid hk6
  have HB6 := Lib.hid hb6
  have HG6 := Lib.hid hgat
  clear hk6 hb6 hgat t1 t2 HT3 HT4 HT5 HT6 HT7 HT8 HS3 HS4 HS5 HS6 HS8 HRL HRD HRT HP5 HQ5 HN5 HK5 HO5 HAL5 HSB HSS HS6' hmix
  go_wp2_with fail
  go_loopg [9] (k.len + 1) (fun q v9 wr => ∃ (r : F) (ns1 : List Nat) (ss1 : List RS), v9 = r.headP ∧ q = r.len + 1 ∧ AllG B ALL OUT r ∧ r.at wr ∧ r.small ∧ (∀ b ∈ r.blocks, b < B) ∧ Gat B ALL OUT wr ns1 ss1 ∧ ss1.length = ns1.length ∧ ns1 ++ r.blocks = ns ++ a :: k.blocks ∧ ss1 ++ flatF r nn ss1.length = ss ++ (⟨p, ty, lb, db, tb⟩ :: flatF k ss.length (ss.length + 1)) ∧ Below B w wr ∧ Keep5 w wr)
  case atStart =>
    refine ⟨k, ns ++ [a], ss ++ [⟨p, ty, lb, db, tb⟩], rfl, rfl, HAG.out, F.at_same HK6.out k HK.out (fun b hb => HB6.out.block b (HBK.out b (by simp [hb]))), HKS.out, fun b hb => HBK.out b (by simp [hb]), HG6.out, by rw [List.length_append, List.length_append, HSS.out]; rfl, by simp, ?_, HB6.out, HK6.out⟩
    rw [List.length_append, HNN.out]
    simp
  case round =>
    obtain ⟨r, ns1, ss1, rfl, hq, hag, hat, hsm, hbl, hg, hss1, hns1, hfl, hb, hk⟩ := hrel
    cases r with
    | nil =>
      have HG := Lib.hid hg
      have HB := Lib.hid hb
      have HKX := Lib.hid hk
      have HNS := Lib.hid hns1
      have HFL := Lib.hid hfl
      clear hg hb hk hns1 hfl hag hat hsm hbl hss1
      rw [F.headP_nil]
      go_wp2_with fail
      go_end0
      refine ⟨rfl, ?_, HB.out, HKX.out⟩
      have h1 := HNS.out
      have h2 := HFL.out
      rw [F.blocks, List.append_nil] at h1
      rw [flatF, List.append_nil] at h2
      rw [← h1, ← h2]
      exact HG.out
    | cons c d' k' r' =>
      obtain ⟨⟨par', prv', hn'⟩, hd', hk', hr'⟩ := hat
      have hlb : ns1.length + (F.cons c d' k' r').blocks.length = ns.length + 1 + k.blocks.length := by
        have := congrArg List.length hns1
        simp only [List.length_append, List.length_cons] at this
        omega
      have hcb : (F.cons c d' k' r').blocks.length = 1 + k'.blocks.length + r'.blocks.length := by rw [F.blocks]; simp; omega
      have CG := Lib.hid (hag.1 wr nn ns1 ss1 par' prv' r'.headP hg hn' hd' hk' (fun b hb => hbl b (by rw [F.blocks]; simp only [List.mem_cons, List.mem_append] at hb ⊢; rcases hb with h | h; exact .inl h; exact .inr (.inl h))) hsm.1 hsm.2.1 (by omega) hss1 (Nat.le_trans hBw hb.size))
      have HN' := Lib.hid hn'
      have HR' := Lib.hid hr'
      have HB := Lib.hid hb
      have HKK := Lib.hid hk
      have HNS := Lib.hid hns1
      have HFL := Lib.hid hfl
      have HAG' := Lib.hid hag.2
      have HSM := Lib.hid hsm.2.2
      have HBL := Lib.hid hbl
      have HSS1 := Lib.hid hss1
      clear hg hb hk hns1 hfl hag hn' hd' hk' hr' hsm hbl hss1
      have hq' : gk = r'.len + 1 + 1 := by have := hq; rw [F.len] at this; omega
      rw [F.headP_cons]
      go_wp2_with (go_at_call 37; refine CG.out.mono ?_; rintro r w2 ⟨rfl, hg2, hb2, hk2⟩; have HG2 := Lib.hid hg2; have HB2 := Lib.hid hb2; have HK2 := Lib.hid hk2; have c5 : w2.cell? ⟨c, 5, none⟩ = some r'.headP := (HN'.out.same (hb2.block c (HBL.out c (by simp [F.blocks])))).cell 5; clear hg2 hb2 hk2)
      go_roundg (r'.len + 1)
      case measure => omega
      case rel =>
        refine ⟨r', ns1 ++ c :: k'.blocks, _, rfl, rfl, HAG'.out, F.at_same HK2.out r' HR'.out (fun b hb => HB2.out.block b (HBL.out b (by simp [F.blocks, hb]))), HSM.out, fun b hb => HBL.out b (by simp [F.blocks, hb]), HG2.out, ?_, ?_, ?_, HB.out.trans HB2.out, HKK.out.trans HK2.out⟩
        · rw [List.length_append, List.length_append, flatF_length, HSS1.out]; simp [F.one, F.blocks]
        · have := HNS.out; rw [F.blocks] at this; simpa using this
        · rw [← HFL.out, flatF, flat_head]
          rw [List.length_append, List.length_cons, flatF_length, List.append_assoc, List.cons_append, show ss1.length + (k'.blocks.length + 1) = ss1.length + 1 + k'.blocks.length by omega]
theorem gather_all (B ALL OUT : Nat) : ∀ f : F, AllG B ALL OUT f
  | .nil => trivial
  | .cons a d k r => ⟨gather_step B ALL OUT a d k (gather_all B ALL OUT k), gather_all B ALL OUT r⟩
theorem gather_ok (B ALL OUT a : Nat) (d : ND) (k : F) : GatherOk B ALL OUT a d k := gather_step B ALL OUT a d k (gather_all B ALL OUT k)
end Go.Proofs.YtalajbfpilhfgaaGreatDoor
