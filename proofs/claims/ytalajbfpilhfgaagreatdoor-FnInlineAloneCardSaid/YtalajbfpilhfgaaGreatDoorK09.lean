/-
  FnInlineAlone: callbacks: '<' at automatic links.
  FnInlineAlone: callbacks: '<' at addresses of mail.
  FnInlineAlone: links: helpers.
-/
import Derived.Test.YtalajbfpilhfgaaGreatDoorK08
import Derived.ArgAppend
set_option linter.unusedVariables false
set_option linter.unusedSimpArgs false
namespace Go.Proofs.YtalajbfpilhfgaaGreatDoor
open Go.RowKit

theorem keep5_set {w : World} {a : Nat} {A : Array Value} (h : NodeIs w a A) (i : Nat) (v : Value) : Keep5 w (w.setCell ⟨a, i, none⟩ v) := by
  intro g C fz hg
  refine Below.heap_setCell w _ _ g (fun e => ?_)
  rw [e] at hg
  have := hg.symm.trans h
  injection this with this
  injection this with _ this
  cases this
theorem RdV.below {w w' : World} {v : Value} {o : Option Bs} (h : RdV w v o) (hb : Below w.heap.size w w') : RdV w' v o := h.keep (keep5_below hb)
/-- A link with a text below it: what has been made since w. -/
theorem link_made {w w5 w6 w7 w8 : World} {a t : Nat} {ty : Int} {dv tv v' : Value} {l : Option Bs} {tl : Option Bs} {l' : Bs} (ha : w.heap.size ≤ a) (hta : a < t) (h5 : Below w.heap.size w w5) (hn5 : NodeIs w5 a (nodeArr ty nilP nilP nilP nilP nilP nilS dv tv)) (hd : RdV w5 dv l) (htt : RdV w5 tv tl)
    (h67 : Below w5.heap.size w5 w6) (hv : RdV w6 v' (some l')) (ht : t = w6.heap.size) (h7 : Below w6.heap.size w6 w7) (hn7 : NodeIs w7 t (nodeArr 12 nilP nilP nilP nilP nilP v' nilS nilS))
    (hs : SameBut [a, t] w7 w8) (hn8 : NodeIs w8 a (nodeArr ty nilP (ptr t) (ptr t) nilP nilP nilS dv tv)) (hn8' : NodeIs w8 t (nodeArr 12 (ptr a) nilP nilP nilP nilP v' nilS nilS)) :
    Below w.heap.size w w8 ∧ Made w (G.one ty none l tl (textG l')) a w8 := by
  have hz5 := h5.size
  have hz6 := h67.size
  have hz7 := h7.size
  have hk : Keep5 w7 w8 := keep5_but hs (by
    intro b hb
    simp at hb
    rcases hb with rfl | rfl
    · exact ⟨_, (hn5.below h67).below h7⟩
    · exact ⟨_, hn7⟩)
  have hb7 := (h5.trans (h67.mono hz5)).trans (h7.mono (by omega))
  refine ⟨⟨hs.1.trans hb7.os, hs.2.1.trans hb7.tape, hs.2.2.1.trans hb7.output, by rw [hs.2.2.2.1]; exact hb7.size, fun i hi => (hs.2.2.2.2 i (by simp; omega)).trans (hb7.block i hi)⟩,
    ⟨ty, nilS, none, dv, l, tv, tl⟩, F.one t ⟨12, v', some l', nilS, none, nilS, none⟩ .nil, ⟨hn8, ⟨rfl, ((hd.below h67).below h7).keep hk, ((htt.below h67).below h7).keep hk⟩, ⟨_, _, hn8'⟩, ⟨(hv.below h7).keep hk, rfl, rfl⟩, trivial, trivial⟩, ?_, ?_, rfl⟩
  · simp [F.one, F.blocks]; omega
  · intro b hb
    simp [F.one, F.blocks] at hb
    rcases hb with rfl | rfl <;> omega

/-- stripMailto, with what its answer reads as. -/
theorem strip_rd (l l' : Bs) (h9 : m9L.isPrefixOf l = false) (h7 : m7L.isPrefixOf l = true → 8 ≤ l.length) (hl' : l' = if m7L.isPrefixOf l = true then l.drop 7 else l) (g c : Nat) (W : World) (hv : RdV W (.slice (some ⟨g, 0, none⟩) l.length c) (some l)) (hcm : c ≤ maxLen) :
    Calls Tryz.prog 75 #[.slice (some ⟨g, 0, none⟩) l.length c] W fun r w' => ∃ o' m' c', r = .returned (.slice (some ⟨g, o', none⟩) m' c') ∧ Below W.heap.size W w' ∧ RdV w' (.slice (some ⟨g, o', none⟩) m' c') (some l') := by
  obtain ⟨g', off, cap, C, fz, e1, q1, q2, q3, q4⟩ := hv
  injection e1 with e1 e2 e3
  injection e1 with e1
  injection e1 with e1 e4
  subst e1 e4 e3
  refine (strip75 g c l W q4 (Lib.lt_of_heap q3) q1 h7 (by unfold maxLen at hcm; exact hcm) h9).mono ?_
  rintro r w' ⟨hb, hr⟩
  have hg' := (hb.block g (Lib.lt_of_heap q3)).trans q3
  have hR := rdO_below q4 hb (Lib.lt_of_heap q3)
  by_cases h : m7L.isPrefixOf l = true
  · rw [if_pos h] at hr hl'
    subst hl'
    have h8 := h7 h
    refine ⟨7, l.length - 7, c - 7, hr, hb, g, 7, c - 7, C, fz, by rw [List.length_drop], by rw [List.length_drop]; omega, by omega, hg', ?_⟩
    have := rdO_drop hR 7
    rwa [Nat.zero_add] at this
  · rw [if_neg h] at hr hl'
    subst hl'
    exact ⟨0, l'.length, c, hr, hb, g, 0, c, C, fz, rfl, q1, q2, hg', hR⟩

set_option maxRecDepth 100000 in
set_option maxHeartbeats 8000000 in
theorem lt_auto (x : Ctx) (k : Nat) (ins : Bool) (e p : Nat) (l l' : Bs) (hp : 2 ≤ p) (he : e + p < x.D.length) (h0 : x.D.getD e 0 = 60) (hl : (x.D.drop (e + 1)).take (p - 1) = l) (hpm : p ≤ 1000) (h92 : ∀ j, j < l.length → l.getD j 0 ≠ 92)
    (h9 : m9L.isPrefixOf l = false) (h7 : m7L.isPrefixOf l = true → 8 ≤ l.length) (hl' : l' = if m7L.isPrefixOf l = true then l.drop 7 else l)
    (c72 : ∀ w, x.inv k ins w → Calls Tryz.prog 72 #[.slice (some ⟨x.g, x.off + e, none⟩) (x.D.length - e) (x.cap - e)] w fun r w' => r = .returned (.tuple #[.int .i64 1, .int .i64 ((p + 1 : Nat) : Int)]) ∧ w = w')
    (h33 : x.D.getD (e + 1) 0 ≠ 33) :
    Takes x k ins e (p + 1) (some (G.one 10 none (some l) none (textG l'))) := by
  refine ⟨51, by rw [h0]; rfl, fun w hi => ?_⟩
  have hcap := hi.2.2.2.1
  have hcap2 := hi.2.2.2.2
  have hll : l.length = p - 1 := by rw [← hl]; simp; omega
  have C72 := Lib.hid (c72 w hi)
  have C73 := Lib.hid (com_no x k ins e (by omega) h0 (fun _ => h33) w hi)
  have hRl : RdO w x.g (x.off + e + 1) l := by rw [← hl, Nat.add_assoc]; exact rdO_sub hi.2.1 (e + 1) (p - 1)
  have hgl := hi.ltg
  unfold Ctx.val
  obtain ⟨n, hn⟩ : ∃ n, n = x.D.length := ⟨_, rfl⟩
  rw [← hn] at he hcap C72 C73 ⊢
  obtain ⟨W1, hW1⟩ : ∃ W1, W1 = w.alloc (.cells #[.slice none 0 0, .int .i64 0, .int .i8 0] 120) := ⟨_, rfl⟩
  have hbW : Below w.heap.size w W1 := by rw [hW1]; exact (Below.refl _ w).alloc (Nat.le_refl _) _
  have hzW : W1.heap.size = w.heap.size + 1 := by rw [hW1, alloc_size]
  have c70 : Calls Tryz.prog 70 #[ptr w.heap.size, .slice (some ⟨x.g, x.off + e + 1, none⟩) (p - 1) (x.cap - e - 1)] W1 fun r w' => r = .returned (.tuple #[]) ∧ Lib.IsBuffer 120 5 w.heap.size w.heap.size (cellsB l) w' ∧ Below w.heap.size W1 w' :=
    unesc70 w.heap.size w.heap.size x.g (x.off + e + 1) (p - 1) (x.cap - e - 1) l W1 hll (by omega) (by omega) (by omega) (by rw [hW1]; exact Lib.fresh_isBuffer 120 5 w) (by omega) hgl (rdO_below hRl hbW hgl) (fun j hj => h92 j (by omega))
  rw [hW1] at c70
  have C70 := Lib.hid c70
  have C74 := Lib.hid (fun W h => len74 w.heap.size w.heap.size l W h)
  have C66 := Lib.hid (fun W h => bytes66 w.heap.size w.heap.size l W (by omega) h)
  have CN := Lib.hid (fun w => new39 10 w)
  have C75 := Lib.hid (fun g c W hv hcm => strip_rd l l' h9 h7 hl' g c W hv hcm)
  have TX := Lib.hid (fun A n c w => text45 A n c w)
  have hcapm : (maxLen : Nat) = 9223372036854775807 := rfl
  have HW1 := Lib.hid hW1
  have HBW := Lib.hid hbW
  have HZW := Lib.hid hzW
  have HLL := Lib.hid hll
  have hlp : (0 : Int) < (l.length : Int) := by omega
  obtain ⟨ll, hlle⟩ : ∃ ll, ll = l.length := ⟨_, rfl⟩
  clear hi hn h0 hl h92 h9 h7 c72 h33 hRl c70 hW1 hbW hzW hl' hcapm
  rw [← hlle] at C74 C66 C75 hlp hll
  have HLE := Lib.hid hlle
  clear hlle hll
  go_enter Tryz.func51, Tryz.ntmps51
  go_wp2_with (first
    | (go_at_call 72; refine C72.out.mono ?_; rintro r w' ⟨rfl, rfl⟩)
    | (go_at_call 73; refine C73.out.mono ?_; rintro r w' ⟨rfl, rfl⟩)
    | (go_at_call 70; refine C70.out.mono ?_; rintro r w2 ⟨rfl, hb2, hbel2⟩; have HB2 := Lib.hid hb2; have HBEL2 := Lib.hid hbel2; clear hb2 hbel2)
    | (go_at_call 74; refine (C74.out _ HB2.out).mono ?_; rintro r w3 ⟨rfl, hbel3, hb3⟩; have HB3 := Lib.hid hb3; have HBEL3 := Lib.hid hbel3; clear hb3 hbel3)
    | (go_at_call 66; refine (C66.out _ HB3.out).mono ?_; rintro r w4 ⟨g4, c4, rfl, hg1, hg2, hc1, hc2, hr4, hv4, hbel4⟩; have HG1 := Lib.hid hg1; have HG2 := Lib.hid hg2; have HC1 := Lib.hid hc1; have HC2 := Lib.hid hc2; have HR4 := Lib.hid hr4; have HV4 := Lib.hid hv4; have HBEL4 := Lib.hid hbel4; clear hg1 hg2 hc1 hc2 hr4 hv4 hbel4)
    | (go_at_call 39; refine (CN.out _).mono ?_; rintro r w5 ⟨rfl, hn5, hbel5, -⟩; have hc21 := hn5.cell 21; have hf21 := hn5.free 21; have HN5 := Lib.hid hn5; have HBEL5 := Lib.hid hbel5; clear hn5 hbel5; obtain ⟨u, hu⟩ : ∃ u, w5.cell? ⟨w4.heap.size, 21, none⟩ = some u := ⟨_, hc21⟩; clear hc21)
    | (go_at_call 75; refine (C75.out g4 c4 _ ((HV4.out.below HBEL5.out).keep (keep5_set HN5.out 21 _)) HC2.out).mono ?_; rintro r w6 ⟨o6, m6, c6, rfl, hbel6, hv6⟩; have HBEL6 := Lib.hid hbel6; have HV6 := Lib.hid hv6; clear hbel6 hv6)
    | (go_at_call 45; refine (TX.out _ _ _ _).mono ?_; rintro r w7 ⟨rfl, hn7, hbel7, -⟩; have HN7 := Lib.hid hn7; have HBEL7 := Lib.hid hbel7; clear hn7 hbel7)
    | (go_at_call 44; refine (append_first w4.heap.size w6.heap.size 10 nilP nilP nilP nilS (.slice (some ⟨g4, 0, none⟩) ll c4) nilS 12 nilP nilP (.slice (some ⟨g4, o6, none⟩) m6 c6) nilS nilS w7 (by have := (HN5.out.set 21 (.slice (some ⟨g4, 0, none⟩) ll c4)).lt; have := HBEL6.out.size; omega) (((HN5.out.set 21 (.slice (some ⟨g4, 0, none⟩) ll c4)).below HBEL6.out).below HBEL7.out) HN7.out).mono ?_; rintro r w8 ⟨rfl, hsb8, hn8, hn8'⟩; have HSB8 := Lib.hid hsb8; have HN8 := Lib.hid hn8; have HN8' := Lib.hid hn8'; clear hsb8 hn8 hn8'))
  go_ret2
  have hb2 : Below w.heap.size w w2 := (by rw [← HW1.out] at HBEL2; exact HBW.out.trans HBEL2.out)
  have hb3 := hb2.trans (HBEL3.out.mono hb2.size)
  have hb4 := hb3.trans (HBEL4.out.mono hb3.size)
  have hb5 := hb4.trans (HBEL5.out.mono hb4.size)
  have hb5' := hb5.setCell (p := ⟨w4.heap.size, 21, none⟩) hb4.size (.slice (some ⟨g4, 0, none⟩) ll c4)
  have hlt := (HN5.out.set 21 (.slice (some ⟨g4, 0, none⟩) ll c4)).lt
  obtain ⟨r1, r2⟩ := link_made (l := some l) (tl := none) (l' := l') hb4.size (by have := HBEL6.out.size; omega) hb5' (HN5.out.set 21 (.slice (some ⟨g4, 0, none⟩) ll c4)) ((HV4.out.below HBEL5.out).keep (keep5_set HN5.out 21 _)) rfl HBEL6.out HV6.out rfl HBEL7.out HN7.out HSB8.out HN8.out HN8'.out
  exact ⟨r1, _, tup2 (by omega), r2⟩

theorem info5 : (Tryz.prog.info? 5).map (fun i => (i.zero, i.size, i.bytes)) = some (some (.int .u8 0), 1, 1) := by kernel_rfl
theorem below_of_grown {w w' : World} (h : w.grownBy w' none) : Below w.heap.size w w' := ⟨h.os, h.tape, h.output, h.size, fun i hi => h.block i hi (by simp)⟩
/-- A constant's bytes and others behind them: a new slice. -/
theorem wpList_append_const {ops : Array Oper} {rest : List Oper} {o : Oper} {a : Act} {Q : Exit → Act → World → Prop} {W : World} (hgd : o.guard = none) (s x : Operand)
    (ho : o.op = .call { callee := .builtin .append, args := #[s, x], argTypes := #[34, 34] }) (p l : Bs) (fr : Nat × Nat) (g cap : Nat) (hp : p.length ≤ 1000) (hlc : l.length ≤ 1000) (hl0 : 0 < l.length)
    (hs : a.eval s = .slice (some ⟨W.heap.size, 0, none⟩) p.length p.length) (hx : a.eval x = .slice (some ⟨g, 0, none⟩) l.length cap) (hv : RdV W (.slice (some ⟨g, 0, none⟩) l.length cap) (some l))
    (h : ∀ (g' c' : Nat) (w' : World), RdV w' (.slice (some ⟨g', 0, none⟩) (p ++ l).length c') (some (p ++ l)) → Below W.heap.size W w' → Below (W.alloc (.cells (cellsB p).toArray 5 fr)).heap.size (W.alloc (.cells (cellsB p).toArray 5 fr)) w' → wpList Tryz.prog ops Q rest (a.put o.dst (.slice (some ⟨g', 0, none⟩) (p ++ l).length c')) w') :
    wpList Tryz.prog ops Q (o :: rest) a (W.alloc (.cells (cellsB p).toArray 5 fr)) := by
  obtain ⟨i0, hi, hz0, hz1, hz2⟩ := info_parts info5
  have hb1 : Below W.heap.size W (W.alloc (.cells (cellsB p).toArray 5 fr)) := (Below.refl _ W).alloc (Nat.le_refl _) _
  have hv1 := hv.below hb1
  obtain ⟨g', off, cap', C, fz, e1, q1, q2, q3, q4⟩ := hv1
  injection e1 with e1 e2 e3
  injection e1 with e1
  injection e1 with e1 e4
  subst e1 e4 e3
  obtain ⟨hb, g2, C2, fz2, hv2, hg2, hh2, hr2⟩ := rd_const W p fr
  injection hv2 with hv2
  injection hv2 with hv2
  injection hv2 with hv2
  subst hv2
  refine wpList_append_grows _ hgd s x 34 ho 5 i0 (.int .u8 0) 1 1 Tryz.underlying34 hi hz0 hz1 hz2 rfl (by decide) (some ⟨W.heap.size, 0, none⟩) p.length p.length (cellsB p) hs (fun h => by cases h) (by rw [cellsB_length]; omega) ?_ ⟨g, 0, none⟩ l.length cap (cellsB l) hx (by rw [cellsB_length]; omega) ?_ (cellsB_one l) (by omega) (by unfold maxLen; omega) (by omega) ?_
  · intro b hb' j u hj
    obtain rfl := Option.some.inj hb'
    obtain ⟨hj1, rfl⟩ := cellsB_some hj
    rw [add_at]
    exact hr2 j hj1
  · intro j u hj
    obtain ⟨hj1, rfl⟩ := cellsB_some hj
    rw [add_at]
    exact q4 j hj1
  · intro v' w' ho' hg'
    rw [← cellsB_append, ← List.length_append] at ho'
    obtain ⟨g5, c5, cur5, rfl, r1, r2, r3, r4, r5, r6⟩ := rdV_owns ho' (by rw [List.length_append]; omega)
    have hbb := below_of_grown hg'
    exact h g5 c5 w' r6 (hb1.trans (hbb.mono hb1.size)) hbb

set_option maxRecDepth 100000 in
set_option maxHeartbeats 8000000 in
theorem lt_mail (x : Ctx) (k : Nat) (ins : Bool) (e p : Nat) (l l' : Bs) (hp : 2 ≤ p) (he : e + p < x.D.length) (h0 : x.D.getD e 0 = 60) (hl : (x.D.drop (e + 1)).take (p - 1) = l) (hpm : p ≤ 1000) (h92 : ∀ j, j < l.length → l.getD j 0 ≠ 92)
    (h9 : m9L.isPrefixOf l = false) (h7 : m7L.isPrefixOf l = false) (hl' : l' = m7L ++ l)
    (c72 : ∀ w, x.inv k ins w → Calls Tryz.prog 72 #[.slice (some ⟨x.g, x.off + e, none⟩) (x.D.length - e) (x.cap - e)] w fun r w' => r = .returned (.tuple #[.int .i64 2, .int .i64 ((p + 1 : Nat) : Int)]) ∧ w = w')
    (h33 : x.D.getD (e + 1) 0 ≠ 33) :
    Takes x k ins e (p + 1) (some (G.one 10 none (some l') none (textG l))) := by
  refine ⟨51, by rw [h0]; rfl, fun w hi => ?_⟩
  have hcap := hi.2.2.2.1
  have hcap2 := hi.2.2.2.2
  have hll : l.length = p - 1 := by rw [← hl]; simp; omega
  have C72 := Lib.hid (c72 w hi)
  have C73 := Lib.hid (com_no x k ins e (by omega) h0 (fun _ => h33) w hi)
  have hRl : RdO w x.g (x.off + e + 1) l := by rw [← hl, Nat.add_assoc]; exact rdO_sub hi.2.1 (e + 1) (p - 1)
  have hgl := hi.ltg
  unfold Ctx.val
  obtain ⟨n, hn⟩ : ∃ n, n = x.D.length := ⟨_, rfl⟩
  rw [← hn] at he hcap C72 C73 ⊢
  obtain ⟨W1, hW1⟩ : ∃ W1, W1 = w.alloc (.cells #[.slice none 0 0, .int .i64 0, .int .i8 0] 120) := ⟨_, rfl⟩
  have hbW : Below w.heap.size w W1 := by rw [hW1]; exact (Below.refl _ w).alloc (Nat.le_refl _) _
  have hzW : W1.heap.size = w.heap.size + 1 := by rw [hW1, alloc_size]
  have c70 : Calls Tryz.prog 70 #[ptr w.heap.size, .slice (some ⟨x.g, x.off + e + 1, none⟩) (p - 1) (x.cap - e - 1)] W1 fun r w' => r = .returned (.tuple #[]) ∧ Lib.IsBuffer 120 5 w.heap.size w.heap.size (cellsB l) w' ∧ Below w.heap.size W1 w' :=
    unesc70 w.heap.size w.heap.size x.g (x.off + e + 1) (p - 1) (x.cap - e - 1) l W1 hll (by omega) (by omega) (by omega) (by rw [hW1]; exact Lib.fresh_isBuffer 120 5 w) (by omega) hgl (rdO_below hRl hbW hgl) (fun j hj => h92 j (by omega))
  rw [hW1] at c70
  have C70 := Lib.hid c70
  have C74 := Lib.hid (fun W h => len74 w.heap.size w.heap.size l W h)
  have C66 := Lib.hid (fun W h => bytes66 w.heap.size w.heap.size l W (by omega) h)
  have CN := Lib.hid (fun w => new39 10 w)
  have C75 := Lib.hid (fun g c W hv hcm => strip_rd l l h9 (fun h => by rw [h7] at h; cases h) (by rw [h7]; rfl) g c W hv hcm)
  have TX := Lib.hid (fun A n c w => text45 A n c w)
  have hcapm : (maxLen : Nat) = 9223372036854775807 := rfl
  have HW1 := Lib.hid hW1
  have HBW := Lib.hid hbW
  have HZW := Lib.hid hzW
  have HLL := Lib.hid hll
  have hlp : (0 : Int) < (l.length : Int) := by omega
  have hcv : ∀ (w : World) (C : Array Value) (n c : Nat), (convert 34 34 (.slice (some ⟨w.heap.size, 0, none⟩) n c)).run Tryz.prog (w.alloc (.cells C 5)) = .ok (.slice (some ⟨w.heap.size, 0, none⟩) n c) (w.alloc (.cells C 5 (C.size, C.size + 1))) := fun w C n c => Lib.run_convert_bytes_const w 34 5 C n c Tryz.underlying34 Tryz.underlying5
  have hcv3 : ∀ (w : World) (q : Addr) (v : Value) (C : Array Value) (n c : Nat), (convert 34 34 (.slice (some ⟨w.heap.size, 0, none⟩) n c)).run Tryz.prog ((w.setCell q v).alloc (.cells C 5)) = .ok (.slice (some ⟨w.heap.size, 0, none⟩) n c) ((w.setCell q v).alloc (.cells C 5 (C.size, C.size + 1))) := fun w q v C n c => by
    have := hcv (w.setCell q v) C n c
    rw [World.size_setCell] at this
    exact this
  have CAP : Hid (∀ {ops : Array Oper} {rest : List Oper} {o : Oper} {a : Act} {Q : Exit → Act → World → Prop} {W : World} (hgd : o.guard = none) (s x : Operand) (ho : o.op = .call { callee := .builtin .append, args := #[s, x], argTypes := #[34, 34] }) (g cap a0 : Nat) (ha0 : a0 = W.heap.size)
    (hs : a.eval s = .slice (some ⟨a0, 0, none⟩) 7 7) (hx : a.eval x = .slice (some ⟨g, 0, none⟩) l.length cap) (hv : RdV W (.slice (some ⟨g, 0, none⟩) l.length cap) (some l))
    (h : ∀ (g' c' : Nat) (w' : World), RdV w' (.slice (some ⟨g', 0, none⟩) (7 + l.length) c') (some l') → Below W.heap.size W w' → wpList Tryz.prog ops Q rest (a.put o.dst (.slice (some ⟨g', 0, none⟩) (7 + l.length) c')) w'),
    wpList Tryz.prog ops Q (o :: rest) a (W.alloc (.cells #[.int .u8 109, .int .u8 97, .int .u8 105, .int .u8 108, .int .u8 116, .int .u8 111, .int .u8 58] 5 (7, 8)))) := fun hgd s x ho g cap a0 ha0 hs hx hv h => by
      subst ha0
      exact wpList_append_const hgd s x ho m7L l (7, 8) g cap (by decide) (by omega) (by omega) hs hx hv (fun g' c' w' q1 q2 _ => by
        have e1 : (m7L ++ l).length = 7 + l.length := by rw [List.length_append]; rfl
        rw [e1] at q1 ⊢
        rw [← hl'] at q1
        exact h g' c' w' q1 q2)
  obtain ⟨ll, hlle⟩ : ∃ ll, ll = l.length := ⟨_, rfl⟩
  clear hi hn h0 hl h92 h9 h7 c72 h33 hRl c70 hW1 hbW hzW hl' hcapm
  rw [← hlle] at C74 C66 C75 hlp hll
  rw [← hlle] at CAP
  have HLE := Lib.hid hlle
  clear hlle hll
  go_enter Tryz.func51, Tryz.ntmps51
  go_wp2_with (first
    | (go_at_call 72; refine C72.out.mono ?_; rintro r w' ⟨rfl, rfl⟩)
    | (go_at_call 73; refine C73.out.mono ?_; rintro r w' ⟨rfl, rfl⟩)
    | (go_at_call 70; refine C70.out.mono ?_; rintro r w2 ⟨rfl, hb2, hbel2⟩; have HB2 := Lib.hid hb2; have HBEL2 := Lib.hid hbel2; clear hb2 hbel2)
    | (go_at_call 74; refine (C74.out _ HB2.out).mono ?_; rintro r w3 ⟨rfl, hbel3, hb3⟩; have HB3 := Lib.hid hb3; have HBEL3 := Lib.hid hbel3; clear hb3 hbel3)
    | (go_at_call 66; refine (C66.out _ HB3.out).mono ?_; rintro r w4 ⟨g4, c4, rfl, hg1, hg2, hc1, hc2, hr4, hv4, hbel4⟩; have HG1 := Lib.hid hg1; have HG2 := Lib.hid hg2; have HC1 := Lib.hid hc1; have HC2 := Lib.hid hc2; have HR4 := Lib.hid hr4; have HV4 := Lib.hid hv4; have HBEL4 := Lib.hid hbel4; clear hg1 hg2 hc1 hc2 hr4 hv4 hbel4)
    | (go_at_call 39; refine (CN.out _).mono ?_; rintro r w5 ⟨rfl, hn5, hbel5, -⟩; have hc21 := hn5.cell 21; have hf21 := hn5.free 21; have HN5 := Lib.hid hn5; have HBEL5 := Lib.hid hbel5; clear hn5 hbel5; obtain ⟨u, hu⟩ : ∃ u, w5.cell? ⟨w4.heap.size, 21, none⟩ = some u := ⟨_, hc21⟩; clear hc21)
    | (at_builtin; refine CAP.out rfl (.tmp 52) (.tmp 53) rfl g4 c4 w5.heap.size (by rw [World.size_setCell]) rfl rfl ((HV4.out.below HBEL5.out).keep (keep5_set HN5.out 21 _)) ?_; intro g6 cap6 w6 hv6 hbel6; have HV6 := Lib.hid hv6; have HBEL6 := Lib.hid hbel6; obtain ⟨hc6, hf6⟩ : w6.cell? ⟨w4.heap.size, 21, none⟩ = some (.slice (some ⟨g4, 0, none⟩) ll c4) ∧ w6.frozen? ⟨w4.heap.size, 21, none⟩ = false := ⟨((HN5.out.set 21 _).below hbel6).cell 21, ((HN5.out.set 21 _).below hbel6).free 21⟩; clear hv6 hbel6)
    | (go_at_call 75; refine (C75.out g4 c4 _ ((((HV4.out.below HBEL5.out).keep (keep5_set HN5.out 21 _)).below HBEL6.out).keep (keep5_set ((HN5.out.set 21 _).below HBEL6.out) 21 _)) HC2.out).mono ?_; rintro r w7 ⟨o7, m7, c7, rfl, hbel7, hv7⟩; have HBEL7 := Lib.hid hbel7; have HV7 := Lib.hid hv7; clear hbel7 hv7)
    | (go_at_call 45; refine (TX.out _ _ _ _).mono ?_; rintro r w8 ⟨rfl, hn8, hbel8, -⟩; have HN8 := Lib.hid hn8; have HBEL8 := Lib.hid hbel8; clear hn8 hbel8)
    | (go_at_call 44; refine (append_first w4.heap.size w7.heap.size 10 nilP nilP nilP nilS (.slice (some ⟨g6, 0, none⟩) (7 + ll) cap6) nilS 12 nilP nilP (.slice (some ⟨g4, o7, none⟩) m7 c7) nilS nilS w8 (by have := (((HN5.out.set 21 (.slice (some ⟨g4, 0, none⟩) ll c4)).below HBEL6.out).set 21 (.slice (some ⟨g6, 0, none⟩) (7 + ll) cap6)).lt; have := HBEL7.out.size; omega) (((((HN5.out.set 21 (.slice (some ⟨g4, 0, none⟩) ll c4)).below HBEL6.out).set 21 (.slice (some ⟨g6, 0, none⟩) (7 + ll) cap6)).below HBEL7.out).below HBEL8.out) HN8.out).mono ?_; rintro r w9 ⟨rfl, hsb9, hn9, hn9'⟩; have HSB9 := Lib.hid hsb9; have HN9 := Lib.hid hn9; have HN9' := Lib.hid hn9'; clear hsb9 hn9 hn9'))
  go_ret2
  have hb2 : Below w.heap.size w w2 := (by rw [← HW1.out] at HBEL2; exact HBW.out.trans HBEL2.out)
  have hb3 := hb2.trans (HBEL3.out.mono hb2.size)
  have hb4 := hb3.trans (HBEL4.out.mono hb3.size)
  have hb5 := hb4.trans (HBEL5.out.mono hb4.size)
  have hb5' := hb5.setCell (p := ⟨w4.heap.size, 21, none⟩) hb4.size (.slice (some ⟨g4, 0, none⟩) ll c4)
  have hb6 := hb5'.trans (HBEL6.out.mono hb5'.size)
  have hb6' := hb6.setCell (p := ⟨w4.heap.size, 21, none⟩) hb4.size (.slice (some ⟨g6, 0, none⟩) (7 + ll) cap6)
  have hn6 := (((HN5.out.set 21 (.slice (some ⟨g4, 0, none⟩) ll c4)).below HBEL6.out).set 21 (.slice (some ⟨g6, 0, none⟩) (7 + ll) cap6))
  have hlt := hn6.lt
  obtain ⟨r1, r2⟩ := link_made (l := some l') (tl := none) (l' := l) hb4.size (by have := HBEL7.out.size; omega) hb6' hn6 (HV6.out.keep (keep5_set ((HN5.out.set 21 _).below HBEL6.out) 21 _)) rfl HBEL7.out HV7.out rfl HBEL8.out HN8.out HSB9.out HN9.out HN9'.out
  exact ⟨r1, _, tup2 (by omega), r2⟩

set_option maxRecDepth 100000 in
set_option maxHeartbeats 2000000 in
theorem bse63 (g o m c j : Nat) (z : UInt8) (hj : 0 < j) (hjm : j ≤ m) (hm : m ≤ 140737488355328) (hz : z ≠ 92) (w : World) (hcell : w.cell? ⟨g, o + (j - 1), none⟩ = some (.int .u8 z.toNat)) :
    Calls Tryz.prog 63 #[.slice (some ⟨g, o, none⟩) m c, .int .i64 (j : Nat)] w fun r w' => r = .returned (.bool false) ∧ w = w' := by
  have bz : ((z.toNat : Int) == 92) = false := beq_no (k := 92) hz
  have ez : (j : Int) - 1 = ((j - 1 : Nat) : Int) := by omega
  go_enter Tryz.func63, Tryz.ntmps63
  go_wp2
  go_loopg [5] 1 (fun q v5 wr => v5 = .int .i64 0 ∧ w = wr)
  case atStart => exact ⟨rfl, rfl⟩
  case round =>
    obtain ⟨rfl, rfl⟩ := hrel
    go_wp2
    go_ret
    exact ⟨rfl, rfl⟩

set_option maxHeartbeats 1000000 in
theorem norm71 (v : Value) (w : World) : Calls Tryz.prog 71 #[v] w fun r w' => r = .returned v ∧ w = w' := by
  go_enter Tryz.func71, Tryz.ntmps71
  go_wp2
  go_ret
  exact ⟨rfl, rfl⟩

theorem keep5_setM {w : World} {a : Nat} {A : Array Value} (h : MdIs w a A) (i : Nat) (v : Value) : Keep5 w (w.setCell ⟨a, i, none⟩ v) := by
  intro g C fz hg
  refine Below.heap_setCell w _ _ g (fun e => ?_)
  rw [e] at hg
  have := hg.symm.trans h
  injection this with this
  injection this with _ this
  cases this
theorem node_setM {w : World} {a b i : Nat} {A B : Array Value} {v : Value} (h : MdIs w a A) (hn : NodeIs w b B) : NodeIs (w.setCell ⟨a, i, none⟩ v) b B := by
  refine hn.same (Below.heap_setCell w _ _ b (fun e => ?_))
  subst e
  have := h.symm.trans hn
  injection this with this
  injection this with _ this
  cases this
theorem F.at_setM {w : World} {a : Nat} {A : Array Value} (h : MdIs w a A) (i : Nat) (v : Value) : ∀ (f : F), f.at w → f.at (w.setCell ⟨a, i, none⟩ v)
  | .nil, _ => trivial
  | .cons b d k r, ⟨⟨par, prv, h1⟩, h2, h3, h4⟩ => ⟨⟨par, prv, node_setM h h1⟩, h2.keep (keep5_setM h i v), F.at_setM h i v k h3, F.at_setM h i v r h4⟩

/-- What stands in a link: parsed with the parser's mark set, which is then set back. -/
theorem link_inner (x : Ctx) (k : Nat) (s a : Nat) (sg : List Seg) (hk : k < 16) (ha : 0 < a) (hlen : s + a ≤ x.D.length) (hl : x.D.getD (s + a - 1) 0 ≠ 10) (hs : SegsOk (x.sub s a) (k + 1) true sg 0) (w : World) (hi : x.inv k false w) (l tl : Option Bs) (dv tv : Value) :
    ∀ w5 b, w.heap.size ≤ b → Below w.heap.size w w5 → NodeIs w5 b (nodeArr 10 nilP nilP nilP nilP nilP nilS dv tv) → RdV w5 dv l → RdV w5 tv tl → Calls Tryz.prog 40 #[ptr x.M, ptr b, .slice (some ⟨x.g, x.off + s, none⟩) a (x.cap - s)] (w5.setCell ⟨x.M, 262, none⟩ (.bool true)) fun e w' => e = .returned (.tuple #[]) ∧ w'.cell? ⟨x.M, 262, none⟩ = some (.bool true) ∧ w'.frozen? ⟨x.M, 262, none⟩ = false ∧ Below w.heap.size w (w'.setCell ⟨x.M, 262, none⟩ (.bool false)) ∧ Made w (G.one 10 none l tl (outG (x.sub s a).D sg 0 0)) b (w'.setCell ⟨x.M, 262, none⟩ (.bool false)) := by
  intro w5 b hb h5 hn hd ht
  have hsl := sub_len (x := x) (s := s) (a := a) hlen
  have hi5 := hi.below h5
  obtain ⟨⟨C, hM, hA⟩, q3, ⟨Cg, fz, q4⟩, q5, q6⟩ := hi5
  have hMt := hM.set 262 (.bool true)
  have hgM : x.g ≠ x.M := by
    intro e
    rw [e] at q4
    have := q4.symm.trans hM
    injection this with this
    injection this with _ this
    cases this
  have hgs : (w5.setCell ⟨x.M, 262, none⟩ (.bool true)).heap[x.g]? = w5.heap[x.g]? := Below.heap_setCell w5 _ _ x.g hgM
  have hi6 : x.inv k true (w5.setCell ⟨x.M, 262, none⟩ (.bool true)) := ⟨⟨_, hMt, hA.inside⟩, rdO_block q3 hgs, ⟨Cg, fz, hgs.trans q4⟩, q5, q6⟩
  have hn6 := node_setM (i := 262) (v := .bool true) hM hn
  have hbM : b ≠ x.M := by
    rintro rfl
    have := hM.symm.trans hn
    injection this with this
    injection this with _ this
    cases this
  have hMlt : x.M < w.heap.size := hi.ltM
  have := inline40 (x.sub s a) b 10 nilP nilP nilP nilS dv tv k true sg (w5.setCell ⟨x.M, 262, none⟩ (.bool true)) hk ⟨hn6, trivial⟩ (hi6.sub hlen) hs (by rw [hsl]; exact ha) (by
    rw [hsl, sub_get (by omega), show s + (a - 1) = s + a - 1 by omega]; exact hl)
  unfold Ctx.val at this
  rw [hsl] at this
  refine this.mono ?_
  rintro e w' ⟨rfl, f, r1, r2, r3, r4, r5⟩
  rw [World.size_setCell] at r4
  have hz5 := h5.size
  have hsz := World.size_setCell w5 ⟨x.M, 262, none⟩ (.bool true)
  have hM' : MdIs w' x.M (C.setIfInBounds 262 (.bool true)) := (r3.block x.M (by rw [hsz]; omega) (by simp; exact fun h => hbM h.symm)).trans hMt
  have hMb := hM'.set 262 (.bool false)
  rw [set_back hA.2.2.2.2] at hMb
  have hk5 := keep5_setM hM 262 (.bool true)
  have hkg : Keep5 (w5.setCell ⟨x.M, 262, none⟩ (.bool true)) w' := by
    intro g2 C2 fz2 hg2
    have hg2l := (Array.getElem?_eq_some_iff.1 hg2).1
    refine r3.block g2 hg2l (fun e2 => ?_)
    injection e2 with e2
    subst e2
    have := hg2.symm.trans hn6
    injection this with this
    injection this with _ this
    cases this
  refine ⟨rfl, (hM'.cell 262).trans (hA.inside (ins' := true)).2.2.2.2, hM'.free 262, ?_, ⟨10, nilS, none, dv, l, tv, tl⟩, f, ⟨node_setM hM' r1.1, ⟨rfl, ?_, ?_⟩, F.at_setM hM' 262 _ f r1.2⟩, ?_, ?_, ?_⟩
  · refine ⟨r3.os.trans h5.os, r3.tape.trans h5.tape, r3.output.trans h5.output, ?_, fun i hi => ?_⟩
    · have := r3.size
      rw [World.size_setCell]
      rw [hsz] at this
      omega
    · by_cases hiM : i = x.M
      · subst hiM
        exact hMb.trans ((h5.block _ hi).symm.trans hM).symm
      · refine (Below.heap_setCell w' _ _ i hiM).trans ((r3.block i (by rw [hsz]; omega) (by simp; omega)).trans ((Below.heap_setCell w5 _ _ i hiM).trans (h5.block i hi)))
  · exact ((hd.keep hk5).keep hkg).keep (keep5_setM hM' 262 _)
  · exact ((ht.keep hk5).keep hkg).keep (keep5_setM hM' 262 _)
  · rw [List.nodup_cons]
    refine ⟨fun hm => ?_, r5⟩
    have := r4 _ hm
    have := hn.lt
    omega
  · intro c hc
    rcases List.mem_cons.1 hc with rfl | hc
    · exact hb
    · have := r4 c hc; omega
  · show G.cons 10 none l tl f.abs .nil = _
    rw [r2]; rfl
end Go.Proofs.YtalajbfpilhfgaaGreatDoor
