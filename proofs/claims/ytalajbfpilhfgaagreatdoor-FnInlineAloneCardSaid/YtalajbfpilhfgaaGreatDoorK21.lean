/-
  FnInlineAlone: a copy of bytes.
  FnInlineAlone: a tree is gathered as rows.
  FnInlineAlone: nodes of a paragraph as they are compared.
  FnInlineAlone: the same nodes.
  FnInlineAlone: a tree as plain rows.
-/
import Derived.Test.YtalajbfpilhfgaaGreatDoorK01
import Derived.Maps.AppendAt
import Derived.Laws.StructEq
set_option linter.unusedVariables false
set_option linter.unusedSimpArgs false
namespace Go.Proofs.YtalajbfpilhfgaaGreatDoor
open Go.RowKit

theorem info5b : (Tryz.prog.info? 5).map (fun i => (i.zero, i.size, i.bytes)) = some (some (.int .u8 0), 1, 1) := by kernel_rfl
theorem cellsB_some' {l : Bs} {j : Nat} {x : Value} (h : (cellsB l)[j]? = some x) : ∃ hj : j < l.length, x = .int .u8 (l.getD j 0).toNat := by
  have hj : j < l.length := by
    have := (List.getElem?_eq_some_iff.1 h).1
    rw [cellsB_length] at this
    exact this
  exact ⟨hj, by rw [cellsB_get l j hj] at h; injection h with h; exact h.symm⟩
set_option maxHeartbeats 2000000 in
set_option maxRecDepth 100000 in
theorem own_some (g o n c : Nat) (l : Bs) (w : World) (hn : l.length = n) (hbig : n ≤ 140737488355328) (hR : RdO w g o l) :
    Calls Tryz.prog 25 #[.slice (some ⟨g, o, none⟩) n c] w fun e w' => ∃ g' c', e = .returned (.slice (some ⟨g', 0, none⟩) n c') ∧ RdV w' (.slice (some ⟨g', 0, none⟩) n c') (some l) ∧ Below w.heap.size w w' ∧ w.heap.size ≤ g' := by
  obtain ⟨i0, hi, hz0, hz1, hz2⟩ := info_parts info5b
  have q22 : ∀ (w : World) (a : Option Addr) (n c n' c' : Nat), (binOp .eql 34 (.slice a n c) (.slice none n' c')).run Tryz.prog w = .ok (.bool a.isNone) w := fun w a n c n' c' => Lib.run_eql_slice_nil w _ _ a n c n' c' Tryz.underlying34
  have A := Lib.hid hR
  have HN := Lib.hid hn
  clear hR hn
  go_enter Tryz.func25, Tryz.ntmps25
  go_wp2_with (at_builtin; refine wpList_append_own _ rfl _ _ 34 rfl w.heap.size 5 i0 (.int .u8 0) 1 1 Tryz.underlying34 hi hz0 hz1 hz2 rfl (by decide) _ _ _ rfl (World.ownsRow_made w #[] 0 (Nat.le_refl _) (Nat.zero_le _) rfl) ⟨g, o, none⟩ n c (cellsB l) rfl ?qc1 ?qc2 ?qc3 ?qc4 ?qc5 ?qc6 ?_)
  case qc1 => rw [cellsB_length, HN.out]; omega
  case qc2 =>
    intro j u hj
    refine Lib.cell?_alloc_some _ ?_
    obtain ⟨hj1, rfl⟩ := cellsB_some' hj
    rw [add_at]
    exact A.out j hj1
  case qc3 =>
    intro u hu
    obtain ⟨x, _, rfl⟩ := List.mem_map.1 hu
    rfl
  case qc4 => unfold maxLen; omega
  case qc5 => omega
  case qc6 => simp
  intro v' w1 hown hgrow hnil
  have HO := Lib.hid hown
  have HG := Lib.hid hgrow
  have HNIL := Lib.hid hnil
  clear hown hgrow hnil
  go_wp2
  go_ret
  have hb : Below w.heap.size w w1 := (Below.refl _ w |>.alloc (Nat.le_refl _) _).grown HG.out ((Below.refl _ w).alloc (Nat.le_refl _) _).size (fun k hk => by simp only [Value.ownBlock, Option.some.injEq] at hk; omega)
  obtain ⟨hl, ⟨hv, h0⟩ | ⟨g', cap, cur, hv, hB, hg, hnc, hcm, hcs, htk⟩⟩ := HO.out
  · exact absurd hv HNIL.out
  · refine ⟨g', cap, by rw [hv]; rfl, ⟨g', 0, cap, cur, (0, 0), by rw [HN.out], by rw [HN.out]; exact hnc, hcm, hg, fun i hi => ?_⟩, hb, hB⟩
    have h1 : cur.toList[i]? = some (.int .u8 (l.getD i 0).toNat) := by
      have := cellsB_get l i hi
      have e : (cellsB l) = cur.toList.take (n * 1) := htk.symm
      rw [e, List.getElem?_take, if_pos (by have := HN.out; omega)] at this
      exact this
    rw [Nat.zero_add, Lib.cell_of_heap hg]
    rwa [Array.getElem?_toList] at h1
set_option maxHeartbeats 2000000 in
set_option maxRecDepth 100000 in
theorem own_none (w : World) : Calls Tryz.prog 25 #[nilS] w fun e w' => e = .returned nilS ∧ w' = w := by
  have q22 : ∀ (w : World) (a : Option Addr) (n c n' c' : Nat), (binOp .eql 34 (.slice a n c) (.slice none n' c')).run Tryz.prog w = .ok (.bool a.isNone) w := fun w a n c n' c' => Lib.run_eql_slice_nil w _ _ a n c n' c' Tryz.underlying34
  go_enter Tryz.func25, Tryz.ntmps25
  go_wp2
  go_ret
  exact ⟨rfl, rfl⟩
theorem own25 (v : Value) (o : Option Bs) (w : World) (h : RdV w v o) (hl : ∀ l, o = some l → l.length ≤ 140737488355328) : Calls Tryz.prog 25 #[v] w fun e w' => ∃ v', e = .returned v' ∧ RdV w' v' o ∧ Below w.heap.size w w' := by
  cases o with
  | none =>
    rw [show v = nilS from h]
    refine (own_none w).mono ?_
    rintro e w' ⟨rfl, rfl⟩
    exact ⟨_, rfl, rfl, Below.refl _ _⟩
  | some l =>
    obtain ⟨g, off, cap, C, fz, rfl, h1, h2, h3, h4⟩ := h
    refine (own_some g off l.length cap l w rfl (hl l rfl) h4).mono ?_
    rintro e w' ⟨g', c', rfl, hr, hb, -⟩
    exact ⟨_, rfl, hr, hb⟩

/-- What a row says of a node. -/
structure RS where
  p : Int
  ty : Int
  lb : Option Bs
  db : Option Bs
  tb : Option Bs
def rowOf (s : RS) (l d t : Value) : List Value := [.int .i64 s.p, .int .i64 s.ty, l, .int .i64 0, .string ⟨#[]⟩, .bool false, .int .i64 0, .bool false, .int .u8 0, .int .u8 0, .bool false, nilS, .bool false, .bool false, nilS, .int .u8 0, .int .i64 0, .int .i64 0, d, t, .bool s.tb.isSome, .int .i64 0, .int .i64 (-1), .bool false, .int .i64 0]
def RowIs (w : World) (s : RS) (row : List Value) : Prop := ∃ l d t, row = rowOf s l d t ∧ RdV w l s.lb ∧ RdV w d s.db ∧ RdV w t s.tb
def RowsAre (w : World) : List RS → List Value → Prop
  | [], vs => vs = []
  | s :: r, vs => ∃ row vs', vs = row ++ vs' ∧ RowIs w s row ∧ RowsAre w r vs'
theorem RowIs.keep {w w' : World} {s : RS} {row : List Value} (h : RowIs w s row) (hk : Keep5 w w') : RowIs w' s row := by
  obtain ⟨l, d, t, h1, h2, h3, h4⟩ := h
  exact ⟨l, d, t, h1, h2.keep hk, h3.keep hk, h4.keep hk⟩
theorem RowsAre.keep {w w' : World} (hk : Keep5 w w') : ∀ {ss : List RS} {vs : List Value}, RowsAre w ss vs → RowsAre w' ss vs
  | [], _, h => h
  | s :: r, _, ⟨row, vs', h1, h2, h3⟩ => ⟨row, vs', h1, h2.keep hk, RowsAre.keep hk h3⟩
theorem RowsAre.app {w : World} {s : RS} {row : List Value} (h2 : RowIs w s row) : ∀ {ss : List RS} {vs : List Value}, RowsAre w ss vs → RowsAre w (ss ++ [s]) (vs ++ row)
  | [], _, h => ⟨row, [], by rw [show _ = [] from h]; simp, h2, rfl⟩
  | s' :: r, _, ⟨row', vs', h1, h3, h4⟩ => ⟨row', vs' ++ row, by rw [h1, List.append_assoc], h3, RowsAre.app h2 h4⟩
theorem RowsAre.one {w : World} {ss : List RS} {vs : List Value} (h : RowsAre w ss vs) : vs.length = ss.length * 25 ∧ ∀ u ∈ vs, u.oneCell' = true := by
  induction ss generalizing vs with
  | nil => rw [show vs = [] from h]; exact ⟨rfl, fun u hu => by cases hu⟩
  | cons s r ih =>
    obtain ⟨row, vs', rfl, ⟨l, d, t, rfl, h1, h2, h3⟩, h4⟩ := h
    obtain ⟨i1, i2⟩ := ih h4
    have hv : ∀ (v : Value) (o : Option Bs), RdV w v o → v.oneCell' = true := fun v o hv => by
      cases o with
      | none => rw [show v = nilS from hv]; rfl
      | some l => obtain ⟨g, off, cap, C, fz, rfl, _⟩ := hv; rfl
    refine ⟨by rw [List.length_append, i1, List.length_cons]; simp [rowOf]; omega, fun u hu => ?_⟩
    rcases List.mem_append.1 hu with hu | hu
    · simp only [rowOf, List.mem_cons, List.not_mem_nil, or_false] at hu
      rcases hu with rfl | rfl | rfl | rfl | rfl | rfl | rfl | rfl | rfl | rfl | rfl | rfl | rfl | rfl | rfl | rfl | rfl | rfl | rfl | rfl | rfl | rfl | rfl | rfl | rfl <;> first | rfl | exact hv _ _ h1 | exact hv _ _ h2 | exact hv _ _ h3
    · exact i2 u hu
theorem oneCell_RdV {w : World} {v : Value} {o : Option Bs} (hv : RdV w v o) : v.oneCell' = true := by
  cases o with
  | none => rw [show v = nilS from hv]; rfl
  | some l => obtain ⟨g, off, cap, C, fz, rfl, _⟩ := hv; rfl
structure Gat (B ALL OUT : Nat) (w : World) (ns : List Nat) (ss : List RS) : Prop where
  all : ∃ va, w.heap[ALL]? = some (.cells #[va] 69 (0, 0)) ∧ w.ownsRow B 55 1 va ns.length (ns.map ptr)
  out : ∃ vo vs, w.heap[OUT]? = some (.cells #[vo] 32 (0, 0)) ∧ w.ownsRow B 53 25 vo ss.length vs ∧ RowsAre w ss vs
  ge : B ≤ ALL ∧ B ≤ OUT
def F.len : F → Nat
  | .nil => 0
  | .cons _ _ _ r => r.len + 1
def flatF : F → Int → Nat → List RS
  | .nil, _, _ => []
  | .cons _ d k r, p, i => ⟨p, d.ty, d.lb, d.db, d.tb⟩ :: (flatF k i (i + 1) ++ flatF r p (i + 1 + k.blocks.length))
theorem flatF_length : ∀ (f : F) (p : Int) (i : Nat), (flatF f p i).length = f.blocks.length
  | .nil, _, _ => rfl
  | .cons a d k r, p, i => by rw [flatF, F.blocks, List.length_cons, List.length_append, flatF_length k, flatF_length r]; simp
def ND.small (d : ND) : Prop := ∀ l, (d.lb = some l ∨ d.db = some l ∨ d.tb = some l) → l.length ≤ 140737488355328
def F.small : F → Prop
  | .nil => True
  | .cons _ d k r => d.small ∧ k.small ∧ r.small
def GatherOk (B ALL OUT a : Nat) (d : ND) (k : F) : Prop := ∀ (w : World) (p : Int) (ns : List Nat) (ss : List RS) (par prv nxt : Value), Gat B ALL OUT w ns ss → NodeIs w a (nodeArr d.ty par k.headP k.lastP prv nxt d.lv d.dv d.tv) → d.ok w → k.at w →
  (∀ b ∈ a :: k.blocks, b < B) → d.small → k.small → ns.length + k.blocks.length + 1 ≤ 1000000 → ss.length = ns.length → B ≤ w.heap.size →
  Calls Tryz.prog 37 #[ptr a, .int .i64 p, ptr ALL, ptr OUT] w fun r w' => r = .returned (.tuple #[]) ∧ Gat B ALL OUT w' (ns ++ a :: k.blocks) (ss ++ flatF (F.one a d k) p ss.length) ∧ Below B w w' ∧ Keep5 w w'
def AllG (B ALL OUT : Nat) : F → Prop
  | .nil => True
  | .cons a d k r => GatherOk B ALL OUT a d k ∧ AllG B ALL OUT r
theorem blk_ne {w : World} {a b : Nat} {A C : Array Value} {s t : Nat} {f g : Nat × Nat} (h1 : w.heap[a]? = some (.cells A s f)) (h2 : w.heap[b]? = some (.cells C t g)) (hst : s ≠ t) : a ≠ b := by
  rintro rfl
  rw [h1] at h2
  injection h2 with h2
  injection h2 with _ h2
  exact hst h2
theorem own_ne {w : World} {a base e size n : Nat} {v : Value} {xs : List Value} {A : Array Value} {s : Nat} {f : Nat × Nat} (h : w.ownsRow base e size v n xs) (h1 : w.heap[a]? = some (.cells A s f)) (hs : e ≠ s) : some a ≠ v.ownBlock := by
  rcases h.2 with ⟨rfl, _⟩ | ⟨g, cap, cur, rfl, _, hg, _⟩
  · simp [Value.ownBlock]
  · simp only [Value.ownBlock]
    intro e
    injection e with e
    exact blk_ne hg h1 hs e.symm
theorem own_one {w : World} {base e size n : Nat} {v : Value} {xs : List Value} (h : w.ownsRow base e size v n xs) : v.oneCell' = true := by
  rcases h.2 with ⟨rfl, _⟩ | ⟨g, cap, cur, rfl, _⟩ <;> rfl
theorem keep5_grown {w w' : World} {e size n base : Nat} {v : Value} {xs : List Value} (h : w.ownsRow base e size v n xs) (he : e ≠ 5) (hg : w.grownBy w' v.ownBlock) : Keep5 w w' := by
  intro g C fz hgg
  exact hg.block g (Array.getElem?_eq_some_iff.1 hgg).1 (own_ne h hgg he)
theorem keep5_set' {w : World} {p : Addr} {A : Array Value} {t : Nat} {f : Nat × Nat} (h : w.heap[p.block]? = some (.cells A t f)) (ht : t ≠ 5) (v : Value) : Keep5 w (w.setCell p v) := by
  intro g C fz hg
  exact Below.heap_setCell w p v g (blk_ne hg h (fun e => ht e.symm))
theorem Keep5.refl (w : World) : Keep5 w w := fun _ _ _ _ => rfl
theorem Keep5.trans {a b c : World} (h1 : Keep5 a b) (h2 : Keep5 b c) : Keep5 a c := fun g C fz hg => (h2 g C fz ((h1 g C fz hg).trans hg)).trans (h1 g C fz hg)
theorem own_set {w : World} {base e size n : Nat} {v : Value} {xs : List Value} {p : Addr} {A : Array Value} {t : Nat} {f : Nat × Nat} (h : w.ownsRow base e size v n xs) (hp : w.heap[p.block]? = some (.cells A t f)) (ht : e ≠ t) (u : Value) : (w.setCell p u).ownsRow base e size v n xs := by
  refine ⟨h.1, ?_⟩
  rcases h.2 with ⟨rfl, h0⟩ | ⟨g, cap, cur, rfl, hb, hg, hr⟩
  · exact .inl ⟨rfl, h0⟩
  · exact .inr ⟨g, cap, cur, rfl, hb, (Below.heap_setCell w p u g (blk_ne hg hp ht)).trans hg, hr⟩
theorem own_below {w w' : World} {base e size n : Nat} {v : Value} {xs : List Value} (h : w.ownsRow base e size v n xs) (hb : Below w.heap.size w w') : w'.ownsRow base e size v n xs := by
  refine ⟨h.1, ?_⟩
  rcases h.2 with ⟨rfl, h0⟩ | ⟨g, cap, cur, rfl, h1, hg, hr⟩
  · exact .inl ⟨rfl, h0⟩
  · exact .inr ⟨g, cap, cur, rfl, h1, (hb.block g (Array.getElem?_eq_some_iff.1 hg).1).trans hg, hr⟩
theorem cell_set_same {w : World} {a : Nat} {v : Value} {t : Nat} (h : w.heap[a]? = some (.cells #[v] t (0, 0))) (u : Value) : (w.setCell ⟨a, 0, none⟩ u).heap[a]? = some (.cells #[u] t (0, 0)) := by
  unfold World.setCell
  rw [Array.getElem?_modify]
  simp only [↓reduceIte]
  rw [h]
  rfl
theorem Gat.below {B ALL OUT : Nat} {w w' : World} {ns : List Nat} {ss : List RS} (h : Gat B ALL OUT w ns ss) (hb : Below w.heap.size w w') : Gat B ALL OUT w' ns ss := by
  obtain ⟨⟨va, h1, h2⟩, ⟨vo, vs, h3, h4, h5⟩, h6⟩ := h
  exact ⟨⟨va, (hb.block ALL (Array.getElem?_eq_some_iff.1 h1).1).trans h1, own_below h2 hb⟩, ⟨vo, vs, (hb.block OUT (Array.getElem?_eq_some_iff.1 h3).1).trans h3, own_below h4 hb, h5.keep (keep5_below hb)⟩, h6⟩
theorem info55 : (Tryz.prog.info? 55).map (fun i => (i.zero, i.size, i.bytes)) = some (some nilP, 1, 8) := by kernel_rfl
def zero53 : Value := .agg #[.int .i64 0, .int .i64 0, .slice none 0 0, .int .i64 0, .string ⟨#[]⟩, .bool false, .int .i64 0, .bool false, .int .u8 0, .int .u8 0, .bool false, .slice none 0 0, .bool false, .bool false, .slice none 0 0, .int .u8 0, .int .i64 0, .int .i64 0, .slice none 0 0, .slice none 0 0, .bool false, .int .i64 0, .int .i64 0, .bool false, .int .i64 0]
theorem info53 : (Tryz.prog.info? 53).map (fun i => (i.zero, i.size, i.bytes)) = some (some zero53, 25, 256) := by kernel_rfl
theorem zero53_size : zero53.cells.size = 25 := by rfl

/-- A node of a paragraph: how deep, its type, its texts. -/
structure InN where
  dep : Int
  ty : Int
  lit : Bs
  dst : Bs
  ttl : Bs
  has : Bool
abbrev strV (l : Bs) : Value := .string ⟨l.toArray⟩
def InN.vals (n : InN) : List Value := [.int .i64 n.dep, .int .i64 n.ty, strV n.lit, strV n.dst, strV n.ttl, .bool n.has]
def cellsN (l : List InN) : List Value := l.flatMap InN.vals
theorem cellsN_cons (n : InN) (l : List InN) : cellsN (n :: l) = n.vals ++ cellsN l := by simp [cellsN]
theorem cellsN_app (a b : List InN) : cellsN (a ++ b) = cellsN a ++ cellsN b := by simp [cellsN]
theorem vals_len (n : InN) : n.vals.length = 6 := rfl
theorem cellsN_length (l : List InN) : (cellsN l).length = l.length * 6 := by
  induction l with
  | nil => rfl
  | cons n l ih => rw [cellsN_cons, List.length_append, ih, vals_len, List.length_cons]; omega
theorem cellsN_one (l : List InN) : ∀ u ∈ cellsN l, u.oneCell' = true := by
  intro u hu
  obtain ⟨n, _, hn⟩ := List.mem_flatMap.1 hu
  simp only [InN.vals, List.mem_cons, List.not_mem_nil, or_false] at hn
  rcases hn with rfl | rfl | rfl | rfl | rfl | rfl <;> rfl
theorem cellsN_get (l : List InN) (i : Nat) (n : InN) (h : l[i]? = some n) (j : Nat) (hj : j < 6) : (cellsN l)[i * 6 + j]? = n.vals[j]? := by
  induction l generalizing i with
  | nil => cases h
  | cons m l ih =>
    rw [cellsN_cons]
    cases i with
    | zero =>
      have : m = n := by simpa using h
      subst this
      rw [List.getElem?_append_left (by rw [vals_len]; omega)]
      congr 1
      omega
    | succ i =>
      rw [List.getElem?_append_right (by rw [vals_len]; omega), vals_len, show (i + 1) * 6 + j - 6 = i * 6 + j by omega]
      exact ih i (by simpa using h)
/-- A slice reads as nodes of a paragraph. -/
def RdN (w : World) (v : Value) (l : List InN) : Prop :=
  ∃ A c, v = .slice A l.length c ∧ l.length ≤ c ∧ (0 < l.length → ∃ g, A = some ⟨g, 0, none⟩ ∧ ∀ i n, l[i]? = some n → ∀ j, j < 6 → w.cell? ⟨g, i * 6 + j, none⟩ = n.vals[j]?)
abbrev OwnN (w : World) (B : Nat) (v : Value) (l : List InN) : Prop := w.ownsRow B 52 6 v l.length (cellsN l)
theorem OwnN.rd {w : World} {B : Nat} {v : Value} {l : List InN} (h : OwnN w B v l) : RdN w v l := by
  have hc := fun (g : Nat) (hg : v.ownBlock = some g) => h.cells (g := g) hg
  rcases h.2 with ⟨rfl, h0⟩ | ⟨g, cap, cur, rfl, _, _, h1, _⟩
  · exact ⟨none, 0, by rw [h0], by omega, fun h => by omega⟩
  · refine ⟨_, cap, rfl, h1, fun _ => ⟨g, rfl, fun i n hn j hj => ?_⟩⟩
    have hlt : i < l.length := (List.getElem?_eq_some_iff.1 hn).1
    have h2 := cellsN_get l i n hn j hj
    have h3 : i * 6 + j < (cellsN l).length := by rw [cellsN_length]; omega
    obtain ⟨u, hu⟩ : ∃ u, (cellsN l)[i * 6 + j]? = some u := ⟨_, List.getElem?_eq_getElem h3⟩
    have := hc g rfl _ u hu
    rw [add_at, Nat.zero_add] at this
    rw [this, ← hu, h2]

theorem eqf_last' {P : Program} {d : Nat} {xs ys : Array Value} {f : Field} {a b : Value} {w : World} (hn : (f.name == "_") = false) (ha : (part f.type xs f.offset).run P w = .ok a w) (hb : (part f.type ys f.offset).run P w = .ok b w) (he : (Op.equalIn d f.type a b).run P w = .ok true w) : (Op.eqFields d xs ys [f]).run P w = .ok true w := by
  have hn' : f.name ≠ "_" := by simpa using hn
  simp only [Op.eqFields, if_pos hn', Sem.run_bind, ha, hb, he, Result.andThen_ok]
  simp
theorem eqf_more {P : Program} {d : Nat} {xs ys : Array Value} {f : Field} {fs : List Field} {a b : Value} {w : World} (hn : (f.name == "_") = false) (ha : (part f.type xs f.offset).run P w = .ok a w) (hb : (part f.type ys f.offset).run P w = .ok b w) (he : (Op.equalIn d f.type a b).run P w = .ok true w) (hr : (Op.eqFields d xs ys fs).run P w = .ok true w) : (Op.eqFields d xs ys (f :: fs)).run P w = .ok true w := by
  have hn' : f.name ≠ "_" := by simpa using hn
  rw [Op.eqFields]
  simp only [if_pos hn', Sem.run_bind, ha, hb, he, Result.andThen_ok]
  simpa using hr
theorem eqS {P : Program} {n : Nat} {t : TypeId} {fs : Array Field} {xs ys : Array Value} {w : World} (hu : P.underlying t = some (.struct fs)) (hp : P.stoodInHeld t = false) (h : (Op.eqFields n xs ys fs.toList).run P w = .ok true w) : (Op.equalIn (n + 1) t (.agg xs) (.agg ys)).run P w = .ok true w := by
  have hf : P.fieldsOf t = fs := by simp [Program.fieldsOf, hu]
  rw [run_equalIn_struct (P := P) w n t xs ys (by rw [hf]; exact hu) hp, hf]
  exact h
theorem eq_in52 (d : Nat) (n : InN) (w : World) : (Op.equalIn (d + 2) 52 (.agg n.vals.toArray) (.agg n.vals.toArray)).run Tryz.prog w = .ok true w := by
  refine eqS (n := d + 1) Tryz.underlying52 (by kernel_rfl) ?_
  unfold InN.vals
  refine eqf_more (by rfl) (by go_simp; rfl) (by go_simp; rfl) (by go_simp) ?_
  refine eqf_more (by rfl) (by go_simp; rfl) (by go_simp; rfl) (by go_simp) ?_
  refine eqf_more (by rfl) (by go_simp; rfl) (by go_simp; rfl) (by go_simp) ?_
  refine eqf_more (by rfl) (by go_simp; rfl) (by go_simp; rfl) (by go_simp) ?_
  refine eqf_more (by rfl) (by go_simp; rfl) (by go_simp; rfl) (by go_simp) ?_
  exact eqf_last' (by rfl) (by go_simp; rfl) (by go_simp; rfl) (by go_simp)
theorem neq52 (n : InN) (w : World) : (binOp .neq 52 (.agg #[.int .i64 n.dep, .int .i64 n.ty, strV n.lit, strV n.dst, strV n.ttl, .bool n.has]) (.agg #[.int .i64 n.dep, .int .i64 n.ty, strV n.lit, strV n.dst, strV n.ttl, .bool n.has])).run Tryz.prog w = .ok (.bool false) w := by
  have h := eq_in52 9998 n w
  unfold InN.vals at h
  simp only [binOp]
  simp [Op.equal, Op.maxDepth, h]

set_option maxRecDepth 100000 in
set_option maxHeartbeats 4000000 in
theorem same10 (v1 v2 : Value) (l : List InN) (hl : l.length ≤ 1000000) (w : World) (h1 : RdN w v1 l) (h2 : RdN w v2 l) : Calls Tryz.prog 10 #[v1, v2] w fun r w' => r = .returned (.bool true) ∧ Below w.heap.size w w' := by
  obtain ⟨A1, c1, rfl, hc1, h1⟩ := h1
  obtain ⟨A2, c2, rfl, hc2, h2⟩ := h2
  obtain ⟨n, hn⟩ : ∃ n, n = l.length := ⟨_, rfl⟩
  rw [← hn] at hl hc1 hc2 h1 h2 ⊢
  have HN := Lib.hid hn
  have H1 := Lib.hid h1
  have HBD := Lib.hid (fun m => below_drewN (Below.refl w.heap.size w) m)
  have H2 := Lib.hid h2
  clear hn h1 h2
  go_enter Tryz.func10, Tryz.ntmps10
  go_wp2
  go_loopg [13] (n + 1) (fun q v13 wr => (∃ m, wr = w.drewN m) ∧ ∃ i : Nat, v13 = .int .i64 (i : Nat) ∧ q + i = n + 1 ∧ i ≤ n)
  case atStart => exact ⟨⟨0, rfl⟩, 0, rfl, by omega, by omega⟩
  case round =>
    obtain ⟨⟨m, rfl⟩, i, rfl, hq, hi⟩ := hrel
    have HQ := Lib.hid hq
    clear hq
    by_cases hin : i < n
    · obtain ⟨g1, rfl, q1⟩ := H1.out (by omega)
      obtain ⟨g2, rfl, q2⟩ := H2.out (by omega)
      obtain ⟨x, hx⟩ : ∃ x, l[i]? = some x := ⟨_, List.getElem?_eq_getElem (by rw [← HN.out]; exact hin)⟩
      have a0 : w.cell? ⟨g1, i * 6, none⟩ = some (.int .i64 x.dep) := q1 i x hx 0 (by decide)
      have a1 : w.cell? ⟨g1, i * 6 + 1, none⟩ = some (.int .i64 x.ty) := q1 i x hx 1 (by decide)
      have a2 : w.cell? ⟨g1, i * 6 + 2, none⟩ = some (strV x.lit) := q1 i x hx 2 (by decide)
      have a3 : w.cell? ⟨g1, i * 6 + 3, none⟩ = some (strV x.dst) := q1 i x hx 3 (by decide)
      have a4 : w.cell? ⟨g1, i * 6 + 4, none⟩ = some (strV x.ttl) := q1 i x hx 4 (by decide)
      have a5 : w.cell? ⟨g1, i * 6 + 5, none⟩ = some (.bool x.has) := q1 i x hx 5 (by decide)
      have b0 : w.cell? ⟨g2, i * 6, none⟩ = some (.int .i64 x.dep) := q2 i x hx 0 (by decide)
      have b1 : w.cell? ⟨g2, i * 6 + 1, none⟩ = some (.int .i64 x.ty) := q2 i x hx 1 (by decide)
      have b2 : w.cell? ⟨g2, i * 6 + 2, none⟩ = some (strV x.lit) := q2 i x hx 2 (by decide)
      have b3 : w.cell? ⟨g2, i * 6 + 3, none⟩ = some (strV x.dst) := q2 i x hx 3 (by decide)
      have b4 : w.cell? ⟨g2, i * 6 + 4, none⟩ = some (strV x.ttl) := q2 i x hx 4 (by decide)
      have b5 : w.cell? ⟨g2, i * 6 + 5, none⟩ = some (.bool x.has) := q2 i x hx 5 (by decide)
      have q52 := fun W => neq52 x W
      clear hx q1 q2
      go_wp2
      go_quiet (fail)
      go_wp2
      go_roundg (n - i)
      case measure => have := HQ.out; omega
      case rel => exact ⟨⟨m + nq, by simp [World.drewN, Nat.add_assoc]⟩, i + 1, by go_num, by have := HQ.out; omega, by omega⟩
    · obtain rfl : i = n := by omega
      go_wp2
      go_ret
      exact ⟨rfl, HBD.out m⟩

theorem F.foot {w : World} : ∀ (f : F), f.at w → ∀ b ∈ f.blocks, w.cell? ⟨b, 24, none⟩ = some nilP
  | .nil, _, b, hb => by simp [F.blocks] at hb
  | .cons a d k r, ⟨⟨par, prv, h1⟩, h2, h3, h4⟩, b, hb => by
    rw [F.blocks] at hb
    simp only [List.mem_cons, List.mem_append] at hb
    rcases hb with rfl | hb | hb
    · exact h1.cell 24
    · exact F.foot k h3 b hb
    · exact F.foot r h4 b hb
theorem new_cells (w : World) (A : Array Value) (t : TypeId) : (w.alloc (.cells A t)).heap[w.heap.size]? = some (.cells A t (0, 0)) := heap_alloc_new w _
set_option maxRecDepth 100000 in
set_option maxHeartbeats 4000000 in
theorem plain22 (hGA : ∀ B ALL OUT a d k, GatherOk B ALL OUT a d k) (c : Nat) (f : F) (w : World) (hN : NodeIs w c (nodeArr 4 nilP f.headP f.lastP nilP nilP nilS nilS nilS)) (hf : f.at w) (hB : ∀ b ∈ c :: f.blocks, b < w.heap.size) (hs : f.small) (hl : f.blocks.length ≤ 900000) :
    Calls Tryz.prog 22 #[ptr c] w fun r w' => ∃ vo vs, r = .returned vo ∧ w'.ownsRow w.heap.size 53 25 vo (f.blocks.length + 1) vs ∧ RowsAre w' (flatF (F.one c ⟨4, nilS, none, nilS, none, nilS, none⟩ f) (-1) 0) vs ∧ Below w.heap.size w w' := by
  obtain ⟨W2, hW2⟩ : ∃ W2, W2 = (w.alloc (.cells #[nilS] 69)).alloc (.cells #[nilS] 32) := ⟨_, rfl⟩
  have hz1 : (w.alloc (.cells #[nilS] 69)).heap.size = w.heap.size + 1 := by simp
  have hz2 : W2.heap.size = w.heap.size + 1 + 1 := by rw [hW2]; simp
  have hb2 : Below w.heap.size w W2 := by rw [hW2]; exact ((Below.refl _ w).alloc (Nat.le_refl _) _).alloc (by omega) _
  have hall : W2.heap[w.heap.size]? = some (.cells #[nilS] 69 (0, 0)) := by rw [hW2, Below.heap_alloc _ _ _ (by omega)]; exact new_cells w _ _
  have hout : W2.heap[w.heap.size + 1]? = some (.cells #[nilS] 32 (0, 0)) := by rw [hW2, ← hz1]; exact new_cells _ _ _
  have hgat : Gat w.heap.size w.heap.size (w.heap.size + 1) W2 [] [] := ⟨⟨nilS, hall, World.ownsRow_nil _ _ _ _⟩, ⟨nilS, [], hout, World.ownsRow_nil _ _ _ _, rfl⟩, Nat.le_refl _, Nat.le_succ _⟩
  have C37 := hGA w.heap.size w.heap.size (w.heap.size + 1) c ⟨4, nilS, none, nilS, none, nilS, none⟩ f W2 (-1) [] [] nilP nilP nilP hgat (hN.below hb2) ⟨rfl, rfl, rfl⟩ (F.at_below hf hb2) hB
    (fun l h => by rcases h with h | h | h <;> cases h) hs (by simp; omega) rfl (by omega)
  have H37 : Calls Tryz.prog 37 #[ptr c, .int .i64 (-1), ptr w.heap.size, ptr (w.heap.size + 1)] W2 fun r w' => r = .returned (.tuple #[]) ∧ ∃ g cap vo, w'.cell? ⟨w.heap.size, 0, none⟩ = some (.slice (some ⟨g, 0, none⟩) (f.blocks.length + 1) cap) ∧
      (∀ i, i < f.blocks.length + 1 → ∃ b, w'.cell? ⟨g, i, none⟩ = some (ptr b) ∧ w'.cell? ⟨b, 24, none⟩ = some nilP) ∧ w'.cell? ⟨w.heap.size + 1, 0, none⟩ = some vo ∧
      (∃ vs, w'.ownsRow w.heap.size 53 25 vo (f.blocks.length + 1) vs ∧ RowsAre w' (flatF (F.one c ⟨4, nilS, none, nilS, none, nilS, none⟩ f) (-1) 0) vs) ∧ Below w.heap.size W2 w' := by
    refine C37.mono ?_
    rintro r w3 ⟨rfl, hg, hb3, hk3⟩
    obtain ⟨⟨va, hA1, hA2⟩, ⟨vo, vs, hO1, hO2, hO3⟩, -⟩ := hg
    rw [List.nil_append] at hA2 hO2 hO3
    have hlen : (c :: f.blocks).length = f.blocks.length + 1 := rfl
    rw [hlen] at hA2
    have hlen2 : (flatF (F.one c ⟨4, nilS, none, nilS, none, nilS, none⟩ f) (-1) 0).length = f.blocks.length + 1 := by rw [flatF_length]; simp [F.one, F.blocks]
    have hlen3 : ([] : List RS).length = 0 := rfl
    rw [hlen3, hlen2] at hO2
    rw [hlen3] at hO3
    have hN3 : NodeIs w3 c _ := (hN.below hb2).same (hb3.block c (hB c (by simp)))
    have hf3 : f.at w3 := F.at_same hk3 f (F.at_below hf hb2) (fun b hb => hb3.block b (hB b (by simp [hb])))
    rcases hA2.2 with ⟨_, h0⟩ | ⟨g, cap, cur, hv, hr⟩
    · omega
    · have hcc := hA2.cells (g := g) (by rw [hv]; rfl)
      refine ⟨rfl, g, cap, vo, by rw [← hv]; exact (Lib.cell_of_heap hA1 0).trans rfl, fun i hi => ?_, (Lib.cell_of_heap hO1 0).trans rfl, ⟨vs, hO2, hO3⟩, hb3⟩
      have hi' : i < (c :: f.blocks).length := hi
      refine ⟨(c :: f.blocks)[i], ?_, ?_⟩
      · have := hcc i (ptr (c :: f.blocks)[i]) (by rw [List.getElem?_map, List.getElem?_eq_getElem hi']; rfl)
        rw [add_at, Nat.zero_add] at this
        exact this
      · have hm : (c :: f.blocks)[i] ∈ c :: f.blocks := List.getElem_mem hi'
        rcases List.mem_cons.1 hm with h | h
        · rw [h]; exact hN3.cell 24
        · exact F.foot f hf3 _ h
  rw [hW2] at H37
  have HC := Lib.hid H37
  have HB2 := Lib.hid hb2
  have HW2 := Lib.hid hW2
  obtain ⟨n, hn⟩ : ∃ n, n = f.blocks.length + 1 := ⟨_, rfl⟩
  rw [← hn] at HC ⊢
  have hn1 : n ≤ 900001 := by omega
  clear C37 hgat hall hout hb2 hz1 hz2 hW2 hN hf hB hs H37 hn hl hGA
  generalize flatF (F.one c ⟨4, nilS, none, nilS, none, nilS, none⟩ f) (-1) 0 = ss at HC ⊢
  go_enter Tryz.func22, Tryz.ntmps22
  go_wp2_with (go_at_call 37; refine HC.out.mono ?_; rintro r w3 ⟨rfl, g, cap, vo, cA, hcells, cO, hrows, hb3⟩; have HCE := Lib.hid hcells; have HR := Lib.hid hrows; have HB3 := Lib.hid hb3; clear hcells hrows hb3)
  go_loopg [11] (n + 1) (fun q v11 wr => w3 = wr ∧ ∃ i : Nat, v11 = .int .i64 (i : Nat) ∧ q + i = n + 1 ∧ i ≤ n)
  case atStart => exact ⟨rfl, 0, rfl, by omega, by omega⟩
  case round =>
    obtain ⟨rfl, i, rfl, hq, hin⟩ := hrel
    have HQ := Lib.hid hq
    clear hq
    by_cases hi : i < n
    · obtain ⟨b, c1, c2⟩ := HCE.out i hi
      go_wp2
      go_roundg (n - i)
      case measure => have := HQ.out; omega
      case rel => exact ⟨rfl, i + 1, by go_num, by have := HQ.out; omega, by omega⟩
    · obtain rfl : i = n := by omega
      go_wp2
      go_ret
      obtain ⟨vs, h1, h2⟩ := HR.out
      exact ⟨vo, vs, rfl, h1, h2, HB2.out.trans (by rw [HW2.out]; exact HB3.out)⟩
end Go.Proofs.YtalajbfpilhfgaaGreatDoor
