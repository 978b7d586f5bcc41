/-
  FnInlineAlone: nodes in which texts that stand side by side are one.
-/
import Derived.Test.YtalajbfpilhfgaaGreatDoorK21
import Derived.Deep.AppendLies
import Derived.StillTailTactics
set_option linter.unusedVariables false
set_option linter.unusedSimpArgs false
namespace Go.Proofs.YtalajbfpilhfgaaGreatDoor
open Go.RowKit

def joinStep (out : List InN) (n : InN) : List InN :=
  if n.ty = 12 then
    if n.lit = [] then out
    else match out.getLast? with
      | none => out ++ [n]
      | some p => if p.ty = 12 ∧ p.dep = n.dep then out.dropLast ++ [{ p with lit := p.lit ++ n.lit }] else out ++ [n]
  else out ++ [n]
def joined (l : List InN) : List InN := l.foldl joinStep []
theorem str_app (a b : Bs) : (⟨a.toArray⟩ : ByteArray) ++ ⟨b.toArray⟩ = ⟨(a ++ b).toArray⟩ := by
  apply ByteArray.ext
  simp [ByteArray.data_append]
theorem add9 (a b : Bs) (h : a.length + b.length ≤ 9223372036854775807) (W : World) : (binOp .add 9 (strV a) (strV b)).run Tryz.prog W = .ok (strV (a ++ b)) W := by
  simp only [strV]
  simp [binOp, go_sem, str_app]
  exact h
theorem getElem?_set_all (l : List Value) (k : Nat) (v : Value) (i : Nat) : (l.set k v)[i]? = if k = i then (if k < l.length then some v else none) else l[i]? := by
  rw [List.getElem?_set]
theorem cellsN_set (l : List InN) (i j : Nat) (n n' : InN) (v : Value) (h : l[i]? = some n) (hj : j < 6) (hv : n'.vals = n.vals.set j v) : cellsN (l.set i n') = (cellsN l).set (i * 6 + j) v := by
  induction l generalizing i with
  | nil => cases h
  | cons m l ih =>
    cases i with
    | zero =>
      have : m = n := by simpa using h
      subst this
      rw [List.set_cons_zero, cellsN_cons, cellsN_cons, hv, Nat.zero_mul, Nat.zero_add, List.set_append_left _ _ (by rw [vals_len]; exact hj)]
    | succ i =>
      rw [List.set_cons_succ, cellsN_cons, cellsN_cons, ih i (by simpa using h), List.set_append_right _ _ (by rw [vals_len]; omega), vals_len]
      congr 2
      omega
theorem own_upd {W : World} {B g m c : Nat} {out : List InN} (ho : W.ownsRow B 52 6 (.slice (some ⟨g, 0, none⟩) m c) m (cellsN out)) {i j : Nat} {n n' : InN} {v : Value} (h : out[i]? = some n) (hi : i < m) (hj : j < 6) (hv : n'.vals = n.vals.set j v) :
    (W.setCell ⟨g, i * 6 + j, none⟩ v).ownsRow B 52 6 (.slice (some ⟨g, 0, none⟩) m c) m (cellsN (out.set i n')) := by
  rw [cellsN_set out i j n n' v h hj hv]
  refine ⟨by rw [List.length_set]; exact ho.1, ?_⟩
  rcases ho.2 with ⟨h1, _⟩ | ⟨g', cap, cur, hv', hb, hg, h1, h2, h3, h4⟩
  · cases h1
  · injection hv' with e1 e2 e3
    injection e1 with e1
    injection e1 with e1
    subst e1 e3
    refine .inr ⟨g, c, cur.setIfInBounds (i * 6 + j) v, rfl, hb, ?_, h1, h2, by rw [Array.size_setIfInBounds]; exact h3, ?_⟩
    · unfold World.setCell
      rw [Array.getElem?_modify]
      simp only [↓reduceIte]
      rw [hg]
      rfl
    · rw [← h4]
      apply List.ext_getElem?
      intro k
      have hk : i * 6 + j < m * 6 := by omega
      rw [List.getElem?_take, Array.toList_setIfInBounds, List.getElem?_set, List.getElem?_set, List.length_take, List.getElem?_take]
      have hlen : cur.toList.length = c * 6 := by rw [Array.length_toList]; exact h3
      by_cases hkk : i * 6 + j = k
      · subst hkk
        rw [if_pos hk, if_pos rfl, if_pos rfl, if_pos (by rw [hlen]; omega), if_pos (by rw [hlen]; omega)]
      · rw [if_neg hkk, if_neg hkk]
theorem set_last {out : List InN} {m : Nat} (hm : m = out.length) (h0 : m ≠ 0) (p : InN) : out.set (m - 1) p = out.dropLast ++ [p] := by
  subst hm
  apply List.ext_getElem?
  intro k
  rw [List.getElem?_set]
  by_cases hk : out.length - 1 = k
  · subst hk
    rw [if_pos rfl, if_pos (by omega), List.getElem?_append_right (by simp)]
    simp
  · rw [if_neg hk]
    by_cases h2 : k < out.length - 1
    · rw [List.getElem?_append_left (by simp; omega), List.getElem?_dropLast, if_pos h2]
    · rw [List.getElem?_eq_none (by omega), List.getElem?_eq_none (by simp; omega)]
def litSum (l : List InN) : Nat := (l.map fun n => n.lit.length).sum
theorem litSum_cons (n : InN) (l : List InN) : litSum (n :: l) = n.lit.length + litSum l := by simp [litSum]
theorem info52 : (Tryz.prog.info? 52).map (fun i => (i.zero, i.size, i.bytes)) = some (some (.agg #[.int .i64 0, .int .i64 0, .string ⟨#[]⟩, .string ⟨#[]⟩, .string ⟨#[]⟩, .bool false]), 6, 72) := by kernel_rfl

theorem joinStep_other {out : List InN} {n : InN} (h : n.ty ≠ 12) : joinStep out n = out ++ [n] := by unfold joinStep; rw [if_neg h]
theorem joinStep_empty {out : List InN} {n : InN} (h : n.ty = 12) (hl : n.lit = []) : joinStep out n = out := by unfold joinStep; rw [if_pos h, if_pos hl]
theorem joinStep_first {n : InN} : n.lit ≠ [] → joinStep [] n = [n] := by
  intro hl
  unfold joinStep
  by_cases h : n.ty = 12
  · rw [if_pos h, if_neg hl]; rfl
  · rw [if_neg h]; rfl
theorem joinStep_apart {out : List InN} {n p : InN} (hp : out.getLast? = some p) (hl : n.lit ≠ []) (h : ¬ (p.ty = 12 ∧ p.dep = n.dep)) : joinStep out n = out ++ [n] := by
  unfold joinStep
  by_cases h1 : n.ty = 12
  · rw [if_pos h1, if_neg hl, hp]
    simp only
    rw [if_neg h]
  · rw [if_neg h1]
theorem joinStep_join {out : List InN} {n p : InN} (ht : n.ty = 12) (hp : out.getLast? = some p) (hl : n.lit ≠ []) (h : p.ty = 12 ∧ p.dep = n.dep) : joinStep out n = out.dropLast ++ [{ p with lit := p.lit ++ n.lit }] := by
  unfold joinStep
  rw [if_pos ht, if_neg hl, hp]
  simp only
  rw [if_pos h]
theorem new2 (w : World) (o1 : Obj) (A : Array Value) (t : TypeId) : ((w.alloc o1).alloc (.cells A t)).heap[w.heap.size + 1]? = some (.cells A t (0, 0)) := by
  have h := heap_alloc_new (w.alloc o1) (.cells A t)
  rwa [show (w.alloc o1).heap.size = w.heap.size + 1 by simp] at h
theorem new2d (w : World) (o1 : Obj) (k : Nat) (A : Array Value) (t : TypeId) : (((w.alloc o1).drewN k).alloc (.cells A t)).heap[w.heap.size + 1]? = some (.cells A t (0, 0)) := new2 w o1 A t
theorem own_drewN {w : World} {B e s n : Nat} {v : Value} {xs : List Value} (h : w.ownsRow B e s v n xs) (k : Nat) : (w.drewN k).ownsRow B e s v n xs := h
theorem own_drew {w : World} {B e s n : Nat} {v : Value} {xs : List Value} (h : w.ownsRow B e s v n xs) : w.drew.ownsRow B e s v n xs := h
theorem pushN {a w w1 : World} {B m c g cap : Nat} {A : Option Addr} {out : List InN} {x : InN} {o2 : Obj} (hBw : B ≤ w.heap.size) (hb : Below B a w) (ho : w.ownsRow B 52 6 (.slice A m c) m (cellsN out))
    (hown : w1.ownsRow B 52 6 (.slice (some ⟨g, 0, none⟩) (m + 1) cap) (m + 1) (cellsN out ++ x.vals)) (hg : (w.alloc o2).grownBy w1 (Value.slice A m c).ownBlock) :
    w1.ownsRow B 52 6 (.slice (some ⟨g, 0, none⟩) (m + 1) cap) (m + 1) (cellsN (out ++ [x])) ∧ Below B a w1 := by
  refine ⟨?_, ((hb.alloc hBw o2).grown hg (by simp; omega) (fun k hk => (ho.lt k hk).1))⟩
  rw [cellsN_app]
  have : cellsN [x] = x.vals := by simp [cellsN]
  rw [this]
  exact hown

set_option maxRecDepth 100000 in
set_option maxHeartbeats 4000000 in
theorem joined19 (v : Value) (l : List InN) (hl : l.length ≤ 1000000) (hls : litSum l ≤ 1000000) (w : World) (h : RdN w v l) : Calls Tryz.prog 19 #[v] w fun r w' => ∃ v', r = .returned v' ∧ OwnN w' w.heap.size v' (joined l) ∧ Below w.heap.size w w' := by
  obtain ⟨i0, hi0, hz0, hz1, hz2⟩ := info_parts info52
  obtain ⟨A1, c1, rfl, hc1, h1⟩ := h
  obtain ⟨n, hn⟩ : ∃ n, n = l.length := ⟨_, rfl⟩
  rw [← hn] at hl hc1 h1 ⊢
  have HN := Lib.hid hn
  have H1 := Lib.hid h1
  clear hn h1
  go_enter Tryz.func19, Tryz.ntmps19
  go_wp2
  go_loopg [3, 9] (n + 1) (fun q v3 v9 wr => ∃ (i m : Nat) (A : Option Addr) (c : Nat) (out : List InN), v9 = .int .i64 (i : Nat) ∧ v3 = .slice A m c ∧ m = out.length ∧ q + i = n + 1 ∧ i ≤ n ∧ m ≤ i ∧ wr.ownsRow w.heap.size 52 6 (.slice A m c) m (cellsN out) ∧ (l.drop i).foldl joinStep out = joined l ∧ Below w.heap.size w wr ∧ litSum (l.drop i) ≤ 1000000 ∧ ∀ p ∈ out, p.lit.length + litSum (l.drop i) ≤ 1000000)
  case atStart => exact ⟨0, 0, none, 0, [], rfl, rfl, rfl, by omega, by omega, by omega, World.ownsRow_nil _ _ _ _, rfl, Below.refl _ _, hls, fun p hp => by cases hp⟩
  case round =>
    obtain ⟨i, m, A, c, out, rfl, rfl, hm, hq, hi, hmi, ho, hj, hb, hs1, hs2⟩ := hrel
    have HS1 := Lib.hid hs1
    have HS2 := Lib.hid hs2
    have HQ := Lib.hid hq
    have HM := Lib.hid hm
    have HO := Lib.hid ho
    have HJ := Lib.hid hj
    have HB := Lib.hid hb
    clear hq hm ho hj hb hs1 hs2
    by_cases hin : i < n
    · obtain ⟨g1, rfl, q1⟩ := H1.out (by omega)
      obtain ⟨x, hx⟩ : ∃ x, l[i]? = some x := ⟨_, List.getElem?_eq_getElem (by rw [← HN.out]; exact hin)⟩
      have hdrop : l.drop i = x :: l.drop (i + 1) := by
        have hlt : i < l.length := by rw [← HN.out]; exact hin
        rw [List.drop_eq_getElem_cons hlt]
        congr 1
        rw [List.getElem?_eq_getElem hlt] at hx
        exact Option.some.inj hx
      have HDR := Lib.hid hdrop
      have hsx : litSum (l.drop i) = x.lit.length + litSum (l.drop (i + 1)) := by rw [hdrop, litSum_cons]
      have HSX := Lib.hid hsx
      have HSA : Hid (litSum (l.drop (i + 1)) ≤ 1000000 ∧ (∀ p ∈ out, p.lit.length + litSum (l.drop (i + 1)) ≤ 1000000) ∧ ∀ p ∈ out ++ [x], p.lit.length + litSum (l.drop (i + 1)) ≤ 1000000) := by
        have s1 := HS1.out
        have s3 : ∀ p ∈ out, p.lit.length + litSum (l.drop (i + 1)) ≤ 1000000 := fun p hp => by have := HS2.out p hp; omega
        refine Lib.hid ⟨by omega, s3, fun p hp => ?_⟩
        rcases List.mem_append.1 hp with hp | hp
        · exact s3 p hp
        · rw [List.mem_singleton.1 hp]; omega
      clear hsx
      have a0 : w.cell? ⟨g1, i * 6, none⟩ = some (.int .i64 x.dep) := q1 i x hx 0 (by decide)
      have hg1 : g1 < w.heap.size := World.block_lt_of_cell? w _ a0
      have e0 : wr.cell? ⟨g1, i * 6, none⟩ = some (.int .i64 x.dep) := (HB.out.cell (p := ⟨g1, i * 6, none⟩) hg1).trans (q1 i x hx 0 (by decide))
      have e1 : wr.cell? ⟨g1, i * 6 + 1, none⟩ = some (.int .i64 x.ty) := (HB.out.cell (p := ⟨g1, i * 6 + 1, none⟩) hg1).trans (q1 i x hx 1 (by decide))
      have e2 : wr.cell? ⟨g1, i * 6 + 2, none⟩ = some (strV x.lit) := (HB.out.cell (p := ⟨g1, i * 6 + 2, none⟩) hg1).trans (q1 i x hx 2 (by decide))
      have e3 : wr.cell? ⟨g1, i * 6 + 3, none⟩ = some (strV x.dst) := (HB.out.cell (p := ⟨g1, i * 6 + 3, none⟩) hg1).trans (q1 i x hx 3 (by decide))
      have e4 : wr.cell? ⟨g1, i * 6 + 4, none⟩ = some (strV x.ttl) := (HB.out.cell (p := ⟨g1, i * 6 + 4, none⟩) hg1).trans (q1 i x hx 4 (by decide))
      have e5 : wr.cell? ⟨g1, i * 6 + 5, none⟩ = some (.bool x.has) := (HB.out.cell (p := ⟨g1, i * 6 + 5, none⟩) hg1).trans (q1 i x hx 5 (by decide))
      clear a0 q1 hx hdrop
      by_cases ht : x.ty = 12
      · have b1 : (x.ty == 12) = true := by simpa using ht
        have HT := Lib.hid ht
        clear ht
        by_cases hl0 : x.lit = []
        · have b2 : (x.lit == []) = true := by simpa using hl0
          have HL0 := Lib.hid hl0
          clear hl0
          go_wp2
          go_roundg (n - i)
          case measure => have := HQ.out; omega
          case rel => exact ⟨i + 1, m, A, c, out, by go_num, rfl, HM.out, by have := HQ.out; omega, by omega, by omega, HO.out.alloc _, by rw [← HJ.out, HDR.out, List.foldl_cons, joinStep_empty HT.out HL0.out], HB.out.alloc HB.out.size _, HSA.out.1, HSA.out.2.1⟩
        · have b2 : (x.lit == []) = false := by simpa using hl0
          have HL0 := Lib.hid hl0
          clear hl0
          by_cases hm0 : m = 0
          · have hout : out = [] := List.eq_nil_of_length_eq_zero (by have := HM.out; omega)
            have HOUT := Lib.hid hout
            have em : (m : Int) - 1 = -1 := by omega
            clear hout hm0
            go_wp2
            go_quiet (fail)
            go_wp2_with (at_builtin; refine wpList_append_lies _ rfl _ _ 25 rfl w.heap.size 52 i0 _ 6 72 Tryz.underlying25 hi0 hz0 hz1 hz2 rfl (by decide) (.slice A m c) m (cellsN out) rfl ((own_drewN (HO.out.alloc _) _).alloc _) ⟨_, 0, none⟩ 1 1 x.vals rfl rfl (World.news_of_block (cs := x.vals.toArray) (new2d _ _ _ _ _)) ?qc1 (by decide) ?qc2 ?qc3 ?qc4 _ rfl ?_)
            case qc1 => intro u hu; exact cellsN_one [x] u (by simpa [cellsN] using hu)
            case qc2 => unfold maxLen; omega
            case qc3 => omega
            case qc4 => have := HB.out.size; simp; omega
            intro gg cap w1 hown hgrow hat hlt
            have HP := Lib.hid (pushN (Nat.le_trans HB.out.size (by simp)) (below_drewN (HB.out.alloc HB.out.size _) _) (own_drewN (HO.out.alloc _) _) hown hgrow)
            clear hown hgrow hat hlt
            go_wp2
            go_roundg (n - i)
            case measure => have := HQ.out; omega
            case rel => exact ⟨i + 1, m + 1, _, cap, out ++ [x], by go_num, rfl, by rw [List.length_append, HM.out]; rfl, by have := HQ.out; omega, by omega, by omega, HP.out.1, by rw [← HJ.out, HDR.out, List.foldl_cons, HOUT.out, joinStep_first HL0.out, List.nil_append], HP.out.2, HSA.out.1, HSA.out.2.2⟩
          · have em : (m : Int) - 1 = ((m - 1 : Nat) : Int) := by omega
            obtain ⟨p, hp⟩ : ∃ p, out[m - 1]? = some p := ⟨_, List.getElem?_eq_getElem (by have := HM.out; omega)⟩
            have hpl : out.getLast? = some p := by rw [List.getLast?_eq_getElem?, ← HM.out]; exact hp
            have HPL := Lib.hid hpl
            have hown := HO.out
            rcases hown.2 with ⟨_, h0⟩ | ⟨g2, cap2, cur2, hv2, hB2, hg2, hr2⟩
            · exact absurd h0 hm0
            injection hv2 with hA hm2 hc2
            subst hA hc2
            have hcc := hown.cells (g := g2) rfl
            have pc : ∀ j, j < 6 → (wr.alloc (.cells #[.int .i64 x.dep, .int .i64 x.ty, strV x.lit, strV x.dst, strV x.ttl, .bool x.has] 52)).cell? ⟨g2, (m - 1) * 6 + j, none⟩ = p.vals[j]? := fun j hj => by
              have h2 := cellsN_get out (m - 1) p hp j hj
              obtain ⟨u, hu⟩ : ∃ u, p.vals[j]? = some u := ⟨_, List.getElem?_eq_getElem (by rw [vals_len]; exact hj)⟩
              have h3 := hcc ((m - 1) * 6 + j) u (by rw [h2, hu])
              rw [add_at, Nat.zero_add] at h3
              rw [hu]
              exact Lib.cell?_alloc_some _ h3
            have p0 := pc 0 (by decide)
            have p1 := pc 1 (by decide)
            have p2 := pc 2 (by decide)
            rw [Nat.add_zero] at p0
            change _ = some (Value.int .i64 p.dep) at p0
            change _ = some (Value.int .i64 p.ty) at p1
            change _ = some (strV p.lit) at p2
            have hf2 : ∀ i, (wr.alloc (.cells #[.int .i64 x.dep, .int .i64 x.ty, strV x.lit, strV x.dst, strV x.ttl, .bool x.has] 52)).frozen? ⟨g2, i, none⟩ = false := fun i => Lib.frozen_of_heap ((Below.heap_alloc wr _ g2 (Array.getElem?_eq_some_iff.1 hg2).1).trans hg2) i
            have HG2 := Lib.hid hg2
            have HP := Lib.hid hp
            clear hp hpl hown hg2 hr2 hcc pc hB2
            by_cases hpt : p.ty = 12
            · have b3 : (p.ty == 12) = true := by simpa using hpt
              by_cases hpd : p.dep = x.dep
              · have b4 : (p.dep == x.dep) = true := by simpa using hpd
                have HPT := Lib.hid hpt
                have HPD := Lib.hid hpd
                clear hpt hpd
                go_wp2
                go_quiet (fail)
                go_wp2
                generalize hW : World.drewN (wr.alloc _) nq = W
                have p2W : W.cell? ⟨g2, (m - 1) * 6 + 2, none⟩ = some (strV p.lit) := by rw [← hW]; exact p2
                have x2W : W.cell? ⟨wr.heap.size, 2, none⟩ = some (strV x.lit) := by rw [← hW]; exact (Lib.cell_of_heap (heap_alloc_new wr _) 2).trans rfl
                have f2W : W.frozen? ⟨g2, (m - 1) * 6 + 2, none⟩ = false := by rw [← hW]; exact hf2 _
                have hz0' : (0 : Int) ≤ ((m - 1 : Nat) : Int) := Int.natCast_nonneg _
                have hz1' : ((m - 1 : Nat) : Int) < (m : Int) := by omega
                have hpm : p ∈ out := List.mem_of_getElem? HP.out
                have q9 : ¬ (9223372036854775807 < p.lit.length + x.lit.length) := by have := HS2.out p hpm; have := HSX.out; omega
                have HW := Lib.hid hW
                have HPM := Lib.hid hpm
                clear hW p0 p1 p2 hf2 hpm
                go_still_tail 10, (by kernel_rfl)
                go_wp2_with fail
                go_roundg (n - i)
                case measure => have := HQ.out; omega
                case rel =>
                  have hoW : W.ownsRow w.heap.size 52 6 (.slice (some ⟨g2, 0, none⟩) m c) m (cellsN out) := by rw [← HW.out]; exact own_drewN (HO.out.alloc _) _
                  have hbW : Below w.heap.size w W := by rw [← HW.out]; exact below_drewN (HB.out.alloc HB.out.size _) _
                  have hgB : w.heap.size ≤ g2 := (HO.out.lt g2 rfl).1
                  have hset := own_upd (n' := { p with lit := p.lit ++ x.lit }) (v := .string ((⟨p.lit.toArray⟩ : ByteArray) ++ ⟨x.lit.toArray⟩)) hoW HP.out (i := m - 1) (j := 2) (by omega) (by decide) (by rw [str_app]; rfl)
                  rw [set_last HM.out hm0] at hset
                  refine ⟨i + 1, m, _, c, out.dropLast ++ [{ p with lit := p.lit ++ x.lit }], by go_num, rfl, ?_, by have := HQ.out; omega, by omega, by omega, own_drew hset, by rw [← HJ.out, HDR.out, List.foldl_cons, joinStep_join HT.out HPL.out HL0.out ⟨HPT.out, HPD.out⟩], below_drewN (hbW.setCell (p := ⟨g2, (m - 1) * 6 + 2, none⟩) hgB _) 1, HSA.out.1, fun r hr => ?_⟩
                  · rw [List.length_append, List.length_dropLast, ← HM.out]
                    show m = m - 1 + 1
                    omega
                  · rcases List.mem_append.1 hr with hr | hr
                    · exact HSA.out.2.1 r (List.dropLast_subset _ hr)
                    · rw [List.mem_singleton.1 hr]
                      have := HS2.out p HPM.out
                      have := HSX.out
                      simp only [List.length_append]
                      omega
              · have b4 : (p.dep == x.dep) = false := by simpa using hpd
                have HNJ := Lib.hid (show ¬ (p.ty = 12 ∧ p.dep = x.dep) from fun h => hpd h.2)
                clear hpt hpd
                go_wp2
                go_quiet (fail)
                go_wp2_with (at_builtin; refine wpList_append_lies _ rfl _ _ 25 rfl w.heap.size 52 i0 _ 6 72 Tryz.underlying25 hi0 hz0 hz1 hz2 rfl (by decide) (.slice (some ⟨g2, 0, none⟩) m c) m (cellsN out) rfl ((own_drewN (HO.out.alloc _) _).alloc _) ⟨_, 0, none⟩ 1 1 x.vals rfl rfl (World.news_of_block (cs := x.vals.toArray) (new2d _ _ _ _ _)) ?qc1 (by decide) ?qc2 ?qc3 ?qc4 _ rfl ?_)
                case qc1 => intro u hu; exact cellsN_one [x] u (by simpa [cellsN] using hu)
                case qc2 => unfold maxLen; omega
                case qc3 => omega
                case qc4 => have := HB.out.size; simp; omega
                intro gg cap w1 hown hgrow hat hlt
                have HP := Lib.hid (pushN (Nat.le_trans HB.out.size (by simp)) (below_drewN (HB.out.alloc HB.out.size _) _) (own_drewN (HO.out.alloc _) _) hown hgrow)
                clear hown hgrow hat hlt
                go_wp2
                go_roundg (n - i)
                case measure => have := HQ.out; omega
                case rel => exact ⟨i + 1, m + 1, _, cap, out ++ [x], by go_num, rfl, by rw [List.length_append, HM.out]; rfl, by have := HQ.out; omega, by omega, by omega, HP.out.1, by rw [← HJ.out, HDR.out, List.foldl_cons, joinStep_apart HPL.out HL0.out HNJ.out], HP.out.2, HSA.out.1, HSA.out.2.2⟩
            · have b3 : (p.ty == 12) = false := by simpa using hpt
              have HNJ := Lib.hid (show ¬ (p.ty = 12 ∧ p.dep = x.dep) from fun h => hpt h.1)
              clear hpt
              go_wp2
              go_quiet (fail)
              go_wp2_with (at_builtin; refine wpList_append_lies _ rfl _ _ 25 rfl w.heap.size 52 i0 _ 6 72 Tryz.underlying25 hi0 hz0 hz1 hz2 rfl (by decide) (.slice (some ⟨g2, 0, none⟩) m c) m (cellsN out) rfl ((own_drewN (HO.out.alloc _) _).alloc _) ⟨_, 0, none⟩ 1 1 x.vals rfl rfl (World.news_of_block (cs := x.vals.toArray) (new2d _ _ _ _ _)) ?qc1 (by decide) ?qc2 ?qc3 ?qc4 _ rfl ?_)
              case qc1 => intro u hu; exact cellsN_one [x] u (by simpa [cellsN] using hu)
              case qc2 => unfold maxLen; omega
              case qc3 => omega
              case qc4 => have := HB.out.size; simp; omega
              intro gg cap w1 hown hgrow hat hlt
              have HP := Lib.hid (pushN (Nat.le_trans HB.out.size (by simp)) (below_drewN (HB.out.alloc HB.out.size _) _) (own_drewN (HO.out.alloc _) _) hown hgrow)
              clear hown hgrow hat hlt
              go_wp2
              go_roundg (n - i)
              case measure => have := HQ.out; omega
              case rel => exact ⟨i + 1, m + 1, _, cap, out ++ [x], by go_num, rfl, by rw [List.length_append, HM.out]; rfl, by have := HQ.out; omega, by omega, by omega, HP.out.1, by rw [← HJ.out, HDR.out, List.foldl_cons, joinStep_apart HPL.out HL0.out HNJ.out], HP.out.2, HSA.out.1, HSA.out.2.2⟩
      · have b1 : (x.ty == 12) = false := by simpa using ht
        have HT := Lib.hid ht
        clear ht
        go_wp2_with (at_builtin; refine wpList_append_lies _ rfl _ _ 25 rfl w.heap.size 52 i0 _ 6 72 Tryz.underlying25 hi0 hz0 hz1 hz2 rfl (by decide) (.slice A m c) m (cellsN out) rfl ((HO.out.alloc _).alloc _) ⟨_, 0, none⟩ 1 1 x.vals rfl rfl (World.news_of_block (cs := x.vals.toArray) (new2 _ _ _ _)) ?qc1 (by decide) ?qc2 ?qc3 ?qc4 _ rfl ?_)
        case qc1 => intro u hu; exact cellsN_one [x] u (by simpa [cellsN] using hu)
        case qc2 => unfold maxLen; omega
        case qc3 => omega
        case qc4 => have := HB.out.size; simp; omega
        intro gg cap w1 hown hgrow hat hlt
        have HP := Lib.hid (pushN (Nat.le_trans HB.out.size (by simp)) (HB.out.alloc HB.out.size _) (HO.out.alloc _) hown hgrow)
        clear hown hgrow hat hlt
        go_wp2
        go_roundg (n - i)
        case measure => have := HQ.out; omega
        case rel => exact ⟨i + 1, m + 1, _, cap, out ++ [x], by go_num, rfl, by rw [List.length_append, HM.out]; rfl, by have := HQ.out; omega, by omega, by omega, HP.out.1, by rw [← HJ.out, HDR.out, List.foldl_cons, joinStep_other HT.out], HP.out.2, HSA.out.1, HSA.out.2.2⟩
    · obtain rfl : i = n := by omega
      go_wp2
      go_ret
      have hd : l.drop i = [] := List.drop_eq_nil_of_le (by rw [← HN.out]; exact Nat.le_refl _)
      have hj : out = joined l := by have := HJ.out; rw [hd] at this; exact this
      refine ⟨_, rfl, ?_, HB.out⟩
      rw [← hj]
      show wr.ownsRow _ _ _ _ out.length _
      rw [← HM.out]
      exact HO.out
end Go.Proofs.YtalajbfpilhfgaaGreatDoor
