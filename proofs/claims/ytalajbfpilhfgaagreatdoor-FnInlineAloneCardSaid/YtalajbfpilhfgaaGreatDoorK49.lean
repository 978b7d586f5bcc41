/-
  FnInlineAlone: the nodes below a root, flat, with their depths (7).
-/
import Derived.Test.YtalajbfpilhfgaaGreatDoorK26
import Derived.Test.YtalajbfpilhfgaaGreatDoorK31
import Derived.Test.YtalajbfpilhfgaaGreatDoorK45
import Derived.Test.YtalajbfpilhfgaaGreatDoorK48
import Derived.OwnWalk
set_option linter.unusedVariables false
set_option linter.unusedSimpArgs false
namespace Go.Proofs.YtalajbfpilhfgaaGreatDoor
open Go.RowKit

section
variable {P : Program} {ops : Array Oper} {Q : Exit → Act → World → Prop} {md : Region.Mode} {S : World → Prop}
/-- Operations that hand a value on, and do nothing else. -/
def givesM (o : Oper) : Bool := match o.op with
  | .move _ | .assign _ | .load .. | .nilCheck _ | .fieldAddr .. | .binOp .. | .build .. | .slice .. | .convert .. | .indexAddr .. => true
  | _ => false
theorem gives_valueM {o : Oper} {ev : Operand → Value} (hg : givesM o = true) : GivesV (execOp ev o) := by
  unfold givesM at hg
  unfold execOp
  cases ho : o.op <;> rw [ho] at hg <;> simp only [Bool.false_eq_true] at hg
  all_goals first | exact GivesV.ret _ | exact GivesV.bind fun _ => GivesV.ret _ | skip
  dsimp only
  split <;> first | exact GivesV.panic | exact GivesV.ret _ | skip
  try dsimp only
  split <;> first | exact GivesV.panic | exact GivesV.ret _ | skip
  refine GivesV.bind fun _ => GivesV.bind fun _ => ?_
  try dsimp only
  split
  · exact GivesV.bind fun _ => GivesV.ret _
  · exact GivesV.ret _
theorem yields_of_quietM {o : Oper} {a : Act} {v : Value} (hg : givesM o = true) (hw : Region.wanted o (yielded ops a.tmps) = true) (h : ∀ w, S w → o.quietAt P a S w v) : YieldsIf P ops S o v a := by
  refine .inl ⟨hw, fun w hS => ?_⟩
  have h1 := h w hS
  unfold Oper.quietAt at h1
  cases hr : (execOp a.eval o).run P w with
  | ok n w' =>
    obtain ⟨u, rfl⟩ := gives_valueM hg P w w' n hr
    rw [hr] at h1
    obtain ⟨e1, e2⟩ := h1
    rw [e1, e2]
  | halt x w' => rw [hr] at h1; exact h1.elim
theorem anyH_readM {i : Nat} {o : Oper} {fuel : Nat} {listed : Array Bool} {a : Act} {w : World} (ho : (ops.toList.drop i).head? = some o) (hs : Region.noSelect ops = true) (hf : Region.free md ops listed i = true) (hr : (Region.ready md ops listed).contains i = true)
    (hg : givesM o = true) (hw : Region.wanted o (yielded ops a.tmps) = true) (hS : S w) (hQ' : ∀ c a a' w, Q (.panic c) a w → Q (.panic c) a' w)
    (h : ∀ K : Act → Prop, (∀ a', wpAnyH P md ops Q S fuel (listed.setIfInBounds i true) a' w → K a') → o.quiet P a S K) : wpAnyH P md ops Q S (fuel + 1) listed a w := by
  obtain ⟨v, h1, h2⟩ := h (fun a' => wpAnyH P md ops Q S fuel (listed.setIfInBounds i true) a' w) (fun a' h => h)
  exact wpAnyH_take (op_at ho) hs hf hr (fun c a w => hQ' c _ _ w) (yields_of_quietM hg hw h1) hS h2
end
theorem own_base' {w : World} {B B' e s n : Nat} {v : Value} {xs : List Value} (h : w.ownsRow B e s v n xs) (hB : B' ≤ B) : w.ownsRow B' e s v n xs := by
  refine ⟨h.1, ?_⟩
  rcases h.2 with h0 | ⟨g, cap, cur, hv, hb, hr⟩
  · exact .inl h0
  · exact .inr ⟨g, cap, cur, hv, Nat.le_trans hB hb, hr⟩
theorem conv_v {w : World} {v : Value} {o : Option Bs} (h : RdV w v o) : (convert 34 9 v).run Tryz.prog w = .ok (.string ⟨(o.getD []).toArray⟩) w := by
  cases o with
  | none =>
    rw [show v = nilS from h]
    exact run_convert_bytes_nil w 34 5 Tryz.underlying34 Tryz.underlying5 0 0 9 Tryz.underlying9
  | some l =>
    obtain ⟨g, off, cap, C, fz, rfl, h1, h2, h3, h4⟩ := h
    exact conv_rd h4
theorem info3 : (Tryz.prog.info? 3).map (fun i => (i.zero, i.size, i.bytes)) = some (some (.int .i64 0), 1, 8) := by kernel_rfl
theorem size49 : (Tryz.prog.info? 49).map (·.size) = some 25 := by kernel_rfl
theorem Keep5.alloc (w : World) (o : Obj) : Keep5 w (w.alloc o) := fun g C fz h => Below.heap_alloc w o g (Array.getElem?_eq_some_iff.1 h).1
def DepIs (w : World) (D : Nat) (DC : Array Value) : Prop := w.heap[D]? = some (.cells DC 3 (0, 0))
theorem DepIs.cell {w : World} {D : Nat} {DC : Array Value} (h : DepIs w D DC) (i : Nat) : w.cell? ⟨D, i, none⟩ = DC[i]? := Lib.cell_of_heap h i
theorem DepIs.free {w : World} {D : Nat} {DC : Array Value} (h : DepIs w D DC) (i : Nat) : w.frozen? ⟨D, i, none⟩ = false := Lib.frozen_of_heap h i
theorem DepIs.set {w : World} {D : Nat} {DC : Array Value} (h : DepIs w D DC) (i : Nat) (v : Value) : DepIs (w.setCell ⟨D, i, none⟩ v) D (DC.setIfInBounds i v) := by
  unfold DepIs World.setCell
  rw [Array.getElem?_modify]
  simp only [↓reduceIte]
  rw [show w.heap[D]? = _ from h]
  rfl
theorem DepIs.below {w w' : World} {D : Nat} {DC : Array Value} (h : DepIs w D DC) (hb : Below w.heap.size w w') : DepIs w' D DC := by
  have hlt : D < w.heap.size := (Array.getElem?_eq_some_iff.1 h).1
  exact (hb.block D hlt).trans h
/-- The depths of the nodes before the one at hand. -/
def Deps (N : List InN) (k : Nat) (DC : Array Value) : Prop := DC.size = N.length + 1 ∧ ∀ j m, j < k → N[j]? = some m → DC[j + 1]? = some (.int .i64 m.dep)
theorem Deps.set {N : List InN} {k : Nat} {DC : Array Value} {m : InN} (h : Deps N k DC) (hk : N[k]? = some m) (x : Int) (hx : x = m.dep) : Deps N (k + 1) (DC.setIfInBounds (k + 1) (.int .i64 x)) := by
  subst hx
  refine ⟨by rw [Array.size_setIfInBounds]; exact h.1, fun j y hj hy => ?_⟩
  by_cases hjk : j = k
  · subst hjk
    rw [hk] at hy
    injection hy with hy
    subst hy
    have : j < N.length := (List.getElem?_eq_some_iff.1 hk).1
    rw [Array.getElem?_setIfInBounds_self_of_lt (by rw [h.1]; omega)]
  · rw [Array.getElem?_setIfInBounds_ne (by omega)]
    exact h.2 j y (by omega) hy
theorem Deps.put {N : List InN} {k : Nat} {DC : Array Value} (h : Deps N k DC) (v : Value) : Deps N k (DC.setIfInBounds (k + 1) v) := by
  refine ⟨by rw [Array.size_setIfInBounds]; exact h.1, fun j y hj hy => ?_⟩
  rw [Array.getElem?_setIfInBounds_ne (by omega)]
  exact h.2 j y hj hy
theorem Deps.set' {N : List InN} {i k : Nat} {DC : Array Value} {m : InN} (hi : i = k + 1) (h : Deps N k DC) (hk : N[k]? = some m) (x : Int) (hx : x = m.dep) : Deps N (k + 1) (DC.setIfInBounds i (.int .i64 x)) := by
  subst hi
  exact h.set hk x hx
theorem Deps.put' {N : List InN} {i k : Nat} {DC : Array Value} (hi : i = k + 1) (h : Deps N k DC) (v : Value) : Deps N k (DC.setIfInBounds i v) := by
  subst hi
  exact h.put v
set_option maxRecDepth 100000 in
set_option maxHeartbeats 16000000 in
theorem nodes7 (vo : Value) (vs : List Value) (s0 : RS) (R : List RS) (N : List InN) (B : Nat) (w : World) (ho : w.ownsRow B 49 25 vo (R.length + 1) vs) (hr : RowsAre w (s0 :: R) vs) (hp0 : s0.p = -1) (ht0 : s0.ty = 4) (hRN : RowsOf R N) (hty : ∀ x ∈ N, inlTy x.ty) (hl : N.length ≤ 900000) (hls : litSum N ≤ 900000) :
    Calls Tryz.prog 7 #[vo, .int .i64 0] w fun r w' => ∃ v', r = .returned (.tuple #[v', .bool true]) ∧ OwnN w' w.heap.size v' (joined N) ∧ Below w.heap.size w w' := by
  have hmix : Tryz.prog.follows .mixedOrders = true := by kernel_rfl
  obtain ⟨i0, hi0, hz0, hz1, hz2⟩ := info_parts info52
  obtain ⟨i3, hi3, hy0, hy1, hy2⟩ := info_parts info3
  rcases ho.2 with ⟨_, h0⟩ | ⟨g, cap, cur, rfl, hB, hg, hcap1, hcap2, hcur⟩
  · omega
  have hcells := ho.cells (g := g) rfl
  have HLT : Hid (g < w.heap.size) := Lib.hid (ho.lt g rfl).2
  have HC : Hid (∀ j u, vs[j]? = some u → w.cell? ⟨g, j, none⟩ = some u) := Lib.hid (fun j u hu => by have := hcells j u hu; rwa [add_at, Nat.zero_add] at this)
  have HR := Lib.hid hr
  obtain ⟨n, hn⟩ : ∃ n, n = R.length + 1 := ⟨_, rfl⟩
  rw [← hn]
  have HN : Hid (n = N.length + 1) := Lib.hid (by rw [hn, hRN.len])
  have hnb : n ≤ 900001 := by have := HN.out; omega
  have hn0 : 0 < n := by omega
  have HRN := Lib.hid hRN
  have HTY := Lib.hid hty
  have HLS := Lib.hid hls
  have HBD := Lib.hid (Below.refl w.heap.size w)
  have hcm : cap ≤ 9223372036854775807 := by first | exact hcap2 | (unfold maxLen at hcap2; omega)
  obtain ⟨l0, d0, t0, hrow0, -, -, -, -⟩ := hr.get 0 s0 rfl
  have z0 : w.cell? ⟨g, 0, none⟩ = some (.int .i64 (-1)) := HC.out 0 _ (by have := hrow0 0 (.int .i64 s0.p) rfl; rw [hp0] at this; exact this)
  have z1 : w.cell? ⟨g, 1, none⟩ = some (.int .i64 4) := HC.out 1 _ (by have := hrow0 1 (.int .i64 s0.ty) rfl; rw [ht0] at this; exact this)
  have T20 : Hid (Calls Tryz.prog 20 #[.slice (some ⟨g, 0, none⟩) n cap] w fun r w' => r = .returned (.bool false) ∧ w = w') := Lib.hid (tree20 ⟨g, 0, none⟩ n cap 4 w z0 z1 (by decide) hn0 ⟨g, rfl⟩)
  clear ho hB hg hcap1 hcap2 hcur hcells hr hn hRN hty hls hl hrow0 hp0 ht0 cur
  go_enter Tryz.func7, Tryz.ntmps7
  go_wp2_with (first
    | (go_at_call 20; refine T20.out.mono ?_; rintro r w1 ⟨rfl, rfl⟩)
    | (at_make; refine wpList_make_full _ rfl _ _ 50 rfl w.heap.size 3 i3 _ 1 Tryz.underlying50 hi3 hy0 hy1 .i64 .i64 _ _ n rfl rfl rfl rfl ?qa ?qb (Nat.le_refl _) ?_))
  case qa => rw [hy2]; omega
  case qb => unfold maxLen; omega
  intro w1 hown hgrow
  have HB1 : Hid (Below w.heap.size w w1) := Lib.hid (HBD.out.grown hgrow (Nat.le_refl _) (fun k hk => by cases hk))
  have HD1 : Hid (∃ DC, DepIs w1 w.heap.size DC ∧ DC.size = N.length + 1) := by
    refine Lib.hid ?_
    rcases hown.2 with ⟨h, _⟩ | ⟨g', cap', cur', hv, hb', hg', h1, h2, h3, h4⟩
    · cases h
    · injection hv with e1 e2 e3
      injection e1 with e1
      injection e1 with e1
      subst e1 e3
      exact ⟨cur', hg', by rw [← HN.out]; omega⟩
  clear hown hgrow z0 z1
  obtain ⟨D, hDD⟩ : ∃ D, D = w.heap.size := ⟨_, rfl⟩
  rw [← hDD]
  have HDD := Lib.hid hDD
  clear hDD
  go_wp2
  go_loopg [6, 8] (n + 1) (fun q v6 v8 wr => ∃ (i k : Nat) (A : Option Addr) (c : Nat) (DC : Array Value), v8 = .int .i64 (i : Nat) ∧ i = k + 1 ∧ v6 = .slice A k c ∧ q + k = n + 1 ∧ k + 1 ≤ n ∧ wr.ownsRow w.heap.size 52 6 (.slice A k c) k (cellsN (N.take k)) ∧ DepIs wr D DC ∧ Deps N k DC ∧ Below w.heap.size w wr)
  case atStart =>
    obtain ⟨DC, hD1, hD2⟩ := HD1.out
    exact ⟨1, 0, none, 0, DC, rfl, rfl, rfl, by omega, by omega, World.ownsRow_nil _ _ _ _, by rw [HDD.out]; exact hD1, ⟨hD2, fun j m hj => absurd hj (Nat.not_lt_zero _)⟩, HB1.out⟩
  case round =>
    obtain ⟨i, k, A, c, DC, rfl, hik, rfl, hq, hk, ho, hdi, hds, hb⟩ := hrel
    have HIK := Lib.hid hik
    have HQ := Lib.hid hq
    have HO := Lib.hid ho
    have HDI := Lib.hid hdi
    have HDS := Lib.hid hds
    have HB := Lib.hid hb
    clear hq ho hdi hds hb
    by_cases hin : i < n
    · obtain ⟨m, hm⟩ : ∃ m, N[k]? = some m := ⟨_, List.getElem?_eq_getElem (by have := HN.out; have := HIK.out; omega)⟩
      obtain ⟨s, hs⟩ : ∃ s, R[k]? = some s := ⟨_, List.getElem?_eq_getElem (by rw [HRN.out.len]; have := HN.out; omega)⟩
      obtain ⟨vl, vd, vt, hrow, r1, r2, r3, -⟩ := HR.out.get i s (by rw [hik]; simpa using hs)
      obtain ⟨xA, xn, xc, rfl⟩ := r1.shape
      obtain ⟨yA, yn, yc, rfl⟩ := r2.shape
      obtain ⟨zA, zn, zc, rfl⟩ := r3.shape
      obtain ⟨g1, g2, g3, g4, g5, g6⟩ := HRN.out.rel k s m hs hm
      have hdep := HRN.out.dep k m hm
      have hp1 : 0 ≤ s.p := by rcases g6 with ⟨h, _⟩ | ⟨j, m', h, _⟩ <;> omega
      have hp2 : s.p < (i : Int) := by rcases g6 with ⟨h, _⟩ | ⟨j, m', h, hj, _⟩ <;> omega
      obtain ⟨tt, htt, hti⟩ : ∃ t : Nat, s.ty = t ∧ ((7 ≤ t ∧ t ≤ 12) ∨ (15 ≤ t ∧ t ≤ 18)) := by
        have h := HTY.out m (List.mem_of_getElem? hm)
        rw [g1] at h
        rcases h with h | h
        · exact ⟨s.ty.toNat, by omega, by omega⟩
        · exact ⟨s.ty.toNat, by omega, by omega⟩
      have H21 := Lib.hid (inline21 tt hti)
      have hcell : ∀ j u, (rowOf s (.slice xA xn xc) (.slice yA yn yc) (.slice zA zn zc))[j]? = some u → ∀ w', Below w.heap.size w w' → w'.cell? ⟨g, i * 25 + j, none⟩ = some u := fun j u hu w' hb => (hb.cell (p := ⟨g, i * 25 + j, none⟩) HLT.out).trans (HC.out _ u (hrow j u hu))
      have HCE := Lib.hid hcell
      have e0 : wr.cell? ⟨g, i * 25, none⟩ = some (.int .i64 s.p) := hcell 0 _ rfl wr HB.out
      have e1 : wr.cell? ⟨g, i * 25 + 1, none⟩ = some (.int .i64 (tt : Nat)) := by rw [← htt]; exact hcell 1 _ rfl wr HB.out
      have hDC : DC.size = n := by rw [HN.out]; exact HDS.out.1
      obtain ⟨dv, hdv⟩ : ∃ v, DC[i]? = some v := ⟨_, Array.getElem?_eq_getElem (by omega)⟩
      have d1 : wr.cell? ⟨D, i, none⟩ = some dv := (HDI.out.cell i).trans hdv
      have d2 : wr.frozen? ⟨D, i, none⟩ = false := HDI.out.free i
      have HM := Lib.hid hm
      have HTT := Lib.hid htt
      have HG := Lib.hid (And.intro g1 (And.intro g2 (And.intro g3 (And.intro g4 (And.intro g5 g6)))))
      have HR1 : Hid (RdV w (.slice xA xn xc) s.lb ∧ RdV w (.slice yA yn yc) s.db ∧ RdV w (.slice zA zn zc) s.tb) := Lib.hid ⟨r1, r2, r3⟩
      have H1 : Hid (∀ u ∈ (rowOf s (.slice xA xn xc) (.slice yA yn yc) (.slice zA zn zc)), u.oneCell' = true) := Lib.hid (rowOf_one r1 r2 r3)
      have H1A : Hid ((rowOf s (.slice xA xn xc) (.slice yA yn yc) (.slice zA zn zc)).toArray.all (·.oneCell') = true) := Lib.hid (all_oneCell_toArray H1.out)
      have HP1 := Lib.hid hp1
      have HP2 := Lib.hid hp2
      have HDEP := Lib.hid hdep
      have nb0 : ¬ (s.p < 0) := by omega
      have nb1 : ¬ ((i : Int) ≤ s.p) := by omega
      have HDC := Lib.hid hDC
      clear hik hk hm hs hrow r1 r2 r3 g1 g2 g3 g4 g5 g6 htt hti hcell hdv hDC hdep
      go_upto_if 69 with (go_at_call 21; refine (H21.out _).mono ?_; rintro r w2 ⟨rfl, rfl⟩)
      have hb0 := HB.out
      go_cut [9] from 42 to 77 (fun v9 wx => v9 = .int .i64 s.p ∧ ∃ DC', DepIs wx D DC' ∧ Deps N (k + 1) DC' ∧ Below w.heap.size w wx ∧ wx.ownsRow w.heap.size 52 6 (.slice A k c) k (cellsN (N.take k)))
      case first =>
        generalize hW : wr.setCell _ _ = W1
        have hD1 : DepIs W1 D (DC.setIfInBounds i (.int .i64 0)) := by rw [← hW]; exact HDI.out.set i _
        have hB1 : Below w.heap.size w W1 := by rw [← hW]; exact HB.out.setCell (p := ⟨D, i, none⟩) (by rw [HDD.out]; exact Nat.le_refl _) _
        have hO1 : W1.ownsRow w.heap.size 52 6 (.slice A k c) k (cellsN (N.take k)) := by rw [← hW]; exact own_set (p := ⟨D, i, none⟩) HO.out HDI.out (by decide) _
        have HD1' := Lib.hid hD1
        have HB1' := Lib.hid hB1
        have HO1 := Lib.hid hO1
        clear hW hD1 hB1 hO1
        have hg6 := HG.out.2.2.2.2.2
        by_cases hp : s.p = 0
        · have hm0 : m.dep = 0 := by
            rcases hg6 with ⟨_, h⟩ | ⟨j, m', h, _⟩
            · exact h
            · omega
          have HM0 := Lib.hid hm0
          have nb2 : ¬ (0 < s.p) := by omega
          clear hg6 hp hm0
          go_wp2
          go_meet
          case rel => exact ⟨rfl, _, HD1'.out, HDS.out.set' HIK.out HM.out 0 HM0.out.symm, HB1'.out, HO1.out⟩
        · obtain ⟨pn, m', hpn, hj, hm', hmd⟩ : ∃ (pn : Nat) (m' : InN), s.p = ((pn + 1 : Nat) : Int) ∧ pn < k ∧ N[pn]? = some m' ∧ m.dep = m'.dep + 1 := by
            rcases hg6 with ⟨h, _⟩ | ⟨j, m', h, h2, h3, h4⟩
            · exact absurd h hp
            · exact ⟨j, m', by rw [h, Nat.add_comm], h2, h3, h4⟩
          obtain ⟨q, hqq⟩ : ∃ q, q = pn + 1 := ⟨_, rfl⟩
          rw [← hqq] at hpn
          have hq0 : 0 < q := by omega
          have hqi : q < i := by have := HIK.out; omega
          have hsz := HDC.out
          have c1 : W1.cell? ⟨D, q, none⟩ = some (.int .i64 m'.dep) := by
            rw [HD1'.out.cell q, Array.getElem?_setIfInBounds_ne (by omega), hqq]
            exact HDS.out.2 pn m' hj hm'
          have c2 : W1.cell? ⟨D, i, none⟩ = some (.int .i64 0) := by
            rw [HD1'.out.cell i, Array.getElem?_setIfInBounds_self_of_lt (by omega)]
          have c3 : W1.frozen? ⟨D, i, none⟩ = false := HD1'.out.free i
          have hb := HDEP.out
          have hm1 : m'.dep + 1 ≤ 900001 := by have := HIK.out; omega
          have hm2 : 0 ≤ m'.dep + 1 := by omega
          have hm3 : 0 ≤ m'.dep := by have := (HRN.out.dep pn m' hm').1; exact this
          have HMD := Lib.hid hmd
          have HPN := Lib.hid hpn
          simp only [hpn]
          clear hg6 hp hpn hj hm' hmd hqq hsz hb nb0 nb1 hp1 hp2
          go_wp2
          go_meet
          case rel =>
            refine ⟨by rw [HPN.out], _, HD1'.out.set i _, ?_, HB1'.out.setCell (p := ⟨D, i, none⟩) (by rw [HDD.out]; exact Nat.le_refl _) _, own_set (p := ⟨D, i, none⟩) HO1.out HD1'.out (by decide) _⟩
            exact (HDS.out.put' HIK.out _).set' HIK.out HM.out _ HMD.out.symm
      case rest =>
        obtain ⟨rfl, DC', hd', hds', hb', ho'⟩ := hcut
        have HD' := Lib.hid hd'
        have HDS' := Lib.hid hds'
        have HB' := Lib.hid hb'
        have HO' := Lib.hid ho'
        have HRG : Hid (wc.rangeAt g (i * 25) (rowOf s (.slice xA xn xc) (.slice yA yn yc) (.slice zA zn zc))) := Lib.hid (fun j v hv => HCE.out j v hv wc hb')
        clear hd' hds' hb' ho' d1 d2 e0 e1 hb0
        go_upto_region 14 with fail
        refine wp_region_lit ?_
        refine list_step rfl fun K hK => ?_
        go_wp2_with fail
        refine hK _ _ trivial ?_
        clear hK K
        try simp only [Act.put, List.setIfInBounds_toArray, List.set_cons_succ, List.set_cons_zero]
        refine list_step rfl fun K hK => ?_
        go_wp2_with fail
        refine hK _ _ trivial ?_
        clear hK K
        try simp only [Act.put, List.setIfInBounds_toArray, List.set_cons_succ, List.set_cons_zero]
        refine list_step rfl fun K hK => ?_
        go_wp2_with fail
        refine hK _ _ trivial ?_
        clear hK K
        try simp only [Act.put, List.setIfInBounds_toArray, List.set_cons_succ, List.set_cons_zero]
        refine wpList_load_mid rfl 49 (.tmp 80) rfl g (i * 25) rfl (rowOf s (.slice xA xn xc) (.slice yA yn yc) (.slice zA zn zc)) _ HRG.out Tryz.underlying49 rfl size49 ?_
        try simp only [Act.put, List.setIfInBounds_toArray, List.set_cons_succ, List.set_cons_zero]
        refine list_step rfl fun K hK => ?_
        go_wp2_with fail
        refine hK _ _ trivial ?_
        clear hK K
        try simp only [Act.put, List.setIfInBounds_toArray, List.set_cons_succ, List.set_cons_zero]
        refine wpList_store_new rfl 49 (.tmp 10) (.tmp 81) rfl _ (rowOf s (.slice xA xn xc) (.slice yA yn yc) (.slice zA zn zc)).toArray _ rfl rfl rfl size49 rfl H1A.out ?_
        try simp only [Act.put, List.setIfInBounds_toArray, List.set_cons_succ, List.set_cons_zero]
        go_upto_region 15 with fail
        generalize hW3 : wc.alloc _ = W3
        obtain ⟨pb, hpb⟩ : ∃ pb, pb = wc.heap.size := ⟨_, rfl⟩
        rw [← hpb]
        have hP3 : W3.heap[pb]? = some (.cells (rowOf s (.slice xA xn xc) (.slice yA yn yc) (.slice zA zn zc)).toArray 49 (0, 0)) := by rw [← hW3, hpb]; exact heap_alloc_new wc _
        have hb3 : Below wc.heap.size wc W3 := by rw [← hW3]; exact (Below.refl _ _).alloc (Nat.le_refl _) _
        have hz3 : W3.heap.size = wc.heap.size + 1 := by rw [← hW3]; simp
        have hD3 : DepIs W3 D DC' := HD'.out.below hb3
        have hO3 : W3.ownsRow w.heap.size 52 6 (.slice A k c) k (cellsN (N.take k)) := own_below HO'.out hb3
        have hbw3 : Below w.heap.size w W3 := HB'.out.trans (hb3.mono HB'.out.size)
        have hR3 : RdV W3 (.slice xA xn xc) s.lb ∧ RdV W3 (.slice yA yn yc) s.db ∧ RdV W3 (.slice zA zn zc) s.tb := ⟨HR1.out.1.below hbw3, HR1.out.2.1.below hbw3, HR1.out.2.2.below hbw3⟩
        have hdm : DC'[i]? = some (.int .i64 m.dep) := by have := HDS'.out.2 k m (Nat.lt_succ_self k) HM.out; rw [← HIK.out] at this; exact this
        obtain ⟨SS, hSS⟩ : ∃ SS : World → Prop, SS = fun w' => (w'.cell? ⟨pb, 1, none⟩ = some (.int .i64 (tt : Nat)) ∧ w'.cell? ⟨pb, 2, none⟩ = some (.slice xA xn xc) ∧ w'.cell? ⟨pb, 18, none⟩ = some (.slice yA yn yc) ∧ w'.cell? ⟨pb, 19, none⟩ = some (.slice zA zn zc) ∧ w'.cell? ⟨pb, 20, none⟩ = some (.bool s.tb.isSome)) ∧ w'.cell? ⟨D, i, none⟩ = some (.int .i64 m.dep) ∧ (RdV w' (.slice xA xn xc) s.lb ∧ RdV w' (.slice yA yn yc) s.db ∧ RdV w' (.slice zA zn zc) s.tb) := ⟨_, rfl⟩
        have HSS : Hid (∀ w', (w'.heap[pb]? = W3.heap[pb]? ∧ w'.heap[D]? = W3.heap[D]? ∧ Keep5 W3 w') → SS w') := by
          rw [hSS]
          refine Lib.hid fun w' hc => ?_
          have h1 := hc.1.trans hP3
          have h2 := hc.2.1.trans hD3
          exact ⟨⟨(Lib.cell_of_heap h1 1).trans (by rw [← HTT.out]; rfl), (Lib.cell_of_heap h1 2).trans rfl, (Lib.cell_of_heap h1 18).trans rfl, (Lib.cell_of_heap h1 19).trans rfl, (Lib.cell_of_heap h1 20).trans rfl⟩, (Lib.cell_of_heap h2 i).trans hdm, hR3.1.keep hc.2.2, hR3.2.1.keep hc.2.2, hR3.2.2.keep hc.2.2⟩
        have sf1 : ∀ u : SW SS, (u.x).cell? ⟨pb, 1, none⟩ = some (.int .i64 (tt : Nat)) := fun u => by obtain ⟨x, hx⟩ := u; show x.cell? _ = _; rw [hSS] at hx; exact hx.1.1
        have sf2 : ∀ u : SW SS, (u.x).cell? ⟨pb, 2, none⟩ = some (.slice xA xn xc) := fun u => by obtain ⟨x, hx⟩ := u; show x.cell? _ = _; rw [hSS] at hx; exact hx.1.2.1
        have sf18 : ∀ u : SW SS, (u.x).cell? ⟨pb, 18, none⟩ = some (.slice yA yn yc) := fun u => by obtain ⟨x, hx⟩ := u; show x.cell? _ = _; rw [hSS] at hx; exact hx.1.2.2.1
        have sf19 : ∀ u : SW SS, (u.x).cell? ⟨pb, 19, none⟩ = some (.slice zA zn zc) := fun u => by obtain ⟨x, hx⟩ := u; show x.cell? _ = _; rw [hSS] at hx; exact hx.1.2.2.2.1
        have sf20 : ∀ u : SW SS, (u.x).cell? ⟨pb, 20, none⟩ = some (.bool s.tb.isSome) := fun u => by obtain ⟨x, hx⟩ := u; show x.cell? _ = _; rw [hSS] at hx; exact hx.1.2.2.2.2
        have sfd : ∀ u : SW SS, (u.x).cell? ⟨D, i, none⟩ = some (.int .i64 m.dep) := fun u => by obtain ⟨x, hx⟩ := u; show x.cell? _ = _; rw [hSS] at hx; exact hx.2.1
        have sc1 : ∀ u : SW SS, (convert 34 9 (.slice xA xn xc)).run Tryz.prog (u.x) = .ok (strV (s.lb.getD [])) (u.x) := fun u => by obtain ⟨x, hx⟩ := u; show (convert 34 9 _).run Tryz.prog x = _; rw [hSS] at hx; exact conv_v hx.2.2.1
        have sc2 : ∀ u : SW SS, (convert 34 9 (.slice yA yn yc)).run Tryz.prog (u.x) = .ok (strV (s.db.getD [])) (u.x) := fun u => by obtain ⟨x, hx⟩ := u; show (convert 34 9 _).run Tryz.prog x = _; rw [hSS] at hx; exact conv_v hx.2.2.2.1
        have sc3 : ∀ u : SW SS, (convert 34 9 (.slice zA zn zc)).run Tryz.prog (u.x) = .ok (strV (s.tb.getD [])) (u.x) := fun u => by obtain ⟨x, hx⟩ := u; show (convert 34 9 _).run Tryz.prog x = _; rw [hSS] at hx; exact conv_v hx.2.2.2.2
        have HW3 : Hid (pb < W3.heap.size ∧ D < W3.heap.size ∧ w.heap.size ≤ W3.heap.size) := Lib.hid ⟨by omega, (Array.getElem?_eq_some_iff.1 hD3).1, hbw3.size⟩
        have HP3 := Lib.hid hP3
        have HD3 := Lib.hid hD3
        have HO3 := Lib.hid hO3
        have HBW3 := Lib.hid hbw3
        have HCL : Hid (∀ w', w'.heap[pb]? = W3.heap[pb]? → w'.heap[D]? = W3.heap[D]? → Keep5 W3 w' → SS w') := Lib.hid (fun w' a b c => HSS.out w' ⟨a, b, c⟩)
        clear hW3 hpb hP3 hb3 hz3 hD3 hO3 hbw3 hR3 hdm hSS HSS
        refine wp_region_noPanic (wp_region_held (S := fun w' => ∃ u : SW SS, w' = u.x) hmix ?_)
        generalize hW2 : ({ W3 with drawn := W3.drawn + 1 } : World) = W2
        have hbz : Below W3.heap.size W3 W2 := by rw [← hW2]; exact bdn (Below.refl _ _) 1
        have hsz2 : W2.heap = W3.heap := by rw [← hW2]
        have HZ2 := Lib.hid hbz
        have HSZ := Lib.hid hsz2
        have hs2 : SS W2 := HCL.out W2 (by rw [hsz2]) (by rw [hsz2]) (keep5_below hbz)
        clear hW2 hbz hsz2
        refine anyH_readM (i := 0) rfl (by kernel_rfl) (by kernel_rfl) (by kernel_rfl) rfl rfl ⟨⟨_, hs2⟩, rfl⟩ noPanic_any fun K hK => ?_
        go_big_quiet_op
        (try refine ⟨_, fun _ => rfl, ?_⟩)
        refine hK _ ?_
        clear hK K
        try simp only [Act.put, List.setIfInBounds_toArray, List.set_cons_succ, List.set_cons_zero]
        refine anyH_readM (i := 1) rfl (by kernel_rfl) (by kernel_rfl) (by kernel_rfl) rfl rfl ⟨⟨_, hs2⟩, rfl⟩ noPanic_any fun K hK => ?_
        go_big_quiet_op
        (try refine ⟨_, fun _ => rfl, ?_⟩)
        refine hK _ ?_
        clear hK K
        try simp only [Act.put, List.setIfInBounds_toArray, List.set_cons_succ, List.set_cons_zero]
        refine anyH_readM (i := 2) rfl (by kernel_rfl) (by kernel_rfl) (by kernel_rfl) rfl rfl ⟨⟨_, hs2⟩, rfl⟩ noPanic_any fun K hK => ?_
        go_big_quiet_op
        (try refine ⟨_, fun _ => rfl, ?_⟩)
        refine hK _ ?_
        clear hK K
        try simp only [Act.put, List.setIfInBounds_toArray, List.set_cons_succ, List.set_cons_zero]
        refine anyH_readM (i := 3) rfl (by kernel_rfl) (by kernel_rfl) (by kernel_rfl) rfl rfl ⟨⟨_, hs2⟩, rfl⟩ noPanic_any fun K hK => ?_
        go_big_quiet_op
        (try refine ⟨_, fun _ => rfl, ?_⟩)
        refine hK _ ?_
        clear hK K
        try simp only [Act.put, List.setIfInBounds_toArray, List.set_cons_succ, List.set_cons_zero]
        refine anyH_readM (i := 4) rfl (by kernel_rfl) (by kernel_rfl) (by kernel_rfl) rfl rfl ⟨⟨_, hs2⟩, rfl⟩ noPanic_any fun K hK => ?_
        go_big_quiet_op
        (try refine ⟨_, fun _ => rfl, ?_⟩)
        refine hK _ ?_
        clear hK K
        try simp only [Act.put, List.setIfInBounds_toArray, List.set_cons_succ, List.set_cons_zero]
        refine anyH_readM (i := 5) rfl (by kernel_rfl) (by kernel_rfl) (by kernel_rfl) rfl rfl ⟨⟨_, hs2⟩, rfl⟩ noPanic_any fun K hK => ?_
        go_big_quiet_op
        (try refine ⟨_, fun _ => rfl, ?_⟩)
        refine hK _ ?_
        clear hK K
        try simp only [Act.put, List.setIfInBounds_toArray, List.set_cons_succ, List.set_cons_zero]
        refine anyH_readM (i := 6) rfl (by kernel_rfl) (by kernel_rfl) (by kernel_rfl) rfl rfl ⟨⟨_, hs2⟩, rfl⟩ noPanic_any fun K hK => ?_
        go_big_quiet_op
        (try refine ⟨_, fun _ => rfl, ?_⟩)
        refine hK _ ?_
        clear hK K
        try simp only [Act.put, List.setIfInBounds_toArray, List.set_cons_succ, List.set_cons_zero]
        refine anyH_readM (i := 7) rfl (by kernel_rfl) (by kernel_rfl) (by kernel_rfl) rfl rfl ⟨⟨_, hs2⟩, rfl⟩ noPanic_any fun K hK => ?_
        go_big_quiet_op
        (try refine ⟨_, fun _ => rfl, ?_⟩)
        refine hK _ ?_
        clear hK K
        try simp only [Act.put, List.setIfInBounds_toArray, List.set_cons_succ, List.set_cons_zero]
        refine anyH_readM (i := 8) rfl (by kernel_rfl) (by kernel_rfl) (by kernel_rfl) rfl rfl ⟨⟨_, hs2⟩, rfl⟩ noPanic_any fun K hK => ?_
        go_big_quiet_op
        (try refine ⟨_, fun _ => rfl, ?_⟩)
        refine hK _ ?_
        clear hK K
        try simp only [Act.put, List.setIfInBounds_toArray, List.set_cons_succ, List.set_cons_zero]
        refine anyH_readM (i := 9) rfl (by kernel_rfl) (by kernel_rfl) (by kernel_rfl) rfl rfl ⟨⟨_, hs2⟩, rfl⟩ noPanic_any fun K hK => ?_
        go_big_quiet_op
        (try refine ⟨_, fun _ => rfl, ?_⟩)
        refine hK _ ?_
        clear hK K
        try simp only [Act.put, List.setIfInBounds_toArray, List.set_cons_succ, List.set_cons_zero]
        refine anyH_readM (i := 10) rfl (by kernel_rfl) (by kernel_rfl) (by kernel_rfl) rfl rfl ⟨⟨_, hs2⟩, rfl⟩ noPanic_any fun K hK => ?_
        go_big_quiet_op
        (try refine ⟨_, fun _ => rfl, ?_⟩)
        refine hK _ ?_
        clear hK K
        try simp only [Act.put, List.setIfInBounds_toArray, List.set_cons_succ, List.set_cons_zero]
        refine anyH_readM (i := 11) rfl (by kernel_rfl) (by kernel_rfl) (by kernel_rfl) rfl rfl ⟨⟨_, hs2⟩, rfl⟩ noPanic_any fun K hK => ?_
        go_big_quiet_op
        (try refine ⟨_, fun _ => rfl, ?_⟩)
        refine hK _ ?_
        clear hK K
        try simp only [Act.put, List.setIfInBounds_toArray, List.set_cons_succ, List.set_cons_zero]
        refine anyH_readM (i := 12) rfl (by kernel_rfl) (by kernel_rfl) (by kernel_rfl) rfl rfl ⟨⟨_, hs2⟩, rfl⟩ noPanic_any fun K hK => ?_
        go_big_quiet_op
        (try refine ⟨_, fun _ => rfl, ?_⟩)
        refine hK _ ?_
        clear hK K
        try simp only [Act.put, List.setIfInBounds_toArray, List.set_cons_succ, List.set_cons_zero]
        refine anyH_readM (i := 13) rfl (by kernel_rfl) (by kernel_rfl) (by kernel_rfl) rfl rfl ⟨⟨_, hs2⟩, rfl⟩ noPanic_any fun K hK => ?_
        go_big_quiet_op
        (try refine ⟨_, fun _ => rfl, ?_⟩)
        refine hK _ ?_
        clear hK K
        try simp only [Act.put, List.setIfInBounds_toArray, List.set_cons_succ, List.set_cons_zero]
        refine anyH_readM (i := 14) rfl (by kernel_rfl) (by kernel_rfl) (by kernel_rfl) rfl rfl ⟨⟨_, hs2⟩, rfl⟩ noPanic_any fun K hK => ?_
        go_big_quiet_op
        (try refine ⟨_, fun _ => rfl, ?_⟩)
        refine hK _ ?_
        clear hK K
        try simp only [Act.put, List.setIfInBounds_toArray, List.set_cons_succ, List.set_cons_zero]
        refine anyH_readM (i := 15) rfl (by kernel_rfl) (by kernel_rfl) (by kernel_rfl) rfl rfl ⟨⟨_, hs2⟩, rfl⟩ noPanic_any fun K hK => ?_
        go_big_quiet_op
        (try refine ⟨_, fun _ => rfl, ?_⟩)
        refine hK _ ?_
        clear hK K
        try simp only [Act.put, List.setIfInBounds_toArray, List.set_cons_succ, List.set_cons_zero]
        refine anyH_readM (i := 16) rfl (by kernel_rfl) (by kernel_rfl) (by kernel_rfl) rfl rfl ⟨⟨_, hs2⟩, rfl⟩ noPanic_any fun K hK => ?_
        go_big_quiet_op
        (try refine ⟨_, fun _ => rfl, ?_⟩)
        refine hK _ ?_
        clear hK K
        try simp only [Act.put, List.setIfInBounds_toArray, List.set_cons_succ, List.set_cons_zero]
        refine anyH_readM (i := 17) rfl (by kernel_rfl) (by kernel_rfl) (by kernel_rfl) rfl rfl ⟨⟨_, hs2⟩, rfl⟩ noPanic_any fun K hK => ?_
        go_big_quiet_op
        (try refine ⟨_, fun _ => rfl, ?_⟩)
        refine hK _ ?_
        clear hK K
        try simp only [Act.put, List.setIfInBounds_toArray, List.set_cons_succ, List.set_cons_zero]
        refine anyH_readM (i := 18) rfl (by kernel_rfl) (by kernel_rfl) (by kernel_rfl) rfl rfl ⟨⟨_, hs2⟩, rfl⟩ noPanic_any fun K hK => ?_
        go_big_quiet_op
        (try refine ⟨_, fun _ => rfl, ?_⟩)
        refine hK _ ?_
        clear hK K
        try simp only [Act.put, List.setIfInBounds_toArray, List.set_cons_succ, List.set_cons_zero]
        have hk2 : Keep5 W3 W2 := fun g C fz h => by rw [HSZ.out]
        have hw3 := HW3.out
        refine anyH_step (i := 19) rfl (by kernel_rfl) rfl fun K hK => ?_
        go_wp2_with fail
        refine hK _ _ ⟨⟨_, HCL.out _ ((Below.heap_alloc _ _ pb (by rw [HSZ.out]; exact HW3.out.1)).trans (by rw [HSZ.out])) ((Below.heap_alloc _ _ D (by rw [HSZ.out]; exact HW3.out.2.1)).trans (by rw [HSZ.out])) (hk2.trans (Keep5.alloc W2 _))⟩, rfl⟩ ?_
        clear hK K
        try simp only [Act.put, List.setIfInBounds_toArray, List.set_cons_succ, List.set_cons_zero]
        have h1m : ∀ u ∈ ([.int .i64 m.dep, .int .i64 (tt : Nat), strV (s.lb.getD []), strV (s.db.getD []), strV (s.tb.getD []), .bool s.tb.isSome] : List Value), u.oneCell' = true := fun u hu => cellsN_one [⟨m.dep, (tt : Nat), s.lb.getD [], s.db.getD [], s.tb.getD [], s.tb.isSome⟩] u (by simpa [cellsN, InN.vals] using hu)
        have H1M := Lib.hid h1m
        have HK2 := Lib.hid hk2
        clear h1m hk2
        refine anyH_step (i := 20) rfl (by kernel_rfl) rfl fun K hK => ?_
        refine wp_append_lies _ _ _ 25 rfl w.heap.size 52 i0 _ 6 72 Tryz.underlying25 hi0 hz0 hz1 hz2 rfl (by decide) (.slice A k c) k (cellsN (N.take k)) rfl ((own_below HO3.out HZ2.out).alloc _) ⟨_, 0, none⟩ 1 1 [.int .i64 m.dep, .int .i64 (tt : Nat), strV (s.lb.getD []), strV (s.db.getD []), strV (s.tb.getD []), .bool s.tb.isSome] rfl rfl (World.news_of_block (cs := ([.int .i64 m.dep, .int .i64 (tt : Nat), strV (s.lb.getD []), strV (s.db.getD []), strV (s.tb.getD []), .bool s.tb.isSome] : List Value).toArray) (heap_alloc_new W2 _)) H1M.out (by decide) ?qc2 ?qc3 ?qc4 _ rfl ?_
        case qc2 => unfold maxLen; have := HIK.out; omega
        case qc3 => have := HIK.out; omega
        case qc4 => have h1 := HW3.out.2.2; have h2 := congrArg Array.size HSZ.out; simp; omega
        intro gg cap2 w4 hown hgrow hat hlt
        have hO2 : (W2.alloc (.cells ([.int .i64 m.dep, .int .i64 (tt : Nat), strV (s.lb.getD []), strV (s.db.getD []), strV (s.tb.getD []), .bool s.tb.isSome] : List Value).toArray 52)).ownsRow w.heap.size 52 6 (.slice A k c) k (cellsN (N.take k)) := (own_below HO3.out HZ2.out).alloc _
        have hp2 : (W2.alloc (.cells ([.int .i64 m.dep, .int .i64 (tt : Nat), strV (s.lb.getD []), strV (s.db.getD []), strV (s.tb.getD []), .bool s.tb.isSome] : List Value).toArray 52)).heap[pb]? = some (.cells (rowOf s (.slice xA xn xc) (.slice yA yn yc) (.slice zA zn zc)).toArray 49 (0, 0)) := (Below.heap_alloc W2 (.cells ([.int .i64 m.dep, .int .i64 (tt : Nat), strV (s.lb.getD []), strV (s.db.getD []), strV (s.tb.getD []), .bool s.tb.isSome] : List Value).toArray 52) pb (by rw [HSZ.out]; exact HW3.out.1)).trans (by rw [HSZ.out]; exact HP3.out)
        have hD2 : (W2.alloc (.cells ([.int .i64 m.dep, .int .i64 (tt : Nat), strV (s.lb.getD []), strV (s.db.getD []), strV (s.tb.getD []), .bool s.tb.isSome] : List Value).toArray 52)).heap[D]? = some (.cells DC' 3 (0, 0)) := (Below.heap_alloc W2 (.cells ([.int .i64 m.dep, .int .i64 (tt : Nat), strV (s.lb.getD []), strV (s.db.getD []), strV (s.tb.getD []), .bool s.tb.isSome] : List Value).toArray 52) D (by rw [HSZ.out]; exact HW3.out.2.1)).trans (by rw [HSZ.out]; exact HD3.out)
        have hp4 : w4.heap[pb]? = some (.cells (rowOf s (.slice xA xn xc) (.slice yA yn yc) (.slice zA zn zc)).toArray 49 (0, 0)) := (hgrow.block pb (Array.getElem?_eq_some_iff.1 hp2).1 (own_ne hO2 hp2 (by decide))).trans hp2
        have hD4 : DepIs w4 D DC' := (hgrow.block D (Array.getElem?_eq_some_iff.1 hD2).1 (own_ne hO2 hD2 (by decide))).trans hD2
        have hk4 : Keep5 W3 w4 := (HK2.out.trans (Keep5.alloc W2 _)).trans (keep5_grown hO2 (by decide) hgrow)
        have hs4 : SS w4 := HCL.out w4 (hp4.trans HP3.out.symm) (hD4.trans HD3.out.symm) hk4
        have hb4 : Below w.heap.size w w4 := by
          have h1 : Below w.heap.size w W2 := HBW3.out.trans (HZ2.out.mono HBW3.out.size)
          exact (h1.alloc h1.size _).grown hgrow (by have := h1.size; simp; omega) (fun b hb => (hO2.lt b hb).1)
        have HS4 := Lib.hid hs4
        have HB4 := Lib.hid hb4
        have HD4 := Lib.hid hD4
        have HOWN : Hid (w4.ownsRow w.heap.size 52 6 (.slice (some ⟨gg, 0, none⟩) (k + 1) cap2) (k + 1) (cellsN (N.take (k + 1)))) := Lib.hid (by
          have e : N.take (k + 1) = N.take k ++ [⟨m.dep, (tt : Nat), s.lb.getD [], s.db.getD [], s.tb.getD [], s.tb.isSome⟩] := by
            rw [List.take_add_one, HM.out]
            congr 1
            obtain ⟨g1, g2, g3, g4, g5, -⟩ := HG.out
            rw [← HTT.out, ← g1, ← g2, ← g3, ← g4, ← g5]
            rfl
          rw [e, cellsN_app]
          exact hown)
        refine hK _ _ ⟨⟨_, HS4.out⟩, rfl⟩ ?_
        clear hK K hown hgrow hat hlt hO2 hp2 hD2 hp4 hD4 hk4 hs4 hb4
        try simp only [Act.put, List.setIfInBounds_toArray, List.set_cons_succ, List.set_cons_zero]
        refine anyH_step (i := 21) rfl (by kernel_rfl) rfl fun K hK => ?_
        go_wp2_with fail
        refine hK _ _ ⟨⟨_, HS4.out⟩, rfl⟩ ?_
        clear hK K
        try simp only [Act.put, List.setIfInBounds_toArray, List.set_cons_succ, List.set_cons_zero]
        refine wpAnyH_done (by kernel_rfl) (NoPanic.normal ?_) _
        go_wp2_with fail
        go_roundg (n - k)
        case measure => have := HQ.out; have := HIK.out; omega
        case rel => exact ⟨i + 1, k + 1, _, cap2, DC', by go_num, by rw [HIK.out], rfl, by have := HQ.out; have := HIK.out; omega, by have := HIK.out; omega, HOWN.out, HD4.out, HDS'.out, HB4.out⟩
    · have hkn : k = N.length := by have := HN.out; have := HIK.out; omega
      have hO : wr.ownsRow w.heap.size 52 6 (.slice A k c) N.length (cellsN N) := by have := HO.out; rw [hkn, List.take_length] at this; rw [hkn]; exact this
      have H19 : Hid (Calls Tryz.prog 19 #[.slice A k c] wr fun r w' => ∃ v', r = .returned v' ∧ OwnN w' wr.heap.size v' (joined N) ∧ Below wr.heap.size wr w') := Lib.hid (joined19 _ N (by have := HN.out; omega) (by have := HLS.out; omega) wr (OwnN.rd (B := w.heap.size) hO))
      obtain rfl : i = n := by have := HIK.out; omega
      clear hkn hO hk hik
      go_wp2_with (go_at_call 19; refine H19.out.mono ?_; rintro r w19 ⟨v', rfl, hown, hb19⟩; have HOWN := Lib.hid hown; have HB19 := Lib.hid hb19; clear hown hb19)
      go_ret2
      exact ⟨v', rfl, own_base' HOWN.out HB.out.size, HB.out.trans (HB19.out.mono HB.out.size)⟩
end Go.Proofs.YtalajbfpilhfgaaGreatDoor
