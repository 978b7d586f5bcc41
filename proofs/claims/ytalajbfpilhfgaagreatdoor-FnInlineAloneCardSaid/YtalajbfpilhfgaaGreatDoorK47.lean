/-
  FnInlineAlone: the line of pieces (6): its text, and its nodes, where all pieces are right.
-/
import Derived.Test.YtalajbfpilhfgaaGreatDoorK45
import Derived.Test.YtalajbfpilhfgaaGreatDoorK46
import Derived.OwnWalk
set_option linter.unusedVariables false
set_option linter.unusedSimpArgs false
namespace Go.Proofs.YtalajbfpilhfgaaGreatDoor
open Go.RowKit

theorem own_base {w : World} {B B' e s n : Nat} {v : Value} {xs : List Value} (h : w.ownsRow B e s v n xs) (hB : B' ≤ B) : w.ownsRow B' e s v n xs := by
  refine ⟨h.1, ?_⟩
  rcases h.2 with h0 | ⟨g, cap, cur, hv, hb, hr⟩
  · exact .inl h0
  · exact .inr ⟨g, cap, cur, hv, Nat.le_trans hB hb, hr⟩
def LineRel (w : World) (ext : Nat) (l : List Pc) (n : Nat) (i : Nat) (T : Bs) (m : Nat) (A : Option Addr) (c : Nat) (out : List InN) (bg : Bool) (wr : World) : Prop :=
  m = out.length ∧ wr.ownsRow w.heap.size 52 6 (.slice A m c) m (cellsN out) ∧ Below w.heap.size w wr ∧ T ++ lineW (l.drop i) = lineW l ∧ out ++ lineM ext (l.drop i) = lineM ext l ∧ (AllRight ext bg (l.drop i) → AllRight ext true l) ∧
  (i = 0 → bg = true) ∧ (∀ p, 0 < i → l[i - 1]? = some p → bg = decide (p.sep ≠ 0)) ∧ T.length ≤ 403 * i ∧ m ≤ 6 * i ∧ litSum out ≤ 403 * i
set_option maxRecDepth 100000 in
set_option maxHeartbeats 16000000 in
theorem line6 (A : Option Addr) (n c : Nat) (l : List Pc) (ext : Nat) (w : World) (hR : RdP w A n c l) (hn0 : 0 < n) (hn : n ≤ 24) (hf : FitP l) (hx : ext ≤ 131070) :
    Calls Tryz.prog 6 #[.slice A n c, .int .i64 ext] w fun r w' => Below w.heap.size w w' ∧ ((∃ u v, r = .returned (.tuple #[u, v, .bool false])) ∨ (AllRight ext true l ∧ ∃ v, r = .returned (.tuple #[strV (lineW l), v, .bool true]) ∧ OwnN w' w.heap.size v (joined (lineM ext l)))) := by
  obtain ⟨i0, hi0, hz0, hz1, hz2⟩ := info_parts info52
  obtain ⟨hnl, hc1, hc2, h1⟩ := hR
  have HN := Lib.hid hnl
  have H1 := Lib.hid h1
  have HF := Lib.hid hf
  have H13 : Hid (∀ (p : Pc) (bg : Bool) (W : World), (p.a.length ≤ 1000000000000 ∧ p.b.length ≤ 1000000000000 ∧ p.c.length ≤ 1000000000000) → Calls Tryz.prog 13 #[.agg #[.int .i64 p.kind, .int .i64 p.ch, .int .i64 p.var, .int .i64 p.sep, strV p.a, strV p.b, strV p.c], .bool bg] W fun e w' => SaysB (Right p bg) e ∧ Below W.heap.size W w') := Lib.hid (fun p bg W h => piece13 p bg h.1 h.2.1 h.2.2 W)
  have HBD := Lib.hid (Below.refl w.heap.size w)
  obtain ⟨PP, hPP⟩ : ∃ PP : Ending → World → Prop, PP = fun r w' => Below w.heap.size w w' ∧ ((∃ u v, r = .returned (.tuple #[u, v, .bool false])) ∨ (AllRight ext true l ∧ ∃ v, r = .returned (.tuple #[strV (lineW l), v, .bool true]) ∧ OwnN w' w.heap.size v (joined (lineM ext l)))) := ⟨_, rfl⟩
  have HPP := Lib.hid hPP
  show Calls Tryz.prog 6 _ w fun r w' => Below w.heap.size w w' ∧ ((∃ u v, r = .returned (.tuple #[u, v, .bool false])) ∨ (AllRight ext true l ∧ ∃ v, r = .returned (.tuple #[strV (lineW l), v, .bool true]) ∧ OwnN w' w.heap.size v (joined (lineM ext l))))
  rw [show (fun r w' => Below w.heap.size w w' ∧ ((∃ u v, r = Ending.returned (.tuple #[u, v, .bool false])) ∨ (AllRight ext true l ∧ ∃ v, r = Ending.returned (.tuple #[strV (lineW l), v, .bool true]) ∧ OwnN w' w.heap.size v (joined (lineM ext l))))) = PP from hPP.symm]
  clear hnl h1 hf hPP
  unfold maxLen at hc2
  have hmix : Tryz.prog.follows .mixedOrders = true := by kernel_rfl
  go_enter Tryz.func6, Tryz.ntmps6
  go_wp2
  go_loopg [7, 8, 13] (n + 1) (fun q v7 v8 v13 wr => ∃ (i m : Nat) (T : Bs) (A' : Option Addr) (c' : Nat) (out : List InN) (bg : Bool), v7 = strV T ∧ v8 = .slice A' m c' ∧ v13 = .int .i64 (i : Nat) ∧ q + i = n + 1 ∧ i ≤ n ∧ LineRel w ext l n i T m A' c' out bg wr)
  case atStart => exact ⟨0, 0, [], none, 0, [], true, rfl, rfl, rfl, by omega, by omega, rfl, World.ownsRow_nil _ _ _ _, HBD.out, rfl, rfl, id, fun _ => rfl, fun p h => absurd h (Nat.lt_irrefl _), by decide, by decide, by decide⟩
  case round =>
    obtain ⟨i, m, T, A', c', out, bg, rfl, rfl, rfl, hq, hi, hrel⟩ := hrel
    have HQ := Lib.hid hq
    have HRL := Lib.hid hrel
    clear hq hrel
    by_cases hin : i < n
    · obtain ⟨g, o, rfl, q1⟩ := H1.out (by omega)
      obtain ⟨x, hx'⟩ : ∃ x, l[i]? = some x := ⟨_, List.getElem?_eq_getElem (by rw [← HN.out]; exact hin)⟩
      have hb0 := HRL.out.2.2.1
      have a0 : w.cell? ⟨g, o + i * 7, none⟩ = some (.int .i64 x.kind) := q1 i x hx' 0 (by decide)
      have hg1 : g < w.heap.size := World.block_lt_of_cell? w _ a0
      have e0 : wr.cell? ⟨g, o + i * 7, none⟩ = some (.int .i64 x.kind) := (hb0.cell (p := ⟨g, o + i * 7, none⟩) hg1).trans (q1 i x hx' 0 (by decide))
      have e1 : wr.cell? ⟨g, o + i * 7 + 1, none⟩ = some (.int .i64 x.ch) := (hb0.cell (p := ⟨g, o + i * 7 + 1, none⟩) hg1).trans (q1 i x hx' 1 (by decide))
      have e2 : wr.cell? ⟨g, o + i * 7 + 2, none⟩ = some (.int .i64 x.var) := (hb0.cell (p := ⟨g, o + i * 7 + 2, none⟩) hg1).trans (q1 i x hx' 2 (by decide))
      have e3 : wr.cell? ⟨g, o + i * 7 + 3, none⟩ = some (.int .i64 x.sep) := (hb0.cell (p := ⟨g, o + i * 7 + 3, none⟩) hg1).trans (q1 i x hx' 3 (by decide))
      have e4 : wr.cell? ⟨g, o + i * 7 + 4, none⟩ = some (strV x.a) := (hb0.cell (p := ⟨g, o + i * 7 + 4, none⟩) hg1).trans (q1 i x hx' 4 (by decide))
      have e5 : wr.cell? ⟨g, o + i * 7 + 5, none⟩ = some (strV x.b) := (hb0.cell (p := ⟨g, o + i * 7 + 5, none⟩) hg1).trans (q1 i x hx' 5 (by decide))
      have e6 : wr.cell? ⟨g, o + i * 7 + 6, none⟩ = some (strV x.c) := (hb0.cell (p := ⟨g, o + i * 7 + 6, none⟩) hg1).trans (q1 i x hx' 6 (by decide))
      have HX := Lib.hid hx'
      have HFX : Hid (x.a.length ≤ 1000000000000 ∧ x.b.length ≤ 1000000000000 ∧ x.c.length ≤ 1000000000000) := Lib.hid (by have := HF.out x (List.mem_of_getElem? hx'); omega)
      clear a0 hx' hb0
      go_upto_region 6 with fail
      generalize hW : wr.alloc _ = W
      have hz0' : W.heap.size = wr.heap.size + 1 := by rw [← hW]; simp
      have hbW : Below wr.heap.size wr W := by rw [← hW]; exact (Below.refl _ _).alloc (Nat.le_refl _) _
      have hpb : W.heap[wr.heap.size]? = some (.cells x.vals.toArray 37 (0, 0)) := by rw [← hW]; exact heap_alloc_new wr _
      have p0 : W.cell? ⟨wr.heap.size, 0, none⟩ = some (.int .i64 x.kind) := (Lib.cell_of_heap hpb 0).trans rfl
      have p1 : W.cell? ⟨wr.heap.size, 1, none⟩ = some (.int .i64 x.ch) := (Lib.cell_of_heap hpb 1).trans rfl
      have p2 : W.cell? ⟨wr.heap.size, 2, none⟩ = some (.int .i64 x.var) := (Lib.cell_of_heap hpb 2).trans rfl
      have p3 : W.cell? ⟨wr.heap.size, 3, none⟩ = some (.int .i64 x.sep) := (Lib.cell_of_heap hpb 3).trans rfl
      have p4 : W.cell? ⟨wr.heap.size, 4, none⟩ = some (strV x.a) := (Lib.cell_of_heap hpb 4).trans rfl
      have p5 : W.cell? ⟨wr.heap.size, 5, none⟩ = some (strV x.b) := (Lib.cell_of_heap hpb 5).trans rfl
      have p6 : W.cell? ⟨wr.heap.size, 6, none⟩ = some (strV x.c) := (Lib.cell_of_heap hpb 6).trans rfl
      obtain ⟨SS, hSS⟩ : ∃ SS : World → Prop, SS = fun w' => w'.cell? ⟨wr.heap.size, 0, none⟩ = some (.int .i64 x.kind) ∧ w'.cell? ⟨wr.heap.size, 1, none⟩ = some (.int .i64 x.ch) ∧ w'.cell? ⟨wr.heap.size, 2, none⟩ = some (.int .i64 x.var) ∧ w'.cell? ⟨wr.heap.size, 3, none⟩ = some (.int .i64 x.sep) ∧ w'.cell? ⟨wr.heap.size, 4, none⟩ = some (strV x.a) ∧ w'.cell? ⟨wr.heap.size, 5, none⟩ = some (strV x.b) ∧ w'.cell? ⟨wr.heap.size, 6, none⟩ = some (strV x.c) := ⟨_, rfl⟩
      have HSS : Hid (∀ w', Below W.heap.size W w' → SS w') := by
        rw [hSS]
        refine Lib.hid fun w' hb => ?_
        have hl : wr.heap.size < W.heap.size := by omega
        exact ⟨(hb.cell (p := ⟨wr.heap.size, 0, none⟩) hl).trans p0, (hb.cell (p := ⟨wr.heap.size, 1, none⟩) hl).trans p1, (hb.cell (p := ⟨wr.heap.size, 2, none⟩) hl).trans p2, (hb.cell (p := ⟨wr.heap.size, 3, none⟩) hl).trans p3, (hb.cell (p := ⟨wr.heap.size, 4, none⟩) hl).trans p4, (hb.cell (p := ⟨wr.heap.size, 5, none⟩) hl).trans p5, (hb.cell (p := ⟨wr.heap.size, 6, none⟩) hl).trans p6⟩
      have sf0 : ∀ u : SW SS, (u.x).cell? ⟨wr.heap.size, 0, none⟩ = some (.int .i64 x.kind) := fun u => by obtain ⟨x, hx⟩ := u; show x.cell? _ = _; rw [hSS] at hx; exact hx.1
      have sf1 : ∀ u : SW SS, (u.x).cell? ⟨wr.heap.size, 1, none⟩ = some (.int .i64 x.ch) := fun u => by obtain ⟨x, hx⟩ := u; show x.cell? _ = _; rw [hSS] at hx; exact hx.2.1
      have sf2 : ∀ u : SW SS, (u.x).cell? ⟨wr.heap.size, 2, none⟩ = some (.int .i64 x.var) := fun u => by obtain ⟨x, hx⟩ := u; show x.cell? _ = _; rw [hSS] at hx; exact hx.2.2.1
      have sf3 : ∀ u : SW SS, (u.x).cell? ⟨wr.heap.size, 3, none⟩ = some (.int .i64 x.sep) := fun u => by obtain ⟨x, hx⟩ := u; show x.cell? _ = _; rw [hSS] at hx; exact hx.2.2.2.1
      have sf4 : ∀ u : SW SS, (u.x).cell? ⟨wr.heap.size, 4, none⟩ = some (strV x.a) := fun u => by obtain ⟨x, hx⟩ := u; show x.cell? _ = _; rw [hSS] at hx; exact hx.2.2.2.2.1
      have sf5 : ∀ u : SW SS, (u.x).cell? ⟨wr.heap.size, 5, none⟩ = some (strV x.b) := fun u => by obtain ⟨x, hx⟩ := u; show x.cell? _ = _; rw [hSS] at hx; exact hx.2.2.2.2.2.1
      have sf6 : ∀ u : SW SS, (u.x).cell? ⟨wr.heap.size, 6, none⟩ = some (strV x.c) := fun u => by obtain ⟨x, hx⟩ := u; show x.cell? _ = _; rw [hSS] at hx; exact hx.2.2.2.2.2.2
      have HOP : Hid (∀ w', SS w' → w'.cell? ⟨wr.heap.size, 0, none⟩ = some (.int .i64 x.kind) ∧ w'.cell? ⟨wr.heap.size, 1, none⟩ = some (.int .i64 x.ch) ∧ w'.cell? ⟨wr.heap.size, 2, none⟩ = some (.int .i64 x.var) ∧ w'.cell? ⟨wr.heap.size, 3, none⟩ = some (.int .i64 x.sep) ∧ w'.cell? ⟨wr.heap.size, 4, none⟩ = some (strV x.a) ∧ w'.cell? ⟨wr.heap.size, 5, none⟩ = some (strV x.b) ∧ w'.cell? ⟨wr.heap.size, 6, none⟩ = some (strV x.c)) := by rw [hSS]; exact Lib.hid (fun w' h => h)
      clear p0 p1 p2 p3 p4 p5 p6 e0 e1 e2 e3 e4 e5 e6
      have HBW := Lib.hid hbW
      have HPB := Lib.hid hpb
      have HZ := Lib.hid hz0'
      have HWD := Lib.hid hW
      clear hW hbW hpb hz0' hSS
      have HBG0 : Hid (i = 0 → bg = true) := Lib.hid HRL.out.2.2.2.2.2.2.1
      go_cut [50] from 18 to 49 (fun v50 wx => ∃ bad : Bool, v50 = .bool bad ∧ (bad = false → Right x bg ∧ SepOk ext x) ∧ Below W.heap.size W wx)
      case first =>
        obtain ⟨b8, hE8⟩ : ∃ b, b = ext.testBit 8 := ⟨_, rfl⟩
        obtain ⟨b15, hE15⟩ : ∃ b, b = ext.testBit 15 := ⟨_, rfl⟩
        have HE8 := Lib.hid hE8
        have HE15 := Lib.hid hE15
        have H8 : Hid (∀ w, Calls Tryz.prog 14 #[.int .i64 ext, .int .i64 256] w fun r w' => r = .returned (.bool b8) ∧ w = w') := Lib.hid (fun w => by rw [hE8]; exact has14 ext 8 256 rfl (by decide) (by decide) (by omega) w)
        have H15 : Hid (∀ w, Calls Tryz.prog 14 #[.int .i64 ext, .int .i64 32768] w fun r w' => r = .returned (.bool b15) ∧ w = w') := Lib.hid (fun w => by rw [hE15]; exact has14 ext 15 32768 rfl (by decide) (by decide) (by omega) w)
        clear hE8 hE15
        refine wp_region_noPanic (wp_region_held (S := fun w' => ∃ u : SW SS, w' = u.x) hmix ?_)
        generalize hW2 : ({ W with drawn := W.drawn + 1 } : World) = W2
        have hb2 : Below W.heap.size W W2 := by rw [← hW2]; exact bdn (Below.refl _ _) 1
        clear hW2
        by_cases hi0' : i = 0
        · subst hi0'
          refine anyH_read (i := 0) rfl (by kernel_rfl) (by kernel_rfl) (by kernel_rfl) rfl rfl ⟨⟨_, HSS.out _ hb2⟩, rfl⟩ noPanic_any fun K hK => ?_
          go_big_quiet_op
          (try refine ⟨_, fun _ => rfl, ?_⟩)
          refine hK _ ?_
          clear hK K
          refine anyH_step (i := 1) rfl (by kernel_rfl) (by kernel_rfl) fun K hK => ?_
          go_wp2_with fail
          refine hK _ _ ⟨⟨_, HSS.out _ hb2⟩, rfl⟩ ?_
          clear hK K
          refine anyH_step (i := 2) rfl (by kernel_rfl) (by kernel_rfl) fun K hK => ?_
          go_wp2_with fail
          refine hK _ _ ⟨⟨_, HSS.out _ hb2⟩, rfl⟩ ?_
          clear hK K
          refine anyH_step (i := 3) rfl (by kernel_rfl) (by kernel_rfl) fun K hK => ?_
          go_wp2_with fail
          refine hK _ _ ⟨⟨_, HSS.out _ hb2⟩, rfl⟩ ?_
          clear hK K
          refine anyH_readSkip (i := 4) rfl (by kernel_rfl) (by kernel_rfl) (by kernel_rfl) (by kernel_rfl) ⟨⟨_, HSS.out _ hb2⟩, rfl⟩ noPanic_any ?_
          refine anyH_skip (i := 5) rfl (by kernel_rfl) (by kernel_rfl) ⟨⟨_, HSS.out _ hb2⟩, rfl⟩ ?_
          refine anyH_skip (i := 6) rfl (by kernel_rfl) (by kernel_rfl) ⟨⟨_, HSS.out _ hb2⟩, rfl⟩ ?_
          refine anyH_skip (i := 7) rfl (by kernel_rfl) (by kernel_rfl) ⟨⟨_, HSS.out _ hb2⟩, rfl⟩ ?_
          refine anyH_skip (i := 8) rfl (by kernel_rfl) (by kernel_rfl) ⟨⟨_, HSS.out _ hb2⟩, rfl⟩ ?_
          refine anyH_skip (i := 9) rfl (by kernel_rfl) (by kernel_rfl) ⟨⟨_, HSS.out _ hb2⟩, rfl⟩ ?_
          refine anyH_skip (i := 10) rfl (by kernel_rfl) (by kernel_rfl) ⟨⟨_, HSS.out _ hb2⟩, rfl⟩ ?_
          refine anyH_step (i := 11) rfl (by kernel_rfl) (by kernel_rfl) fun K hK => ?_
          go_wp2_with fail
          refine hK _ _ ⟨⟨_, HSS.out _ hb2⟩, rfl⟩ ?_
          clear hK K
          refine anyH_step (i := 12) rfl (by kernel_rfl) (by kernel_rfl) fun K hK => ?_
          go_wp2_with (go_at_call 13; refine (H13.out x _ _ HFX.out).mono ?_; rintro r w3 ⟨⟨b, rfl, hb⟩, hc3⟩)
          have hb3 := hb2.trans (hc3.mono hb2.size)
          refine hK _ _ ⟨⟨_, HSS.out _ hb3⟩, rfl⟩ ?_
          clear hK K
          obtain ⟨e0, e1, e2, e3, e4, e5, e6⟩ := HOP.out w3 (HSS.out w3 hb3)
          have HR := Lib.hid hb
          clear hb hc3
          cases b
          · clear HR
            refine anyH_step (i := 13) rfl (by kernel_rfl) (by kernel_rfl) fun K hK => ?_
            go_wp2_with fail
            refine hK _ _ ⟨⟨_, HSS.out _ hb3⟩, rfl⟩ ?_
            clear hK K
            refine anyH_step (i := 14) rfl (by kernel_rfl) (by kernel_rfl) fun K hK => ?_
            go_wp2_with fail
            refine hK _ _ ⟨⟨_, HSS.out _ hb3⟩, rfl⟩ ?_
            clear hK K
            refine anyH_skip (i := 15) rfl (by kernel_rfl) (by kernel_rfl) ⟨⟨_, HSS.out _ hb3⟩, rfl⟩ ?_
            refine anyH_skip (i := 16) rfl (by kernel_rfl) (by kernel_rfl) ⟨⟨_, HSS.out _ hb3⟩, rfl⟩ ?_
            refine anyH_skip (i := 17) rfl (by kernel_rfl) (by kernel_rfl) ⟨⟨_, HSS.out _ hb3⟩, rfl⟩ ?_
            refine anyH_skip (i := 18) rfl (by kernel_rfl) (by kernel_rfl) ⟨⟨_, HSS.out _ hb3⟩, rfl⟩ ?_
            refine anyH_skip (i := 19) rfl (by kernel_rfl) (by kernel_rfl) ⟨⟨_, HSS.out _ hb3⟩, rfl⟩ ?_
            refine anyH_skip (i := 20) rfl (by kernel_rfl) (by kernel_rfl) ⟨⟨_, HSS.out _ hb3⟩, rfl⟩ ?_
            refine anyH_skip (i := 21) rfl (by kernel_rfl) (by kernel_rfl) ⟨⟨_, HSS.out _ hb3⟩, rfl⟩ ?_
            refine anyH_skip (i := 22) rfl (by kernel_rfl) (by kernel_rfl) ⟨⟨_, HSS.out _ hb3⟩, rfl⟩ ?_
            refine anyH_skip (i := 23) rfl (by kernel_rfl) (by kernel_rfl) ⟨⟨_, HSS.out _ hb3⟩, rfl⟩ ?_
            refine anyH_skip (i := 24) rfl (by kernel_rfl) (by kernel_rfl) ⟨⟨_, HSS.out _ hb3⟩, rfl⟩ ?_
            refine anyH_skip (i := 25) rfl (by kernel_rfl) (by kernel_rfl) ⟨⟨_, HSS.out _ hb3⟩, rfl⟩ ?_
            refine anyH_skip (i := 26) rfl (by kernel_rfl) (by kernel_rfl) ⟨⟨_, HSS.out _ hb3⟩, rfl⟩ ?_
            refine anyH_skip (i := 27) rfl (by kernel_rfl) (by kernel_rfl) ⟨⟨_, HSS.out _ hb3⟩, rfl⟩ ?_
            refine anyH_skip (i := 28) rfl (by kernel_rfl) (by kernel_rfl) ⟨⟨_, HSS.out _ hb3⟩, rfl⟩ ?_
            refine anyH_skip (i := 29) rfl (by kernel_rfl) (by kernel_rfl) ⟨⟨_, HSS.out _ hb3⟩, rfl⟩ ?_
            refine anyH_skip (i := 30) rfl (by kernel_rfl) (by kernel_rfl) ⟨⟨_, HSS.out _ hb3⟩, rfl⟩ ?_
            refine anyH_skip (i := 31) rfl (by kernel_rfl) (by kernel_rfl) ⟨⟨_, HSS.out _ hb3⟩, rfl⟩ ?_
            refine anyH_step (i := 32) rfl (by kernel_rfl) (by kernel_rfl) fun K hK => ?_
            go_wp2_with fail
            refine hK _ _ ⟨⟨_, HSS.out _ hb3⟩, rfl⟩ ?_
            clear hK K
            refine wpAnyH_done (by kernel_rfl) (NoPanic.normal ?_) _
            go_wp2_with fail
            go_meet
            case rel => exact ⟨true, rfl, (fun h => by cases h), hb3⟩
          · have hR : Right x bg := by have := HR.out (by first | rfl | trivial); rwa [HBG0.out (by first | rfl | trivial)]
            have HR2 := Lib.hid hR
            clear HR hR
            refine anyH_step (i := 13) rfl (by kernel_rfl) (by kernel_rfl) fun K hK => ?_
            go_wp2_with fail
            refine hK _ _ ⟨⟨_, HSS.out _ hb3⟩, rfl⟩ ?_
            clear hK K
            refine anyH_step (i := 14) rfl (by kernel_rfl) (by kernel_rfl) fun K hK => ?_
            go_wp2_with fail
            refine hK _ _ ⟨⟨_, HSS.out _ hb3⟩, rfl⟩ ?_
            clear hK K
            by_cases hs3 : x.sep = 3
            · have b3 : (x.sep == 3) = true := by simpa using hs3
              have HS3 := Lib.hid hs3
              clear hs3
              refine anyH_step (i := 15) rfl (by kernel_rfl) (by kernel_rfl) fun K hK => ?_
              go_wp2_with fail
              refine hK _ _ ⟨⟨_, HSS.out _ hb3⟩, rfl⟩ ?_
              clear hK K
              refine anyH_step (i := 16) rfl (by kernel_rfl) (by kernel_rfl) fun K hK => ?_
              go_wp2_with fail
              refine hK _ _ ⟨⟨_, HSS.out _ hb3⟩, rfl⟩ ?_
              clear hK K
              refine anyH_step (i := 17) rfl (by kernel_rfl) (by kernel_rfl) fun K hK => ?_
              go_wp2_with fail
              refine hK _ _ ⟨⟨_, HSS.out _ hb3⟩, rfl⟩ ?_
              clear hK K
              refine anyH_step (i := 18) rfl (by kernel_rfl) (by kernel_rfl) fun K hK => ?_
              go_wp2_with fail
              refine hK _ _ ⟨⟨_, HSS.out _ hb3⟩, rfl⟩ ?_
              clear hK K
              by_cases hk9 : x.kind = 9
              · have b9 : (x.kind == 9) = true := by simpa using hk9
                clear hk9
                refine anyH_step (i := 19) rfl (by kernel_rfl) (by kernel_rfl) fun K hK => ?_
                go_wp2_with fail
                refine hK _ _ ⟨⟨_, HSS.out _ hb3⟩, rfl⟩ ?_
                clear hK K
                refine anyH_step (i := 20) rfl (by kernel_rfl) (by kernel_rfl) fun K hK => ?_
                go_wp2_with fail
                refine hK _ _ ⟨⟨_, HSS.out _ hb3⟩, rfl⟩ ?_
                clear hK K
                refine anyH_step (i := 21) rfl (by kernel_rfl) (by kernel_rfl) fun K hK => ?_
                go_wp2_with fail
                refine hK _ _ ⟨⟨_, HSS.out _ hb3⟩, rfl⟩ ?_
                clear hK K
                refine anyH_step (i := 22) rfl (by kernel_rfl) (by kernel_rfl) fun K hK => ?_
                go_wp2_with fail
                refine hK _ _ ⟨⟨_, HSS.out _ hb3⟩, rfl⟩ ?_
                clear hK K
                refine anyH_skip (i := 23) rfl (by kernel_rfl) (by kernel_rfl) ⟨⟨_, HSS.out _ hb3⟩, rfl⟩ ?_
                refine anyH_skip (i := 24) rfl (by kernel_rfl) (by kernel_rfl) ⟨⟨_, HSS.out _ hb3⟩, rfl⟩ ?_
                refine anyH_skip (i := 25) rfl (by kernel_rfl) (by kernel_rfl) ⟨⟨_, HSS.out _ hb3⟩, rfl⟩ ?_
                refine anyH_skip (i := 26) rfl (by kernel_rfl) (by kernel_rfl) ⟨⟨_, HSS.out _ hb3⟩, rfl⟩ ?_
                refine anyH_skip (i := 27) rfl (by kernel_rfl) (by kernel_rfl) ⟨⟨_, HSS.out _ hb3⟩, rfl⟩ ?_
                refine anyH_skip (i := 28) rfl (by kernel_rfl) (by kernel_rfl) ⟨⟨_, HSS.out _ hb3⟩, rfl⟩ ?_
                refine anyH_skip (i := 29) rfl (by kernel_rfl) (by kernel_rfl) ⟨⟨_, HSS.out _ hb3⟩, rfl⟩ ?_
                refine anyH_step (i := 30) rfl (by kernel_rfl) (by kernel_rfl) fun K hK => ?_
                go_wp2_with fail
                refine hK _ _ ⟨⟨_, HSS.out _ hb3⟩, rfl⟩ ?_
                clear hK K
                refine anyH_step (i := 31) rfl (by kernel_rfl) (by kernel_rfl) fun K hK => ?_
                go_wp2_with fail
                refine hK _ _ ⟨⟨_, HSS.out _ hb3⟩, rfl⟩ ?_
                clear hK K
                refine anyH_step (i := 32) rfl (by kernel_rfl) (by kernel_rfl) fun K hK => ?_
                go_wp2_with fail
                refine hK _ _ ⟨⟨_, HSS.out _ hb3⟩, rfl⟩ ?_
                clear hK K
                refine wpAnyH_done (by kernel_rfl) (NoPanic.normal ?_) _
                go_wp2_with fail
                go_meet
                case rel => exact ⟨true, rfl, (fun h => by cases h), hb3⟩
              · have b9 : (x.kind == 9) = false := by simpa using hk9
                have HK9 := Lib.hid hk9
                clear hk9
                refine anyH_step (i := 19) rfl (by kernel_rfl) (by kernel_rfl) fun K hK => ?_
                go_wp2_with fail
                refine hK _ _ ⟨⟨_, HSS.out _ hb3⟩, rfl⟩ ?_
                clear hK K
                refine anyH_step (i := 20) rfl (by kernel_rfl) (by kernel_rfl) fun K hK => ?_
                go_wp2_with fail
                refine hK _ _ ⟨⟨_, HSS.out _ hb3⟩, rfl⟩ ?_
                clear hK K
                refine anyH_step (i := 21) rfl (by kernel_rfl) (by kernel_rfl) fun K hK => ?_
                go_wp2_with fail
                refine hK _ _ ⟨⟨_, HSS.out _ hb3⟩, rfl⟩ ?_
                clear hK K
                refine anyH_step (i := 22) rfl (by kernel_rfl) (by kernel_rfl) fun K hK => ?_
                go_wp2_with fail
                refine hK _ _ ⟨⟨_, HSS.out _ hb3⟩, rfl⟩ ?_
                clear hK K
                refine anyH_step (i := 23) rfl (by kernel_rfl) (by kernel_rfl) fun K hK => ?_
                go_wp2_with fail
                refine hK _ _ ⟨⟨_, HSS.out _ hb3⟩, rfl⟩ ?_
                clear hK K
                refine anyH_step (i := 24) rfl (by kernel_rfl) (by kernel_rfl) fun K hK => ?_
                go_wp2_with (go_at_call 14; refine (H8.out _).mono ?_; rintro r w4 ⟨rfl, rfl⟩)
                refine hK _ _ ⟨⟨_, HSS.out _ hb3⟩, rfl⟩ ?_
                clear hK K
                cases hb8 : b8
                · have HB8 := Lib.hid hb8
                  subst hb8
                  refine anyH_step (i := 25) rfl (by kernel_rfl) (by kernel_rfl) fun K hK => ?_
                  go_wp2_with fail
                  refine hK _ _ ⟨⟨_, HSS.out _ hb3⟩, rfl⟩ ?_
                  clear hK K
                  refine anyH_skip (i := 26) rfl (by kernel_rfl) (by kernel_rfl) ⟨⟨_, HSS.out _ hb3⟩, rfl⟩ ?_
                  refine anyH_skip (i := 27) rfl (by kernel_rfl) (by kernel_rfl) ⟨⟨_, HSS.out _ hb3⟩, rfl⟩ ?_
                  refine anyH_skip (i := 28) rfl (by kernel_rfl) (by kernel_rfl) ⟨⟨_, HSS.out _ hb3⟩, rfl⟩ ?_
                  refine anyH_step (i := 29) rfl (by kernel_rfl) (by kernel_rfl) fun K hK => ?_
                  go_wp2_with fail
                  refine hK _ _ ⟨⟨_, HSS.out _ hb3⟩, rfl⟩ ?_
                  clear hK K
                  refine anyH_step (i := 30) rfl (by kernel_rfl) (by kernel_rfl) fun K hK => ?_
                  go_wp2_with fail
                  refine hK _ _ ⟨⟨_, HSS.out _ hb3⟩, rfl⟩ ?_
                  clear hK K
                  refine anyH_step (i := 31) rfl (by kernel_rfl) (by kernel_rfl) fun K hK => ?_
                  go_wp2_with fail
                  refine hK _ _ ⟨⟨_, HSS.out _ hb3⟩, rfl⟩ ?_
                  clear hK K
                  refine anyH_step (i := 32) rfl (by kernel_rfl) (by kernel_rfl) fun K hK => ?_
                  go_wp2_with fail
                  refine hK _ _ ⟨⟨_, HSS.out _ hb3⟩, rfl⟩ ?_
                  clear hK K
                  refine wpAnyH_done (by kernel_rfl) (NoPanic.normal ?_) _
                  go_wp2_with fail
                  go_meet
                  case rel => exact ⟨false, rfl, (fun _ => ⟨HR2.out, fun _ => ⟨HK9.out, fun h => by cases (HE8.out.trans h)⟩⟩), hb3⟩
                · have HB8 := Lib.hid hb8
                  subst hb8
                  refine anyH_step (i := 25) rfl (by kernel_rfl) (by kernel_rfl) fun K hK => ?_
                  go_wp2_with fail
                  refine hK _ _ ⟨⟨_, HSS.out _ hb3⟩, rfl⟩ ?_
                  clear hK K
                  refine anyH_step (i := 26) rfl (by kernel_rfl) (by kernel_rfl) fun K hK => ?_
                  go_wp2_with fail
                  refine hK _ _ ⟨⟨_, HSS.out _ hb3⟩, rfl⟩ ?_
                  clear hK K
                  refine anyH_step (i := 27) rfl (by kernel_rfl) (by kernel_rfl) fun K hK => ?_
                  go_wp2_with (go_at_call 14; refine (H15.out _).mono ?_; rintro r w5 ⟨rfl, rfl⟩)
                  refine hK _ _ ⟨⟨_, HSS.out _ hb3⟩, rfl⟩ ?_
                  clear hK K
                  cases hb15 : b15
                  · subst hb15
                    refine anyH_step (i := 28) rfl (by kernel_rfl) (by kernel_rfl) fun K hK => ?_
                    go_wp2_with fail
                    refine hK _ _ ⟨⟨_, HSS.out _ hb3⟩, rfl⟩ ?_
                    clear hK K
                    refine anyH_step (i := 29) rfl (by kernel_rfl) (by kernel_rfl) fun K hK => ?_
                    go_wp2_with fail
                    refine hK _ _ ⟨⟨_, HSS.out _ hb3⟩, rfl⟩ ?_
                    clear hK K
                    refine anyH_step (i := 30) rfl (by kernel_rfl) (by kernel_rfl) fun K hK => ?_
                    go_wp2_with fail
                    refine hK _ _ ⟨⟨_, HSS.out _ hb3⟩, rfl⟩ ?_
                    clear hK K
                    refine anyH_step (i := 31) rfl (by kernel_rfl) (by kernel_rfl) fun K hK => ?_
                    go_wp2_with fail
                    refine hK _ _ ⟨⟨_, HSS.out _ hb3⟩, rfl⟩ ?_
                    clear hK K
                    refine anyH_step (i := 32) rfl (by kernel_rfl) (by kernel_rfl) fun K hK => ?_
                    go_wp2_with fail
                    refine hK _ _ ⟨⟨_, HSS.out _ hb3⟩, rfl⟩ ?_
                    clear hK K
                    refine wpAnyH_done (by kernel_rfl) (NoPanic.normal ?_) _
                    go_wp2_with fail
                    go_meet
                    case rel => exact ⟨true, rfl, (fun h => by cases h), hb3⟩
                  · subst hb15
                    refine anyH_step (i := 28) rfl (by kernel_rfl) (by kernel_rfl) fun K hK => ?_
                    go_wp2_with fail
                    refine hK _ _ ⟨⟨_, HSS.out _ hb3⟩, rfl⟩ ?_
                    clear hK K
                    refine anyH_step (i := 29) rfl (by kernel_rfl) (by kernel_rfl) fun K hK => ?_
                    go_wp2_with fail
                    refine hK _ _ ⟨⟨_, HSS.out _ hb3⟩, rfl⟩ ?_
                    clear hK K
                    refine anyH_step (i := 30) rfl (by kernel_rfl) (by kernel_rfl) fun K hK => ?_
                    go_wp2_with fail
                    refine hK _ _ ⟨⟨_, HSS.out _ hb3⟩, rfl⟩ ?_
                    clear hK K
                    refine anyH_step (i := 31) rfl (by kernel_rfl) (by kernel_rfl) fun K hK => ?_
                    go_wp2_with fail
                    refine hK _ _ ⟨⟨_, HSS.out _ hb3⟩, rfl⟩ ?_
                    clear hK K
                    refine anyH_step (i := 32) rfl (by kernel_rfl) (by kernel_rfl) fun K hK => ?_
                    go_wp2_with fail
                    refine hK _ _ ⟨⟨_, HSS.out _ hb3⟩, rfl⟩ ?_
                    clear hK K
                    refine wpAnyH_done (by kernel_rfl) (NoPanic.normal ?_) _
                    go_wp2_with fail
                    go_meet
                    case rel => exact ⟨false, rfl, (fun _ => ⟨HR2.out, fun _ => ⟨HK9.out, fun _ => HE15.out.symm⟩⟩), hb3⟩
            · have b3 : (x.sep == 3) = false := by simpa using hs3
              have HS3 := Lib.hid hs3
              clear hs3
              refine anyH_step (i := 15) rfl (by kernel_rfl) (by kernel_rfl) fun K hK => ?_
              go_wp2_with fail
              refine hK _ _ ⟨⟨_, HSS.out _ hb3⟩, rfl⟩ ?_
              clear hK K
              refine anyH_step (i := 16) rfl (by kernel_rfl) (by kernel_rfl) fun K hK => ?_
              go_wp2_with fail
              refine hK _ _ ⟨⟨_, HSS.out _ hb3⟩, rfl⟩ ?_
              clear hK K
              refine anyH_step (i := 17) rfl (by kernel_rfl) (by kernel_rfl) fun K hK => ?_
              go_wp2_with fail
              refine hK _ _ ⟨⟨_, HSS.out _ hb3⟩, rfl⟩ ?_
              clear hK K
              refine anyH_step (i := 18) rfl (by kernel_rfl) (by kernel_rfl) fun K hK => ?_
              go_wp2_with fail
              refine hK _ _ ⟨⟨_, HSS.out _ hb3⟩, rfl⟩ ?_
              clear hK K
              refine anyH_skip (i := 19) rfl (by kernel_rfl) (by kernel_rfl) ⟨⟨_, HSS.out _ hb3⟩, rfl⟩ ?_
              refine anyH_skip (i := 20) rfl (by kernel_rfl) (by kernel_rfl) ⟨⟨_, HSS.out _ hb3⟩, rfl⟩ ?_
              refine anyH_skip (i := 21) rfl (by kernel_rfl) (by kernel_rfl) ⟨⟨_, HSS.out _ hb3⟩, rfl⟩ ?_
              refine anyH_skip (i := 22) rfl (by kernel_rfl) (by kernel_rfl) ⟨⟨_, HSS.out _ hb3⟩, rfl⟩ ?_
              refine anyH_skip (i := 23) rfl (by kernel_rfl) (by kernel_rfl) ⟨⟨_, HSS.out _ hb3⟩, rfl⟩ ?_
              refine anyH_skip (i := 24) rfl (by kernel_rfl) (by kernel_rfl) ⟨⟨_, HSS.out _ hb3⟩, rfl⟩ ?_
              refine anyH_skip (i := 25) rfl (by kernel_rfl) (by kernel_rfl) ⟨⟨_, HSS.out _ hb3⟩, rfl⟩ ?_
              refine anyH_skip (i := 26) rfl (by kernel_rfl) (by kernel_rfl) ⟨⟨_, HSS.out _ hb3⟩, rfl⟩ ?_
              refine anyH_skip (i := 27) rfl (by kernel_rfl) (by kernel_rfl) ⟨⟨_, HSS.out _ hb3⟩, rfl⟩ ?_
              refine anyH_skip (i := 28) rfl (by kernel_rfl) (by kernel_rfl) ⟨⟨_, HSS.out _ hb3⟩, rfl⟩ ?_
              refine anyH_skip (i := 29) rfl (by kernel_rfl) (by kernel_rfl) ⟨⟨_, HSS.out _ hb3⟩, rfl⟩ ?_
              refine anyH_skip (i := 30) rfl (by kernel_rfl) (by kernel_rfl) ⟨⟨_, HSS.out _ hb3⟩, rfl⟩ ?_
              refine anyH_step (i := 31) rfl (by kernel_rfl) (by kernel_rfl) fun K hK => ?_
              go_wp2_with fail
              refine hK _ _ ⟨⟨_, HSS.out _ hb3⟩, rfl⟩ ?_
              clear hK K
              refine anyH_step (i := 32) rfl (by kernel_rfl) (by kernel_rfl) fun K hK => ?_
              go_wp2_with fail
              refine hK _ _ ⟨⟨_, HSS.out _ hb3⟩, rfl⟩ ?_
              clear hK K
              refine wpAnyH_done (by kernel_rfl) (NoPanic.normal ?_) _
              go_wp2_with fail
              go_meet
              case rel => exact ⟨false, rfl, (fun _ => ⟨HR2.out, fun h => absurd h HS3.out⟩), hb3⟩
        · obtain ⟨y, hy⟩ : ∃ y, l[i - 1]? = some y := ⟨_, List.getElem?_eq_getElem (by rw [← HN.out]; omega)⟩
          have HBG1 : Hid (bg = (y.sep != 0)) := Lib.hid (by
            rw [HRL.out.2.2.2.2.2.2.2.1 y (by omega) hy]
            by_cases h0 : y.sep = 0 <;> simp [h0])
          have ey : W2.cell? ⟨g, o + (i - 1) * 7 + 3, none⟩ = some (.int .i64 y.sep) := by
            have h2 : Below w.heap.size w W2 := HRL.out.2.2.1.trans ((HBW.out.trans (hb2.mono HBW.out.size)).mono HRL.out.2.2.1.size)
            exact (h2.cell (p := ⟨g, o + (i - 1) * 7 + 3, none⟩) hg1).trans (q1 (i - 1) y hy 3 (by decide))
          have ei : (i : Int) - 1 = ((i - 1 : Nat) : Int) := by omega
          have ei0 : ((i : Int) == 0) = false := by simpa using hi0'
          have ej : i - 1 < n := by omega
          clear hy
          refine anyH_read (i := 0) rfl (by kernel_rfl) (by kernel_rfl) (by kernel_rfl) rfl rfl ⟨⟨_, HSS.out _ hb2⟩, rfl⟩ noPanic_any fun K hK => ?_
          go_big_quiet_op
          (try refine ⟨_, fun _ => rfl, ?_⟩)
          refine hK _ ?_
          clear hK K
          refine anyH_step (i := 1) rfl (by kernel_rfl) (by kernel_rfl) fun K hK => ?_
          go_wp2_with fail
          refine hK _ _ ⟨⟨_, HSS.out _ hb2⟩, rfl⟩ ?_
          clear hK K
          refine anyH_step (i := 2) rfl (by kernel_rfl) (by kernel_rfl) fun K hK => ?_
          go_wp2_with fail
          refine hK _ _ ⟨⟨_, HSS.out _ hb2⟩, rfl⟩ ?_
          clear hK K
          refine anyH_step (i := 3) rfl (by kernel_rfl) (by kernel_rfl) fun K hK => ?_
          go_wp2_with fail
          refine hK _ _ ⟨⟨_, HSS.out _ hb2⟩, rfl⟩ ?_
          clear hK K
          refine anyH_read (i := 4) rfl (by kernel_rfl) (by kernel_rfl) (by kernel_rfl) rfl rfl ⟨⟨_, HSS.out _ hb2⟩, rfl⟩ noPanic_any fun K hK => ?_
          go_big_quiet_op
          (try refine ⟨_, fun _ => rfl, ?_⟩)
          refine hK _ ?_
          clear hK K
          refine anyH_step (i := 5) rfl (by kernel_rfl) (by kernel_rfl) fun K hK => ?_
          go_wp2_with fail
          refine hK _ _ ⟨⟨_, HSS.out _ hb2⟩, rfl⟩ ?_
          clear hK K
          refine anyH_step (i := 6) rfl (by kernel_rfl) (by kernel_rfl) fun K hK => ?_
          go_wp2_with fail
          refine hK _ _ ⟨⟨_, HSS.out _ hb2⟩, rfl⟩ ?_
          clear hK K
          refine anyH_step (i := 7) rfl (by kernel_rfl) (by kernel_rfl) fun K hK => ?_
          go_wp2_with fail
          refine hK _ _ ⟨⟨_, HSS.out _ hb2⟩, rfl⟩ ?_
          clear hK K
          refine anyH_step (i := 8) rfl (by kernel_rfl) (by kernel_rfl) fun K hK => ?_
          go_wp2_with fail
          refine hK _ _ ⟨⟨_, HSS.out _ hb2⟩, rfl⟩ ?_
          clear hK K
          refine anyH_step (i := 9) rfl (by kernel_rfl) (by kernel_rfl) fun K hK => ?_
          go_wp2_with fail
          refine hK _ _ ⟨⟨_, HSS.out _ hb2⟩, rfl⟩ ?_
          clear hK K
          refine anyH_step (i := 10) rfl (by kernel_rfl) (by kernel_rfl) fun K hK => ?_
          go_wp2_with fail
          refine hK _ _ ⟨⟨_, HSS.out _ hb2⟩, rfl⟩ ?_
          clear hK K
          refine anyH_step (i := 11) rfl (by kernel_rfl) (by kernel_rfl) fun K hK => ?_
          go_wp2_with fail
          refine hK _ _ ⟨⟨_, HSS.out _ hb2⟩, rfl⟩ ?_
          clear hK K
          refine anyH_step (i := 12) rfl (by kernel_rfl) (by kernel_rfl) fun K hK => ?_
          go_wp2_with (go_at_call 13; refine (H13.out x _ _ HFX.out).mono ?_; rintro r w3 ⟨⟨b, rfl, hb⟩, hc3⟩)
          have hb3 := hb2.trans (hc3.mono hb2.size)
          refine hK _ _ ⟨⟨_, HSS.out _ hb3⟩, rfl⟩ ?_
          clear hK K
          obtain ⟨e0, e1, e2, e3, e4, e5, e6⟩ := HOP.out w3 (HSS.out w3 hb3)
          have HR := Lib.hid hb
          clear hb hc3
          cases b
          · clear HR
            refine anyH_step (i := 13) rfl (by kernel_rfl) (by kernel_rfl) fun K hK => ?_
            go_wp2_with fail
            refine hK _ _ ⟨⟨_, HSS.out _ hb3⟩, rfl⟩ ?_
            clear hK K
            refine anyH_step (i := 14) rfl (by kernel_rfl) (by kernel_rfl) fun K hK => ?_
            go_wp2_with fail
            refine hK _ _ ⟨⟨_, HSS.out _ hb3⟩, rfl⟩ ?_
            clear hK K
            refine anyH_skip (i := 15) rfl (by kernel_rfl) (by kernel_rfl) ⟨⟨_, HSS.out _ hb3⟩, rfl⟩ ?_
            refine anyH_skip (i := 16) rfl (by kernel_rfl) (by kernel_rfl) ⟨⟨_, HSS.out _ hb3⟩, rfl⟩ ?_
            refine anyH_skip (i := 17) rfl (by kernel_rfl) (by kernel_rfl) ⟨⟨_, HSS.out _ hb3⟩, rfl⟩ ?_
            refine anyH_skip (i := 18) rfl (by kernel_rfl) (by kernel_rfl) ⟨⟨_, HSS.out _ hb3⟩, rfl⟩ ?_
            refine anyH_skip (i := 19) rfl (by kernel_rfl) (by kernel_rfl) ⟨⟨_, HSS.out _ hb3⟩, rfl⟩ ?_
            refine anyH_skip (i := 20) rfl (by kernel_rfl) (by kernel_rfl) ⟨⟨_, HSS.out _ hb3⟩, rfl⟩ ?_
            refine anyH_skip (i := 21) rfl (by kernel_rfl) (by kernel_rfl) ⟨⟨_, HSS.out _ hb3⟩, rfl⟩ ?_
            refine anyH_skip (i := 22) rfl (by kernel_rfl) (by kernel_rfl) ⟨⟨_, HSS.out _ hb3⟩, rfl⟩ ?_
            refine anyH_skip (i := 23) rfl (by kernel_rfl) (by kernel_rfl) ⟨⟨_, HSS.out _ hb3⟩, rfl⟩ ?_
            refine anyH_skip (i := 24) rfl (by kernel_rfl) (by kernel_rfl) ⟨⟨_, HSS.out _ hb3⟩, rfl⟩ ?_
            refine anyH_skip (i := 25) rfl (by kernel_rfl) (by kernel_rfl) ⟨⟨_, HSS.out _ hb3⟩, rfl⟩ ?_
            refine anyH_skip (i := 26) rfl (by kernel_rfl) (by kernel_rfl) ⟨⟨_, HSS.out _ hb3⟩, rfl⟩ ?_
            refine anyH_skip (i := 27) rfl (by kernel_rfl) (by kernel_rfl) ⟨⟨_, HSS.out _ hb3⟩, rfl⟩ ?_
            refine anyH_skip (i := 28) rfl (by kernel_rfl) (by kernel_rfl) ⟨⟨_, HSS.out _ hb3⟩, rfl⟩ ?_
            refine anyH_skip (i := 29) rfl (by kernel_rfl) (by kernel_rfl) ⟨⟨_, HSS.out _ hb3⟩, rfl⟩ ?_
            refine anyH_skip (i := 30) rfl (by kernel_rfl) (by kernel_rfl) ⟨⟨_, HSS.out _ hb3⟩, rfl⟩ ?_
            refine anyH_skip (i := 31) rfl (by kernel_rfl) (by kernel_rfl) ⟨⟨_, HSS.out _ hb3⟩, rfl⟩ ?_
            refine anyH_step (i := 32) rfl (by kernel_rfl) (by kernel_rfl) fun K hK => ?_
            go_wp2_with fail
            refine hK _ _ ⟨⟨_, HSS.out _ hb3⟩, rfl⟩ ?_
            clear hK K
            refine wpAnyH_done (by kernel_rfl) (NoPanic.normal ?_) _
            go_wp2_with fail
            go_meet
            case rel => exact ⟨true, rfl, (fun h => by cases h), hb3⟩
          · have hR : Right x bg := by have := HR.out (by first | rfl | trivial); rwa [HBG1.out]
            have HR2 := Lib.hid hR
            clear HR hR
            refine anyH_step (i := 13) rfl (by kernel_rfl) (by kernel_rfl) fun K hK => ?_
            go_wp2_with fail
            refine hK _ _ ⟨⟨_, HSS.out _ hb3⟩, rfl⟩ ?_
            clear hK K
            refine anyH_step (i := 14) rfl (by kernel_rfl) (by kernel_rfl) fun K hK => ?_
            go_wp2_with fail
            refine hK _ _ ⟨⟨_, HSS.out _ hb3⟩, rfl⟩ ?_
            clear hK K
            by_cases hs3 : x.sep = 3
            · have b3 : (x.sep == 3) = true := by simpa using hs3
              have HS3 := Lib.hid hs3
              clear hs3
              refine anyH_step (i := 15) rfl (by kernel_rfl) (by kernel_rfl) fun K hK => ?_
              go_wp2_with fail
              refine hK _ _ ⟨⟨_, HSS.out _ hb3⟩, rfl⟩ ?_
              clear hK K
              refine anyH_step (i := 16) rfl (by kernel_rfl) (by kernel_rfl) fun K hK => ?_
              go_wp2_with fail
              refine hK _ _ ⟨⟨_, HSS.out _ hb3⟩, rfl⟩ ?_
              clear hK K
              refine anyH_step (i := 17) rfl (by kernel_rfl) (by kernel_rfl) fun K hK => ?_
              go_wp2_with fail
              refine hK _ _ ⟨⟨_, HSS.out _ hb3⟩, rfl⟩ ?_
              clear hK K
              refine anyH_step (i := 18) rfl (by kernel_rfl) (by kernel_rfl) fun K hK => ?_
              go_wp2_with fail
              refine hK _ _ ⟨⟨_, HSS.out _ hb3⟩, rfl⟩ ?_
              clear hK K
              by_cases hk9 : x.kind = 9
              · have b9 : (x.kind == 9) = true := by simpa using hk9
                clear hk9
                refine anyH_step (i := 19) rfl (by kernel_rfl) (by kernel_rfl) fun K hK => ?_
                go_wp2_with fail
                refine hK _ _ ⟨⟨_, HSS.out _ hb3⟩, rfl⟩ ?_
                clear hK K
                refine anyH_step (i := 20) rfl (by kernel_rfl) (by kernel_rfl) fun K hK => ?_
                go_wp2_with fail
                refine hK _ _ ⟨⟨_, HSS.out _ hb3⟩, rfl⟩ ?_
                clear hK K
                refine anyH_step (i := 21) rfl (by kernel_rfl) (by kernel_rfl) fun K hK => ?_
                go_wp2_with fail
                refine hK _ _ ⟨⟨_, HSS.out _ hb3⟩, rfl⟩ ?_
                clear hK K
                refine anyH_step (i := 22) rfl (by kernel_rfl) (by kernel_rfl) fun K hK => ?_
                go_wp2_with fail
                refine hK _ _ ⟨⟨_, HSS.out _ hb3⟩, rfl⟩ ?_
                clear hK K
                refine anyH_skip (i := 23) rfl (by kernel_rfl) (by kernel_rfl) ⟨⟨_, HSS.out _ hb3⟩, rfl⟩ ?_
                refine anyH_skip (i := 24) rfl (by kernel_rfl) (by kernel_rfl) ⟨⟨_, HSS.out _ hb3⟩, rfl⟩ ?_
                refine anyH_skip (i := 25) rfl (by kernel_rfl) (by kernel_rfl) ⟨⟨_, HSS.out _ hb3⟩, rfl⟩ ?_
                refine anyH_skip (i := 26) rfl (by kernel_rfl) (by kernel_rfl) ⟨⟨_, HSS.out _ hb3⟩, rfl⟩ ?_
                refine anyH_skip (i := 27) rfl (by kernel_rfl) (by kernel_rfl) ⟨⟨_, HSS.out _ hb3⟩, rfl⟩ ?_
                refine anyH_skip (i := 28) rfl (by kernel_rfl) (by kernel_rfl) ⟨⟨_, HSS.out _ hb3⟩, rfl⟩ ?_
                refine anyH_skip (i := 29) rfl (by kernel_rfl) (by kernel_rfl) ⟨⟨_, HSS.out _ hb3⟩, rfl⟩ ?_
                refine anyH_step (i := 30) rfl (by kernel_rfl) (by kernel_rfl) fun K hK => ?_
                go_wp2_with fail
                refine hK _ _ ⟨⟨_, HSS.out _ hb3⟩, rfl⟩ ?_
                clear hK K
                refine anyH_step (i := 31) rfl (by kernel_rfl) (by kernel_rfl) fun K hK => ?_
                go_wp2_with fail
                refine hK _ _ ⟨⟨_, HSS.out _ hb3⟩, rfl⟩ ?_
                clear hK K
                refine anyH_step (i := 32) rfl (by kernel_rfl) (by kernel_rfl) fun K hK => ?_
                go_wp2_with fail
                refine hK _ _ ⟨⟨_, HSS.out _ hb3⟩, rfl⟩ ?_
                clear hK K
                refine wpAnyH_done (by kernel_rfl) (NoPanic.normal ?_) _
                go_wp2_with fail
                go_meet
                case rel => exact ⟨true, rfl, (fun h => by cases h), hb3⟩
              · have b9 : (x.kind == 9) = false := by simpa using hk9
                have HK9 := Lib.hid hk9
                clear hk9
                refine anyH_step (i := 19) rfl (by kernel_rfl) (by kernel_rfl) fun K hK => ?_
                go_wp2_with fail
                refine hK _ _ ⟨⟨_, HSS.out _ hb3⟩, rfl⟩ ?_
                clear hK K
                refine anyH_step (i := 20) rfl (by kernel_rfl) (by kernel_rfl) fun K hK => ?_
                go_wp2_with fail
                refine hK _ _ ⟨⟨_, HSS.out _ hb3⟩, rfl⟩ ?_
                clear hK K
                refine anyH_step (i := 21) rfl (by kernel_rfl) (by kernel_rfl) fun K hK => ?_
                go_wp2_with fail
                refine hK _ _ ⟨⟨_, HSS.out _ hb3⟩, rfl⟩ ?_
                clear hK K
                refine anyH_step (i := 22) rfl (by kernel_rfl) (by kernel_rfl) fun K hK => ?_
                go_wp2_with fail
                refine hK _ _ ⟨⟨_, HSS.out _ hb3⟩, rfl⟩ ?_
                clear hK K
                refine anyH_step (i := 23) rfl (by kernel_rfl) (by kernel_rfl) fun K hK => ?_
                go_wp2_with fail
                refine hK _ _ ⟨⟨_, HSS.out _ hb3⟩, rfl⟩ ?_
                clear hK K
                refine anyH_step (i := 24) rfl (by kernel_rfl) (by kernel_rfl) fun K hK => ?_
                go_wp2_with (go_at_call 14; refine (H8.out _).mono ?_; rintro r w4 ⟨rfl, rfl⟩)
                refine hK _ _ ⟨⟨_, HSS.out _ hb3⟩, rfl⟩ ?_
                clear hK K
                cases hb8 : b8
                · have HB8 := Lib.hid hb8
                  subst hb8
                  refine anyH_step (i := 25) rfl (by kernel_rfl) (by kernel_rfl) fun K hK => ?_
                  go_wp2_with fail
                  refine hK _ _ ⟨⟨_, HSS.out _ hb3⟩, rfl⟩ ?_
                  clear hK K
                  refine anyH_skip (i := 26) rfl (by kernel_rfl) (by kernel_rfl) ⟨⟨_, HSS.out _ hb3⟩, rfl⟩ ?_
                  refine anyH_skip (i := 27) rfl (by kernel_rfl) (by kernel_rfl) ⟨⟨_, HSS.out _ hb3⟩, rfl⟩ ?_
                  refine anyH_skip (i := 28) rfl (by kernel_rfl) (by kernel_rfl) ⟨⟨_, HSS.out _ hb3⟩, rfl⟩ ?_
                  refine anyH_step (i := 29) rfl (by kernel_rfl) (by kernel_rfl) fun K hK => ?_
                  go_wp2_with fail
                  refine hK _ _ ⟨⟨_, HSS.out _ hb3⟩, rfl⟩ ?_
                  clear hK K
                  refine anyH_step (i := 30) rfl (by kernel_rfl) (by kernel_rfl) fun K hK => ?_
                  go_wp2_with fail
                  refine hK _ _ ⟨⟨_, HSS.out _ hb3⟩, rfl⟩ ?_
                  clear hK K
                  refine anyH_step (i := 31) rfl (by kernel_rfl) (by kernel_rfl) fun K hK => ?_
                  go_wp2_with fail
                  refine hK _ _ ⟨⟨_, HSS.out _ hb3⟩, rfl⟩ ?_
                  clear hK K
                  refine anyH_step (i := 32) rfl (by kernel_rfl) (by kernel_rfl) fun K hK => ?_
                  go_wp2_with fail
                  refine hK _ _ ⟨⟨_, HSS.out _ hb3⟩, rfl⟩ ?_
                  clear hK K
                  refine wpAnyH_done (by kernel_rfl) (NoPanic.normal ?_) _
                  go_wp2_with fail
                  go_meet
                  case rel => exact ⟨false, rfl, (fun _ => ⟨HR2.out, fun _ => ⟨HK9.out, fun h => by cases (HE8.out.trans h)⟩⟩), hb3⟩
                · have HB8 := Lib.hid hb8
                  subst hb8
                  refine anyH_step (i := 25) rfl (by kernel_rfl) (by kernel_rfl) fun K hK => ?_
                  go_wp2_with fail
                  refine hK _ _ ⟨⟨_, HSS.out _ hb3⟩, rfl⟩ ?_
                  clear hK K
                  refine anyH_step (i := 26) rfl (by kernel_rfl) (by kernel_rfl) fun K hK => ?_
                  go_wp2_with fail
                  refine hK _ _ ⟨⟨_, HSS.out _ hb3⟩, rfl⟩ ?_
                  clear hK K
                  refine anyH_step (i := 27) rfl (by kernel_rfl) (by kernel_rfl) fun K hK => ?_
                  go_wp2_with (go_at_call 14; refine (H15.out _).mono ?_; rintro r w5 ⟨rfl, rfl⟩)
                  refine hK _ _ ⟨⟨_, HSS.out _ hb3⟩, rfl⟩ ?_
                  clear hK K
                  cases hb15 : b15
                  · subst hb15
                    refine anyH_step (i := 28) rfl (by kernel_rfl) (by kernel_rfl) fun K hK => ?_
                    go_wp2_with fail
                    refine hK _ _ ⟨⟨_, HSS.out _ hb3⟩, rfl⟩ ?_
                    clear hK K
                    refine anyH_step (i := 29) rfl (by kernel_rfl) (by kernel_rfl) fun K hK => ?_
                    go_wp2_with fail
                    refine hK _ _ ⟨⟨_, HSS.out _ hb3⟩, rfl⟩ ?_
                    clear hK K
                    refine anyH_step (i := 30) rfl (by kernel_rfl) (by kernel_rfl) fun K hK => ?_
                    go_wp2_with fail
                    refine hK _ _ ⟨⟨_, HSS.out _ hb3⟩, rfl⟩ ?_
                    clear hK K
                    refine anyH_step (i := 31) rfl (by kernel_rfl) (by kernel_rfl) fun K hK => ?_
                    go_wp2_with fail
                    refine hK _ _ ⟨⟨_, HSS.out _ hb3⟩, rfl⟩ ?_
                    clear hK K
                    refine anyH_step (i := 32) rfl (by kernel_rfl) (by kernel_rfl) fun K hK => ?_
                    go_wp2_with fail
                    refine hK _ _ ⟨⟨_, HSS.out _ hb3⟩, rfl⟩ ?_
                    clear hK K
                    refine wpAnyH_done (by kernel_rfl) (NoPanic.normal ?_) _
                    go_wp2_with fail
                    go_meet
                    case rel => exact ⟨true, rfl, (fun h => by cases h), hb3⟩
                  · subst hb15
                    refine anyH_step (i := 28) rfl (by kernel_rfl) (by kernel_rfl) fun K hK => ?_
                    go_wp2_with fail
                    refine hK _ _ ⟨⟨_, HSS.out _ hb3⟩, rfl⟩ ?_
                    clear hK K
                    refine anyH_step (i := 29) rfl (by kernel_rfl) (by kernel_rfl) fun K hK => ?_
                    go_wp2_with fail
                    refine hK _ _ ⟨⟨_, HSS.out _ hb3⟩, rfl⟩ ?_
                    clear hK K
                    refine anyH_step (i := 30) rfl (by kernel_rfl) (by kernel_rfl) fun K hK => ?_
                    go_wp2_with fail
                    refine hK _ _ ⟨⟨_, HSS.out _ hb3⟩, rfl⟩ ?_
                    clear hK K
                    refine anyH_step (i := 31) rfl (by kernel_rfl) (by kernel_rfl) fun K hK => ?_
                    go_wp2_with fail
                    refine hK _ _ ⟨⟨_, HSS.out _ hb3⟩, rfl⟩ ?_
                    clear hK K
                    refine anyH_step (i := 32) rfl (by kernel_rfl) (by kernel_rfl) fun K hK => ?_
                    go_wp2_with fail
                    refine hK _ _ ⟨⟨_, HSS.out _ hb3⟩, rfl⟩ ?_
                    clear hK K
                    refine wpAnyH_done (by kernel_rfl) (NoPanic.normal ?_) _
                    go_wp2_with fail
                    go_meet
                    case rel => exact ⟨false, rfl, (fun _ => ⟨HR2.out, fun _ => ⟨HK9.out, fun _ => HE15.out.symm⟩⟩), hb3⟩
            · have b3 : (x.sep == 3) = false := by simpa using hs3
              have HS3 := Lib.hid hs3
              clear hs3
              refine anyH_step (i := 15) rfl (by kernel_rfl) (by kernel_rfl) fun K hK => ?_
              go_wp2_with fail
              refine hK _ _ ⟨⟨_, HSS.out _ hb3⟩, rfl⟩ ?_
              clear hK K
              refine anyH_step (i := 16) rfl (by kernel_rfl) (by kernel_rfl) fun K hK => ?_
              go_wp2_with fail
              refine hK _ _ ⟨⟨_, HSS.out _ hb3⟩, rfl⟩ ?_
              clear hK K
              refine anyH_step (i := 17) rfl (by kernel_rfl) (by kernel_rfl) fun K hK => ?_
              go_wp2_with fail
              refine hK _ _ ⟨⟨_, HSS.out _ hb3⟩, rfl⟩ ?_
              clear hK K
              refine anyH_step (i := 18) rfl (by kernel_rfl) (by kernel_rfl) fun K hK => ?_
              go_wp2_with fail
              refine hK _ _ ⟨⟨_, HSS.out _ hb3⟩, rfl⟩ ?_
              clear hK K
              refine anyH_skip (i := 19) rfl (by kernel_rfl) (by kernel_rfl) ⟨⟨_, HSS.out _ hb3⟩, rfl⟩ ?_
              refine anyH_skip (i := 20) rfl (by kernel_rfl) (by kernel_rfl) ⟨⟨_, HSS.out _ hb3⟩, rfl⟩ ?_
              refine anyH_skip (i := 21) rfl (by kernel_rfl) (by kernel_rfl) ⟨⟨_, HSS.out _ hb3⟩, rfl⟩ ?_
              refine anyH_skip (i := 22) rfl (by kernel_rfl) (by kernel_rfl) ⟨⟨_, HSS.out _ hb3⟩, rfl⟩ ?_
              refine anyH_skip (i := 23) rfl (by kernel_rfl) (by kernel_rfl) ⟨⟨_, HSS.out _ hb3⟩, rfl⟩ ?_
              refine anyH_skip (i := 24) rfl (by kernel_rfl) (by kernel_rfl) ⟨⟨_, HSS.out _ hb3⟩, rfl⟩ ?_
              refine anyH_skip (i := 25) rfl (by kernel_rfl) (by kernel_rfl) ⟨⟨_, HSS.out _ hb3⟩, rfl⟩ ?_
              refine anyH_skip (i := 26) rfl (by kernel_rfl) (by kernel_rfl) ⟨⟨_, HSS.out _ hb3⟩, rfl⟩ ?_
              refine anyH_skip (i := 27) rfl (by kernel_rfl) (by kernel_rfl) ⟨⟨_, HSS.out _ hb3⟩, rfl⟩ ?_
              refine anyH_skip (i := 28) rfl (by kernel_rfl) (by kernel_rfl) ⟨⟨_, HSS.out _ hb3⟩, rfl⟩ ?_
              refine anyH_skip (i := 29) rfl (by kernel_rfl) (by kernel_rfl) ⟨⟨_, HSS.out _ hb3⟩, rfl⟩ ?_
              refine anyH_skip (i := 30) rfl (by kernel_rfl) (by kernel_rfl) ⟨⟨_, HSS.out _ hb3⟩, rfl⟩ ?_
              refine anyH_step (i := 31) rfl (by kernel_rfl) (by kernel_rfl) fun K hK => ?_
              go_wp2_with fail
              refine hK _ _ ⟨⟨_, HSS.out _ hb3⟩, rfl⟩ ?_
              clear hK K
              refine anyH_step (i := 32) rfl (by kernel_rfl) (by kernel_rfl) fun K hK => ?_
              go_wp2_with fail
              refine hK _ _ ⟨⟨_, HSS.out _ hb3⟩, rfl⟩ ?_
              clear hK K
              refine wpAnyH_done (by kernel_rfl) (NoPanic.normal ?_) _
              go_wp2_with fail
              go_meet
              case rel => exact ⟨false, rfl, (fun _ => ⟨HR2.out, fun h => absurd h HS3.out⟩), hb3⟩
      case rest =>
        obtain ⟨bad, rfl, hgood, hbc⟩ := hcut
        have HG := Lib.hid hgood
        have HBC : Hid (Below wr.heap.size wr wc) := Lib.hid (HBW.out.trans (hbc.mono HBW.out.size))
        obtain ⟨e0, e1, e2, e3, e4, e5, e6⟩ := HOP.out wc (HSS.out wc hbc)
        have HBWC := Lib.hid hbc
        clear hgood hbc
        cases bad
        case true =>
          go_wp2
          go_ret3
          rw [HPP.out]
          exact ⟨HRL.out.2.2.1.trans (HBC.out.mono HRL.out.2.2.1.size), .inl ⟨_, _, rfl⟩⟩
        case false =>
          obtain ⟨hR, hS⟩ := HG.out (by first | rfl | trivial)
          obtain ⟨s, hs, hs4⟩ : ∃ s : Nat, x.sep = s ∧ s < 4 := ⟨x.sep.toNat, by have h1 := hR.2.2.2.1; have h2 := hR.2.2.2.2.1; omega, by have h1 := hR.2.2.2.1; have h2 := hR.2.2.2.2.1; omega⟩
          obtain ⟨WR, hWR⟩ : ∃ WR : Bs, WR = YtalajbfpilhfgaaGreatDoor.wr x := ⟨_, rfl⟩
          obtain ⟨ML, hML⟩ : ∃ ML, ML = me ext x := ⟨_, rfl⟩
          obtain ⟨SP, hSP⟩ : ∃ SP, SP = sepW s := ⟨_, rfl⟩
          obtain ⟨SM, hSM⟩ : ∃ SM, SM = sepM ext s := ⟨_, rfl⟩
          have lW : WR.length ≤ 400 := by rw [hWR]; exact wr_len hR
          have lM : ML.length ≤ 5 := by rw [hML]; exact me_len hR ext
          have lM0 : 0 < ML.length := by rw [hML]; exact me_pos ext x
          have lML : litSum ML ≤ 400 := by rw [hML]; exact me_lit hR ext
          have lS : SP.length ≤ 3 := by rw [hSP]; exact sepW_len s
          have lSM : SM.length ≤ 1 := by rw [hSM]; exact Nat.le_of_eq (sepM_len ext s)
          have lSM0 : 0 < SM.length := by rw [hSM, sepM_len ext s]; decide
          have lSL : litSum SM ≤ 3 := by rw [hSM]; exact sepM_lit ext s
          have H15 : Hid (∀ W, Calls Tryz.prog 15 #[.agg #[.int .i64 x.kind, .int .i64 x.ch, .int .i64 x.var, .int .i64 (s : Nat), strV x.a, strV x.b, strV x.c]] W fun e w' => e = .returned (strV WR) ∧ Below W.heap.size W w') := Lib.hid (fun W => by
            rw [hWR, ← hs]; exact wr15 x bg hR HFX.out.1 HFX.out.2.1 HFX.out.2.2 W)
          have H16 : Hid (∀ W, Calls Tryz.prog 16 #[.agg #[.int .i64 x.kind, .int .i64 x.ch, .int .i64 x.var, .int .i64 (s : Nat), strV x.a, strV x.b, strV x.c], .int .i64 ext] W fun e w' => MadeN W ML e w') := Lib.hid (fun W => by
            rw [hML, ← hs]; exact me16 x bg hR ext hx HFX.out.1 HFX.out.2.1 HFX.out.2.2 W)
          have H17 : Hid (∀ W, Calls Tryz.prog 17 #[.int .i64 (s : Nat)] W fun e w' => e = .returned (strV SP) ∧ W = w') := Lib.hid (fun W => by rw [hSP]; exact sep17 s hs4 W)
          have H18 : Hid (∀ W, Calls Tryz.prog 18 #[.int .i64 (s : Nat), .int .i64 ext] W fun e w' => MadeN W SM e w') := Lib.hid (fun W => by rw [hSM]; exact sep18 s hs4 ext hx W)
          have HR := Lib.hid hR
          have HS := Lib.hid hS
          have HSS' := Lib.hid hs
          have HWR := Lib.hid hWR
          have HML := Lib.hid hML
          have HSP := Lib.hid hSP
          have HSM := Lib.hid hSM
          have lT : T.length ≤ 403 * i := HRL.out.2.2.2.2.2.2.2.2.1
          have lm : m ≤ 6 * i := HRL.out.2.2.2.2.2.2.2.2.2.1
          have lL : litSum out ≤ 403 * i := HRL.out.2.2.2.2.2.2.2.2.2.2
          rw [hs] at e3
          clear hR hS hWR hML hSP hSM hs
          have q9 : ¬ (9223372036854775807 < T.length + WR.length) := by omega
          have hBr : w.heap.size ≤ wr.heap.size := HRL.out.2.2.1.size
          have en : (n : Int) - 1 = ((n - 1 : Nat) : Int) := by omega
          go_wp2_with (first
            | (go_at_call 15; refine (H15.out _).mono ?_; rintro r w15 ⟨rfl, hc15⟩; have HC15 := Lib.hid (HBWC.out.trans (hc15.mono HBWC.out.size)); clear hc15; obtain ⟨e0, e1, e2, e3, e4, e5, e6⟩ := HOP.out w15 (HSS.out w15 HC15.out); rw [HSS'.out] at e3)
            | (go_at_call 16; refine (H16.out _).mono ?_; rintro r w16 ⟨g16, rfl, hge16, hg16, hc16⟩; have HC16 := Lib.hid (HC15.out.trans (hc16.mono HC15.out.size)); have HG16 := Lib.hid hg16; clear hc16 hg16 hge16)
            | (at_builtin; refine wpList_append_lies _ rfl _ _ 25 rfl w.heap.size 52 i0 _ 6 72 Tryz.underlying25 hi0 hz0 hz1 hz2 rfl (by decide) (.slice A' m c') m (cellsN out) rfl (own_below HRL.out.2.1 (HBW.out.trans (HC16.out.mono HBW.out.size))) ⟨g16, 0, none⟩ ML.length ML.length (cellsN ML) rfl (cellsN_length ML) (World.news_of_block (cs := (cellsN ML).toArray) HG16.out) (cellsN_one ML) lM0 ?qc2 ?qc3 ?qc4 _ rfl ?_))
          case qc2 => unfold maxLen; omega
          case qc3 => omega
          case qc4 => have := HC16.out.size; have := HZ.out; omega
          intro gg cap w1 hown hgrow hat hlt
          have hrow : ∀ k, (Value.slice A' m c').ownBlock = some k → w.heap.size ≤ k ∧ k < wr.heap.size := fun k hk => HRL.out.2.1.lt k hk
          have hown1 : w1.ownsRow w.heap.size 52 6 (.slice (some ⟨gg, 0, none⟩) (m + ML.length) cap) (m + ML.length) (cellsN (out ++ ML)) := by rw [cellsN_app]; exact hown
          have hb16 : Below w.heap.size w w16 := HRL.out.2.2.1.trans ((HBW.out.trans (HC16.out.mono HBW.out.size)).mono hBr)
          have hb1 : Below w.heap.size w w1 := hb16.grown hgrow hb16.size (fun k hk => (hrow k hk).1)
          have f3 : w1.cell? ⟨wr.heap.size, 3, none⟩ = some (.int .i64 (s : Nat)) := by
            have e3' := (HOP.out w16 (HSS.out w16 HC16.out)).2.2.2.1
            rw [HSS'.out] at e3'
            rw [hgrow.cell_far ⟨wr.heap.size, 3, none⟩ (by have h1 := HC16.out.size; have h2 := HZ.out; show wr.heap.size < _; omega) (fun hc => by have := (hrow _ hc.symm).2; exact absurd this (Nat.lt_irrefl _))]
            exact e3'
          have HOWN := Lib.hid hown1
          have HB1 := Lib.hid hb1
          clear hown hgrow hat hlt hown1 hb16 hb1 hrow e0 e1 e2 e3 e4 e5 e6
          have hqe : (⟨T.toArray⟩ : ByteArray) ++ ⟨WR.toArray⟩ = ⟨(T ++ WR).toArray⟩ := str_app T WR
          have hdrop : l.drop i = x :: l.drop (i + 1) := by
            have hlt : i < l.length := by rw [← HN.out]; exact hin
            rw [List.drop_eq_getElem_cons hlt]
            congr 1
            have := HX.out
            rw [List.getElem?_eq_getElem hlt] at this
            exact Option.some.inj this
          have HD := Lib.hid hdrop
          clear hdrop
          by_cases hlast : i + 1 < n
          · have bl : ((i : Int) < ((n - 1 : Nat) : Int)) := by omega
            have q8 : ¬ (9223372036854775807 < (T ++ WR).length + SP.length) := by rw [List.length_append]; omega
            have q7 : ¬ (9223372036854775807 < T.length + WR.length + SP.length) := by omega
            have HQE := Lib.hid hqe
            clear hqe
            go_wp2_with (first
              | (go_at_call 17; refine (H17.out _).mono ?_; rintro r w17 ⟨rfl, rfl⟩)
              | (go_at_call 18; refine (H18.out _).mono ?_; rintro r w18 ⟨g18, rfl, hge18, hg18, hc18⟩; have HC18 := Lib.hid hc18; have HG18 := Lib.hid hg18; clear hc18 hg18 hge18)
              | (at_builtin; refine wpList_append_lies _ rfl _ _ 25 rfl w.heap.size 52 i0 _ 6 72 Tryz.underlying25 hi0 hz0 hz1 hz2 rfl (by decide) (.slice (some ⟨gg, 0, none⟩) (m + ML.length) cap) (m + ML.length) (cellsN (out ++ ML)) rfl (own_below HOWN.out HC18.out) ⟨g18, 0, none⟩ SM.length SM.length (cellsN SM) rfl (cellsN_length SM) (World.news_of_block (cs := (cellsN SM).toArray) HG18.out) (cellsN_one SM) ?qd1 ?qd2 ?qd3 ?qd4 _ rfl ?_))
            case qd1 => omega
            case qd2 => unfold maxLen; omega
            case qd3 => omega
            case qd4 => have := HC18.out.size; have := HB1.out.size; omega
            intro g2 cap2 w2 hown hgrow hat hlt
            have hown2 : w2.ownsRow w.heap.size 52 6 (.slice (some ⟨g2, 0, none⟩) (m + ML.length + SM.length) cap2) (m + ML.length + SM.length) (cellsN (out ++ ML ++ SM)) := by rw [cellsN_app]; exact hown
            have hb18 : Below w.heap.size w w18 := HB1.out.trans (HC18.out.mono HB1.out.size)
            have hb2' : Below w.heap.size w w2 := hb18.grown hgrow hb18.size (fun k hk => (HOWN.out.lt k hk).1)
            have HOWN2 := Lib.hid hown2
            have HB2 := Lib.hid hb2'
            clear hown hgrow hat hlt hown2 hb18 hb2'
            go_wp2
            go_roundg (n - i)
            case measure => have := HQ.out; omega
            case rel =>
              obtain ⟨y, hy⟩ : ∃ y, l[i + 1]? = some y := ⟨_, List.getElem?_eq_getElem (by rw [← HN.out]; exact hlast)⟩
              have hdrop2 : l.drop (i + 1) = y :: l.drop (i + 2) := by
                have hlt : i + 1 < l.length := by rw [← HN.out]; exact hlast
                rw [List.drop_eq_getElem_cons hlt]
                congr 1
                rw [List.getElem?_eq_getElem hlt] at hy
                exact Option.some.inj hy
              refine ⟨i + 1, m + ML.length + SM.length, T ++ WR ++ SP, _, cap2, out ++ ML ++ SM, decide (x.sep ≠ 0), ?_, rfl, by go_num, by have := HQ.out; omega, by omega, ?_, HOWN2.out, HB2.out, ?_, ?_, ?_, fun h => absurd h (Nat.succ_ne_zero _), ?_, ?_, ?_, ?_⟩
              · simp only [strV, str_app]
              · rw [List.length_append, List.length_append, ← HRL.out.1]
              · rw [← HRL.out.2.2.2.1, HD.out, hdrop2, lineW, HWR.out, HSP.out, HSS'.out]
                simp
              · rw [← HRL.out.2.2.2.2.1, HD.out, hdrop2, lineM, HML.out, HSM.out, HSS'.out]
                simp
              · intro h
                refine HRL.out.2.2.2.2.2.1 ?_
                rw [HD.out]
                exact ⟨HR.out, HS.out, h⟩
              · intro p _ hp
                rw [Nat.add_sub_cancel, HX.out] at hp
                injection hp with hp
                rw [hp]
              · rw [List.length_append, List.length_append]; omega
              · omega
              · rw [litSum_app, litSum_app]; omega
          · have bl : ¬ ((i : Int) < ((n - 1 : Nat) : Int)) := by omega
            have HQE := Lib.hid hqe
            clear hqe
            go_wp2
            go_roundg (n - i)
            case measure => have := HQ.out; omega
            case rel =>
              have hdrop2 : l.drop (i + 1) = [] := List.drop_eq_nil_of_le (by rw [← HN.out]; omega)
              refine ⟨i + 1, m + ML.length, T ++ WR, _, cap, out ++ ML, decide (x.sep ≠ 0), ?_, rfl, by go_num, by have := HQ.out; omega, by omega, ?_, HOWN.out, HB1.out, ?_, ?_, ?_, fun h => absurd h (Nat.succ_ne_zero _), ?_, ?_, ?_, ?_⟩
              · simp only [strV, str_app]
              · rw [List.length_append, ← HRL.out.1]
              · rw [← HRL.out.2.2.2.1, HD.out, hdrop2, lineW, lineW, HWR.out]
                simp
              · rw [← HRL.out.2.2.2.2.1, HD.out, hdrop2, lineM, lineM, HML.out]
                simp
              · intro h
                refine HRL.out.2.2.2.2.2.1 ?_
                rw [HD.out]
                exact ⟨HR.out, HS.out, h⟩
              · intro p _ hp
                rw [Nat.add_sub_cancel, HX.out] at hp
                injection hp with hp
                rw [hp]
              · rw [List.length_append]; omega
              · omega
              · rw [litSum_app]; omega
    · obtain rfl : i = n := by omega
      have hd : l.drop i = [] := List.drop_eq_nil_of_le (by rw [← HN.out]; exact Nat.le_refl _)
      have hT : T = lineW l := by have := HRL.out.2.2.2.1; rw [hd, lineW, List.append_nil] at this; exact this
      have hO : out = lineM ext l := by have := HRL.out.2.2.2.2.1; rw [hd, lineM, List.append_nil] at this; exact this
      have hall : AllRight ext true l := HRL.out.2.2.2.2.2.1 (by rw [hd]; trivial)
      have hsl : litSum out ≤ 403 * i := HRL.out.2.2.2.2.2.2.2.2.2.2
      have hml : m ≤ 6 * i := HRL.out.2.2.2.2.2.2.2.2.2.1
      have hmo : m = out.length := HRL.out.1
      have H19 : Hid (Calls Tryz.prog 19 #[.slice A' m c'] wr fun r w' => ∃ v', r = .returned v' ∧ OwnN w' wr.heap.size v' (joined out) ∧ Below wr.heap.size wr w') := Lib.hid (joined19 _ out (by omega) (by omega) wr (OwnN.rd (B := w.heap.size) (by show wr.ownsRow _ _ _ _ out.length _; rw [← hmo]; exact HRL.out.2.1)))
      have HT := Lib.hid hT
      have HO := Lib.hid hO
      have HALL := Lib.hid hall
      clear hd hT hO hall hsl hml hmo
      go_wp2_with (go_at_call 19; refine H19.out.mono ?_; rintro r w19 ⟨v', rfl, hown, hb19⟩; have HOWN := Lib.hid hown; have HB19 := Lib.hid hb19; clear hown hb19)
      go_ret3
      rw [HPP.out]
      refine ⟨HRL.out.2.2.1.trans (HB19.out.mono HRL.out.2.2.1.size), .inr ⟨HALL.out, v', ?_, ?_⟩⟩
      · rw [HT.out]
        have : (decide (0 < (i : Int))) = true := by simpa using hn0
        simp [this, hn0]
      · rw [← HO.out]
        exact own_base HOWN.out HRL.out.2.2.1.size
end Go.Proofs.YtalajbfpilhfgaaGreatDoor
