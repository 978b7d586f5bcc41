/-
  FnInlineAlone: the inline parser over a line through the thin package (9), and the law (3).
  FnInlineAlone: the law (3), for all pieces in memory.
-/
import Derived.Test.YtalajbfpilhfgaaGreatDoorK23
import Derived.Test.YtalajbfpilhfgaaGreatDoorK47
import Derived.Test.YtalajbfpilhfgaaGreatDoorK49
import Derived.Lib.ConvBytes
import Derived.Lib.SmallJoins
set_option linter.unusedVariables false
set_option linter.unusedSimpArgs false
namespace Go.Proofs.YtalajbfpilhfgaaGreatDoor
open Go.RowKit

theorem MdIs.below' {w w' : World} {a : Nat} {A : Array Value} (h : MdIs w a A) (hb : Below w.heap.size w w') : MdIs w' a A := MdIs.below h hb
set_option maxRecDepth 100000 in
set_option maxHeartbeats 4000000 in
theorem inline9 (ext : Nat) (hx : ext ≤ 131070) (g c : Nat) (l : Bs) (J : List InN) (w : World) (hR : RdO w g 0 l) (hg : g < w.heap.size) (h0 : 0 < l.length) (hlast : l.getD (l.length - 1) 0 ≠ 10) (hl : l.length ≤ 10000)
    (hseg : ∀ x : Ctx, x.ext = ext → x.D = l → ∃ sg, SegsOk x 1 false sg 0 ∧ joined (flatG 0 (outG x.D sg 0 0)) = J ∧ gw (outG x.D sg 0 0) ≤ 4 * x.D.length + 1) :
    Calls Tryz.prog 9 #[.int .i64 ext, .slice (some ⟨g, 0, none⟩) l.length c] w fun r w' => ∃ (vo : Value) (vs : List Value) (f : F), r = .returned vo ∧ w'.ownsRow w.heap.size 53 25 vo (f.blocks.length + 1) vs ∧ RowsAre w' (⟨-1, 4, none, none, none⟩ :: flatF f 0 1) vs ∧ Below w.heap.size w w' ∧ joined (flatG 0 f.abs) = J ∧ gw f.abs ≤ 40001 := by
  obtain ⟨n, hn⟩ : ∃ n, n = l.length := ⟨_, rfl⟩
  rw [← hn]
  have HN := Lib.hid hn
  have C24 := Lib.hid (fun w => parser24 ext hx w)
  have C25 : Hid (∀ W, Below w.heap.size w W → Calls Tryz.prog 25 #[.slice (some ⟨g, 0, none⟩) n c] W fun e w' => ∃ g' c', e = .returned (.slice (some ⟨g', 0, none⟩) n c') ∧ RdV w' (.slice (some ⟨g', 0, none⟩) n c') (some l) ∧ Below W.heap.size W w' ∧ W.heap.size ≤ g') :=
    Lib.hid (fun W hb => own_some g 0 n c l W hn.symm (by omega) (rdO_below hR hb hg))
  have C23 : Hid (∀ W M C g' c', MdIs W M C → MdArr C ext 0 false → RdV W (.slice (some ⟨g', 0, none⟩) n c') (some l) → Calls Tryz.prog 23 #[ptr M, .slice (some ⟨g', 0, none⟩) n c'] W fun r w' => ∃ (a : Nat) (f : F), r = .returned (ptr a) ∧ NodeIs w' a (nodeArr 4 nilP f.headP f.lastP nilP nilP nilS nilS nilS) ∧ f.at w' ∧ Below W.heap.size W w' ∧ (∀ b ∈ a :: f.blocks, b < w'.heap.size) ∧ joined (flatG 0 f.abs) = J ∧ gw f.abs ≤ 40001) := Lib.hid (fun W M C g' c' hM hC hv => by
    obtain ⟨g2, off, cap, CC, fz, e, h1, h2, h3, h4⟩ := hv
    injection e with e1 e2 e3
    injection e1 with e1
    injection e1 with e1 e4
    subst e1 e3 e4
    obtain ⟨sg, hs, hj, hw⟩ := hseg ⟨M, ext, g', 0, c', l⟩ rfl rfl
    have hinv : (⟨M, ext, g', 0, c', l⟩ : Ctx).inv 0 false W := ⟨⟨C, hM, hC⟩, h4, ⟨CC, fz, h3⟩, ⟨h1, by show l.length ≤ _; omega⟩, by unfold maxLen at h2; omega⟩
    have := pub23 ⟨M, ext, g', 0, c', l⟩ sg W hinv hs h0 hlast
    rw [hn]
    refine this.mono ?_
    rintro r w' ⟨a, f, hr, hN, hf, ha, hb, hlt⟩
    refine ⟨a, f, hr, hN, hf, hb, hlt, by rw [ha]; exact hj, ?_⟩
    rw [ha]
    have hw' : gw (outG l sg 0 0) ≤ 4 * l.length + 1 := hw
    show gw (outG l sg 0 0) ≤ 40001
    omega)
  have C22 : Hid (∀ W (a : Nat) (f : F), NodeIs W a (nodeArr 4 nilP f.headP f.lastP nilP nilP nilS nilS nilS) → f.at W → (∀ b ∈ a :: f.blocks, b < W.heap.size) → gw f.abs ≤ 40001 → Calls Tryz.prog 22 #[ptr a] W fun r w' => ∃ vo vs, r = .returned vo ∧ w'.ownsRow W.heap.size 53 25 vo (f.blocks.length + 1) vs ∧ RowsAre w' (⟨-1, 4, none, none, none⟩ :: flatF f 0 1) vs ∧ Below W.heap.size W w') := Lib.hid (fun W a f hN hf hlt hw => by
    have hb : f.blocks.length ≤ 900000 := by have h1 := flatG_gw f.abs 0; rw [flat_len] at h1; omega
    refine (plain22 gather_ok a f W hN hf hlt (small_gw f (by omega)) hb).mono ?_
    rintro r w' ⟨vo, vs, h1, h2, h3, h4⟩
    refine ⟨vo, vs, h1, h2, ?_, h4⟩
    rw [flat_head] at h3
    exact h3)
  have HBD := Lib.hid (Below.refl w.heap.size w)
  clear hn hR hg h0 hlast hl hseg
  go_enter Tryz.func9, Tryz.ntmps9
  go_wp2_with (first
    | (go_at_call 24; refine (C24.out _).mono ?_; rintro r w1 ⟨M, C, rfl, hb1, hM, hC⟩; have HB1 := Lib.hid hb1; have HM1 := Lib.hid hM; have HC1 := Lib.hid hC; clear hb1 hM hC)
    | (go_at_call 25; refine (C25.out _ HB1.out).mono ?_; rintro r w2 ⟨g', c', rfl, hv, hb2, -⟩; have HV2 := Lib.hid hv; have HB2 := Lib.hid (HB1.out.trans (hb2.mono HB1.out.size)); have HM2 := Lib.hid (HM1.out.below' hb2); clear hv hb2)
    | (go_at_call 23; refine (C23.out _ _ _ _ _ HM2.out HC1.out HV2.out).mono ?_; rintro r w3 ⟨a, f, rfl, hN, hf, hb3, hlt, hj, hw⟩; have HN3 := Lib.hid hN; have HF3 := Lib.hid hf; have HB3 := Lib.hid (HB2.out.trans (hb3.mono HB2.out.size)); have HL3 := Lib.hid hlt; have HJ := Lib.hid hj; have HW := Lib.hid hw; clear hN hf hb3 hlt hj hw)
    | (go_at_call 22; refine (C22.out _ _ _ HN3.out HF3.out HL3.out HW.out).mono ?_; rintro r w4 ⟨vo, vs, rfl, ho, hr, hb4⟩; have HO4 := Lib.hid ho; have HR4 := Lib.hid hr; have HB4 := Lib.hid (HB3.out.trans (hb4.mono HB3.out.size)); clear ho hr hb4))
  go_ret
  exact ⟨vo, vs, f, rfl, own_base HO4.out HB3.out.size, HR4.out, HB4.out, HJ.out, HW.out⟩

theorem joinStep_len (out : List InN) (n : InN) : (joinStep out n).length ≤ out.length + 1 := by
  unfold joinStep
  split
  · split
    · omega
    · split
      · rw [List.length_append, List.length_singleton]; exact Nat.le_refl _
      · split
        · rw [List.length_append, List.length_singleton, List.length_dropLast]; omega
        · rw [List.length_append, List.length_singleton]; exact Nat.le_refl _
  · rw [List.length_append, List.length_singleton]; exact Nat.le_refl _
theorem foldl_len : ∀ (l out : List InN), (l.foldl joinStep out).length ≤ out.length + l.length
  | [], out => Nat.le_refl _
  | n :: l, out => by
    have h1 := foldl_len l (joinStep out n)
    have h2 := joinStep_len out n
    rw [List.foldl_cons, List.length_cons]
    omega
theorem joined_len (l : List InN) : (joined l).length ≤ l.length := by
  have := foldl_len l []
  simpa [joined] using this
set_option maxRecDepth 100000 in
set_option maxHeartbeats 8000000 in
theorem law3 (e : Int) (A : Option Addr) (n c : Nat) (l : List Pc) (w : World) (h : RdP w A n c l) : Calls Tryz.prog 3 #[.int .i64 e, .slice A n c] w fun r w' => r = .returned (.bool true) ∧ Below w.heap.size w w' := by
  have hn63 : n ≤ 9223372036854775807 := by have h1 := h.2.1; have h2 := h.2.2.1; unfold maxLen at h2; omega
  have HRP := Lib.hid h
  have F4 := Lib.hid (fits4 A n c l w h)
  have F5 := Lib.hid (fun w => few5 A n c e w hn63)
  clear h hn63
  go_enter Tryz.func3, Tryz.ntmps3
  go_upto_region 5 with (first
    | (go_at_call 4; refine F4.out.mono ?_; rintro r w1 ⟨⟨b, rfl, hb⟩, hb1⟩; have HB1 := Lib.hid hb1; have HF1 := Lib.hid hb; clear hb1 hb; cases b)
    | (go_at_call 5; refine (F5.out _).mono ?_; rintro r w2 ⟨⟨b, rfl, hb⟩, rfl⟩; have HF2 := Lib.hid hb; clear hb; cases b))
  any_goals (go_ret; exact ⟨rfl, HB1.out⟩)
  have hfit := HF1.out (by first | rfl | trivial)
  obtain ⟨he0, he1, hn0, hn24⟩ := HF2.out (by first | rfl | trivial)
  obtain ⟨ext, rfl⟩ : ∃ ext : Nat, e = ext := ⟨e.toNat, by omega⟩
  have hx : ext ≤ 131070 := by omega
  have F6 := Lib.hid (line6 A n c l ext w1 (HRP.out.below HB1.out) hn0 hn24 hfit hx)
  clear F4 F5 HF1 HF2 he0 he1 hfit
  go_upto_region 8 with (go_at_call 6; refine F6.out.mono ?_; rintro r w2 ⟨hb2, (⟨u, v, rfl⟩ | ⟨hall, v, rfl, hown⟩)⟩)
  · go_ret
    exact ⟨rfl, HB1.out.trans (hb2.mono HB1.out.size)⟩
  obtain ⟨J, hJ⟩ : ∃ J, J = joined (lineM ext l) := ⟨_, rfl⟩
  rw [← hJ] at hown
  obtain ⟨T, hT⟩ : ∃ T, T = lineW l := ⟨_, rfl⟩
  rw [← hT]
  have hlen : l.length = n := HRP.out.1.symm
  have hTl : T.length ≤ 10000 := by have := line_len l true hall; rw [hlen, ← hT] at this; omega
  obtain ⟨hT0, hT1⟩ := line_last l true hall (by rintro rfl; simp at hlen; omega)
  rw [← hT] at hT0 hT1
  have hty := lineM_ty ext l
  have hseg : ∀ x : Ctx, x.ext = ext → x.D = T → ∃ sg, SegsOk x 1 false sg 0 ∧ joined (flatG 0 (outG x.D sg 0 0)) = J ∧ gw (outG x.D sg 0 0) ≤ 4 * x.D.length + 1 := fun x h1 h2 => by
    subst h1
    obtain ⟨sg, g1, g2, g3⟩ := line_segs hx hall (h2.trans hT)
    exact ⟨sg, g1, by rw [hJ]; exact g2, g3⟩
  have hcv : (convert 9 34 (.string ⟨T.toArray⟩)).run Tryz.prog w2 = .ok (.slice (some ⟨w2.heap.size, 0, none⟩) T.length (grownCap w2 T.length 0 5)) (Lib.bytesWorld w2 5 ⟨T.toArray⟩) := Lib.run_convert_string_bytes w2 9 34 5 ⟨T.toArray⟩ Tryz.underlying9 Tryz.underlying34 Tryz.underlying5
  have hbw : Below w2.heap.size w2 (Lib.bytesWorld w2 5 ⟨T.toArray⟩) := Joins.below_bytesWorld _ w2 5 _ (Nat.le_refl _)
  have hrd : RdO (Lib.bytesWorld w2 5 ⟨T.toArray⟩) w2.heap.size 0 T := fun i hi => by
    rw [Nat.zero_add]
    exact Lib.bytesWorld_cell w2 5 ⟨T.toArray⟩ i hi
  have hlt : w2.heap.size < (Lib.bytesWorld w2 5 ⟨T.toArray⟩).heap.size := by rw [Lib.bytesWorld_size]; omega
  generalize hWB : Lib.bytesWorld w2 5 ⟨T.toArray⟩ = WB at hcv hbw hrd hlt
  generalize grownCap w2 T.length 0 5 = cp at hcv
  have C9 := Lib.hid (inline9 ext hx w2.heap.size cp T J WB hrd hlt hT0 hT1 hTl hseg)
  have HBW2 := Lib.hid (HB1.out.trans (hb2.mono HB1.out.size))
  have HBWB := Lib.hid hbw
  have HOWN := Lib.hid hown
  have HJ := Lib.hid hJ
  have HTY := Lib.hid hty
  have HNl := Lib.hid hlen
  have C8 : Hid (∀ W (vo : Value) (vs : List Value) (f : F) (B : Nat), W.ownsRow B 53 25 vo (f.blocks.length + 1) vs → RowsAre W (⟨-1, 4, none, none, none⟩ :: flatF f 0 1) vs → gw f.abs ≤ 40001 → Calls Tryz.prog 8 #[vo] W fun r w' => ∃ v', r = .returned v' ∧ w'.ownsRow W.heap.size 49 25 v' (f.blocks.length + 1) vs ∧ RowsAre w' (⟨-1, 4, none, none, none⟩ :: flatF f 0 1) vs ∧ Below W.heap.size W w') := Lib.hid (fun W vo vs f B ho hr hw => by
    have h1 := flatG_gw f.abs 0
    rw [flat_len] at h1
    exact spec8 B vo _ vs _ W ho hr (by rw [List.length_cons, flatF_length]) (by omega) (by omega))
  have C7 : Hid (∀ W (vo : Value) (vs : List Value) (f : F) (B : Nat), W.ownsRow B 49 25 vo (f.blocks.length + 1) vs → RowsAre W (⟨-1, 4, none, none, none⟩ :: flatF f 0 1) vs → gw f.abs ≤ 40001 → joined (flatG 0 f.abs) = J → Calls Tryz.prog 7 #[vo, .int .i64 0] W fun r w' => ∃ v', r = .returned (.tuple #[v', .bool true]) ∧ OwnN w' W.heap.size v' J ∧ Below W.heap.size W w') := Lib.hid (fun W vo vs f B ho hr hw hj => by
    have h1 := flatG_gw f.abs 0
    rw [← hj]
    exact nodes7 vo vs _ _ (flatG 0 f.abs) B W (by rw [flatF_length]; exact ho) hr rfl rfl (rowsOf_flat f) (inl_of_joined (by rw [hj, HJ.out]) HTY.out) (by omega) (by omega))
  have HJL : Hid (J.length ≤ 1000000) := Lib.hid (by
    rw [hJ]
    have h1 := joined_len (lineM ext l)
    have key : ∀ (l : List Pc) (bg : Bool), AllRight ext bg l → (lineM ext l).length ≤ 6 * l.length := by
      intro l
      induction l with
      | nil => intro _ _; exact Nat.le_refl _
      | cons p r ih =>
        intro bg h
        cases r with
        | nil => have := me_len h.1 ext; rw [lineM, List.length_singleton]; omega
        | cons q r =>
          have h1 := me_len h.1 ext
          have h2 := ih _ h.2.2
          have h3 := sepM_len ext p.sep.toNat
          have h4 : (p :: q :: r).length = (q :: r).length + 1 := rfl
          rw [lineM, List.length_append, List.length_append]
          omega
    have h2 := key l true hall
    omega)
  have C10 : Hid (∀ W (v1 v2 : Value) (B1 B2 : Nat), OwnN W B1 v1 J → OwnN W B2 v2 J → Calls Tryz.prog 10 #[v1, v2] W fun r w' => r = .returned (.bool true) ∧ Below W.heap.size W w') := Lib.hid (fun W v1 v2 B1 B2 h1 h2 => same10 v1 v2 J HJL.out W h1.rd h2.rd)
  clear hrd hlt hT0 hT1 hTl hseg hJ hT hlen hty hall hown hbw hb2 hWB F6
  simp only [strV]
  go_wp2_with (first
    | (go_at_call 9; refine C9.out.mono ?_; rintro r w3 ⟨vo, vs, f, rfl, ho, hr, hb3, hj, hw⟩; have HO3 := Lib.hid ho; have HR3 := Lib.hid hr; have HB3 := Lib.hid (HBWB.out.trans (hb3.mono HBWB.out.size)); have HJ3 := Lib.hid hj; have HW3 := Lib.hid hw; clear ho hr hb3 hj hw)
    | (go_at_call 8; refine (C8.out _ _ _ _ _ HO3.out HR3.out HW3.out).mono ?_; rintro r w4 ⟨v4, rfl, ho, hr, hb4⟩; have HO4 := Lib.hid ho; have HR4 := Lib.hid hr; have HB4 := Lib.hid (HB3.out.trans (hb4.mono HB3.out.size)); clear ho hr hb4)
    | (go_at_call 7; refine (C7.out _ _ _ _ _ HO4.out HR4.out HW3.out HJ3.out).mono ?_; rintro r w5 ⟨v5, rfl, ho, hb5⟩; have HO5 := Lib.hid ho; have HB5 := Lib.hid (HB4.out.trans (hb5.mono HB4.out.size)); clear ho hb5)
    | (go_at_call 10; refine (C10.out _ _ _ _ _ HO5.out (own_below HOWN.out HB5.out)).mono ?_; rintro r w6 ⟨rfl, hb6⟩; have HB6 := Lib.hid (HB5.out.trans (hb6.mono HB5.out.size)); clear hb6))
  go_ret
  exact ⟨rfl, HBW2.out.trans (HB6.out.mono HBW2.out.size)⟩
end Go.Proofs.YtalajbfpilhfgaaGreatDoor
