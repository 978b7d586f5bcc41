/- FnUnescapeInfo: the walk of the law. -/
import Derived.Test.YtkogokjlpgnmlaaI13
import Derived.Test.YtkogokjlpgnmlaaL3
set_option linter.unusedVariables false
set_option linter.unusedSimpArgs false
namespace Go.Proofs.Ytkogokjlpgnmlaa
open Go.RowKit

theorem plainB_all : ∀ (l : Bs), plainB l = true → PlainL l
  | [], _, j, hj => absurd hj (by simp)
  | c :: r, h, j, hj => by
    rw [plainB] at h
    split at h
    · cases h
    · rename_i hc
      cases j with
      | zero => simpa using by omega
      | succ j =>
        have := plainB_all r h j (by simpa using hj)
        simpa using this
theorem rowB_rd {w : World} {A : Option Addr} {len cap : Nat} {l : Bs} (h : RowB w A len cap l) (h0 : 0 < len) : ∃ b off, A = some ⟨b, off, none⟩ ∧ RdO w b off l ∧ b < w.heap.size := by
  rcases h with ⟨_, rfl, _, _⟩ | ⟨x, rfl, h1, h2⟩
  · omega
  · have hx := h2 0 h0
    obtain ⟨b, off, s⟩ := x
    have hs : s = none := by
      rw [show (Addr.add ⟨b, off, s⟩ 0) = ⟨b, off, s⟩ from rfl] at hx
      cases s with
      | none => rfl
      | some k =>
        unfold World.cell? at hx
        split at hx <;> simp at hx
    subst hs
    refine ⟨b, off, rfl, fun i hi => ?_, ?_⟩
    · rw [← add_at]
      exact h2 i (by omega)
    · exact Lib.lt_of_cell hx

theorem slB_const (W : World) (l : Bs) (fr : Nat × Nat) (hl : l.length ≤ maxLen) : SlB (W.alloc (.cells (cellsB l).toArray 5 fr)) (.slice (some ⟨W.heap.size, 0, none⟩) l.length l.length) l := by
  have hh : (W.alloc (.cells (cellsB l).toArray 5 fr)).heap[W.heap.size]? = some (.cells (cellsB l).toArray 5 fr) := by
    show (W.heap.push _)[W.heap.size]? = _
    simp
  refine Or.inr ⟨W.heap.size, l.length, rfl, Nat.le_refl _, hl, Lib.lt_of_heap hh, fun j x hj => ?_⟩
  unfold World.cell?
  rw [hh]
  simpa using hj

theorem strCells_eq (s : ByteArray) : Lib.strCells s = cellsB s.data.toList := by
  unfold Lib.strCells cellsB
  simp

set_option maxRecDepth 100000 in
set_option maxHeartbeats 8000000 in
theorem info_walk (A : Option Addr) (len cap : Nat) (l : Bs) (w : World) (hA : RowB w A len cap l) (hcap : len ≤ cap) :
    Calls Try.prog 6 #[.slice A len cap] w fun e w' => e = .returned (.bool true) ∧ Below w.heap.size w w' := by
  by_cases hbig : 300 < len
  · clear hA
    by_cases hb2 : 2147483647 < len
    · go_enter Try.func6, Try.ntmps6
      go_wp2
      go_ret
      exact ⟨rfl, Below.refl _ _⟩
    · go_enter Try.func6, Try.ntmps6
      go_wp2
      go_ret
      exact ⟨rfl, Below.refl _ _⟩
  · have hll := rowB_len hA
    obtain ⟨L, hL⟩ : ∃ L : ByteArray, L = ⟨l.toArray⟩ := ⟨_, rfl⟩
    have hcv : (convert 29 9 (.slice A len cap)).run Try.prog w = .ok (.string L) w := by rw [hL]; exact conv_row hA
    have c15 := plain15 L w (by rw [hL]; show l.toArray.size ≤ _; simp; omega)
    have eL : L.data.toList = l := by rw [hL]
    rw [eL] at c15
    obtain ⟨pb, hpb⟩ : ∃ pb, pb = plainB l := ⟨_, rfl⟩
    rw [← hpb] at c15
    have C15 := Lib.hid c15
    clear c15
    cases pb with
    | false =>
      clear hpb hL eL hA hll
      go_enter Try.func6, Try.ntmps6
      go_wp2_with (go_at_call 15; refine C15.out.mono ?_; rintro e w' ⟨rfl, rfl⟩)
      go_ret
      exact ⟨rfl, Below.refl _ _⟩
    | true =>
      have hp := plainB_all l hpb.symm
      have hrl := infoR_len l
      obtain ⟨R, hRR⟩ : ∃ R, R = infoR l := ⟨_, rfl⟩
      obtain ⟨RB, hRB⟩ : ∃ RB : ByteArray, RB = ⟨R.toArray⟩ := ⟨_, rfl⟩
      obtain ⟨m, hm⟩ : ∃ m, m = memF 38 l := ⟨_, rfl⟩
      have hrd : 0 < len → ∃ b off, A = some ⟨b, off, none⟩ ∧ RdO w b off l ∧ b < w.heap.size := fun h => rowB_rd hA h
      have c16 : Calls Try.prog 16 #[.slice A len cap] w fun e w' => e = .returned (.bool m) ∧ w = w' := by
        rw [hm]
        by_cases h0 : 0 < len
        · obtain ⟨b, off, rfl, h1, h2⟩ := hrd h0
          exact amp16 _ b off len cap l w (fun _ => rfl) hll (by omega) h1
        · exact amp16 A 0 0 len cap l w (fun h => absurd h h0) hll (by omega) (fun i hi => by omega)
      have C16 := Lib.hid c16
      have HA := Lib.hid hA
      have HRR := Lib.hid hRR
      have HRB := Lib.hid hRB
      have HLL := Lib.hid hll
      have HP := Lib.hid hp
      have HRL := Lib.hid hrl
      have HRD := Lib.hid hrd
      have HM := Lib.hid hm
      clear c16 hA hRR hRB hll hp hrl hrd hm hpb hL eL
      go_enter Try.func6, Try.ntmps6
      go_upto_if 20 with (first
        | (go_at_call 15; refine C15.out.mono ?_; rintro e w' ⟨rfl, rfl⟩)
        | (go_at_call 16; refine C16.out.mono ?_; rintro e w' ⟨rfl, rfl⟩))
      go_cut [3] (fun v3 wc => Hid (Below w.heap.size w wc) ∧ Hid (∀ W', Below wc.heap.size wc W' → (convert 29 9 v3).run Try.prog W' = .ok (.string RB) W'))
      case first =>
        cases m with
        | false =>
          go_wp2_with fail
          go_meet
          case rel =>
            refine ⟨Below.refl _ _, fun W' hW => ?_⟩
            have := conv_row (rowB_below HA.out hW)
            rw [HRB.out, HRR.out]
            unfold infoR
            rw [← HM.out, if_neg (by decide)]
            exact this
        | true =>
          have hlpos : 0 < len := by
            rcases Nat.eq_zero_or_pos len with h | h
            · exfalso
              have h1 := HLL.out
              rw [h] at h1
              have h2 := HM.out
              rw [List.eq_nil_of_length_eq_zero h1] at h2
              cases h2
            · exact h
          obtain ⟨b, off, rfl, hR, hb⟩ := HRD.out hlpos
          have HR := Lib.hid hR
          have hrw : R = infoW l len 0 := by
            rw [HRR.out]
            unfold infoR
            rw [← HM.out, if_pos rfl, HLL.out]
          have HRW := Lib.hid hrw
          clear hR hrw
          go_wp2_with fail
          go_loopg [3, 4] len (fun q v3 v4 wr => ∃ (i f : Nat) (O : Bs), v4 = .int .i64 (i : Nat) ∧ q + i = len ∧ i ≤ len ∧ len - i ≤ f ∧ O.length ≤ i ∧ Hid (Lib.OwnBuf w.heap.size 5 v3 O.length (cellsB O) w wr) ∧ Hid (R = O ++ infoW l f i))
          case atStart => exact ⟨0, len, [], rfl, by omega, by omega, by omega, by simp, ⟨World.ownsRowF_nil _ _ _ _, Below.refl _ _, Nat.le_refl _⟩, HRW.out⟩
          case round =>
            obtain ⟨i, f, O, rfl, hq, hin, hf, hO, HO, HW⟩ := hrel
            have HQ := Lib.hid hq
            clear hq
            have HB : Hid (Below w.heap.size w wr) := HO.out.2.1
            obtain ⟨i0, hinf, hz0, hz1, hz2⟩ := info_parts info5
            have HI0 := Lib.hid hinf
            have HZ0 := Lib.hid hz0
            have HZ1 := Lib.hid hz1
            have HZ2 := Lib.hid hz2
            have FIN : Hid (∀ x v3 w3, Lib.OwnBuf w.heap.size 5 v3 (O.length + 1) (cellsB O ++ [.int .u8 (UInt8.toNat x)]) w w3 → Lib.OwnBuf w.heap.size 5 v3 (O ++ [x]).length (cellsB (O ++ [x])) w w3) := fun x v3 w3 h => by
              rw [List.length_append, cellsB_append]
              exact h
            clear hinf hz0 hz1 hz2
            by_cases hi : i < len
            · obtain ⟨f, rfl⟩ : ∃ k, f = k + 1 := ⟨f - 1, by omega⟩
              have HR2 : Hid (RdO wr b off l) := rdO_below HR.out HB.out hb
              obtain ⟨x, hx⟩ : ∃ x, x = l.getD i 0 := ⟨_, rfl⟩
              have hcx : wr.cell? ⟨b, off + i, none⟩ = some (.int .u8 x.toNat) := by rw [hx]; exact HR2.out i (by rw [HLL.out]; exact hi)
              by_cases hA : l.getD i 0 = 92 ∧ i + 1 < l.length ∧ isPun (l.getD (i + 1) 0) = true
              · have hst := HW.out
                rw [infoW_esc (by rw [HLL.out]; exact hi) hA] at hst
                obtain ⟨h92, h1, hpu⟩ := hA
                rw [HLL.out] at h1
                obtain ⟨y, hy⟩ : ∃ y, y = l.getD (i + 1) 0 := ⟨_, rfl⟩
                have hcy : wr.cell? ⟨b, off + (i + 1), none⟩ = some (.int .u8 y.toNat) := by rw [hy]; exact HR2.out (i + 1) (by rw [HLL.out]; exact h1)
                have b92 : ((x.toNat : Int) == 92) = true := by rw [hx, h92]; rfl
                have C17 := Lib.hid (fun w => pun17 y w)
                rw [← hy] at hpu hst
                rw [hpu] at C17
                have HST := Lib.hid hst
                clear hst h92 hpu hx hy HW
                go_wp2_with (first
                  | (go_at_call 17; refine (C17.out _).mono ?_; rintro e w1 ⟨rfl, rfl⟩)
                  | (at_builtin; refine Lib.wpList_append_byte rfl (.tmp 45) (.tmp 51) 29 rfl w.heap.size 5 i0 Try.underlying29 HI0.out HZ0.out HZ1.out HZ2.out u3 O.length (cellsB O) rfl w _ (y.toNat : Int) HO.out rfl (by omega) ?_; intro v3 w3 hob; have HOB := Lib.hid hob; clear hob))
                go_roundg (len - (i + 2))
                case measure => have := HQ.out; omega
                case rel => exact ⟨i + 2, f, O ++ [y], by go_num, by omega, by omega, by omega, by simp; omega, FIN.out _ _ _ HOB.out, by show _ = _; rw [HST.out, List.append_assoc]; rfl⟩
              · have C18 : Hid (Calls Try.prog 18 #[.slice (some ⟨b, off, none⟩) len cap, .int .i64 i] wr fun e w' => e = .returned (.int .i64 (infoE l i : Nat)) ∧ wr = w') := info_any (some ⟨b, off, none⟩) b off len cap i l wr (fun _ => rfl) HLL.out (by omega) hin HR2.out
                by_cases hE : 0 < infoE l i
                · have hst := HW.out
                  rw [infoW_ent (by rw [HLL.out]; exact hi) hA hE] at hst
                  obtain ⟨e1, e2, e3⟩ := infoE_le hE
                  rw [HLL.out] at e2
                  obtain ⟨E, hEE⟩ : ∃ E, E = infoE l i := ⟨_, rfl⟩
                  rw [← hEE] at hst e1 e2 hE C18
                  obtain ⟨S, hS⟩ : ∃ S, S = (l.drop i).take (E - i) := ⟨_, rfl⟩
                  have hSl : S.length = E - i := by rw [hS]; simp; rw [HLL.out]; omega
                  rw [← hS] at hst
                  have b92 : ((x.toNat : Int) == 92) = false := byte_ne (by decide) (by rw [hx, e3]; decide)
                  have hul := unescape_len S.length S (Nat.le_refl _)
                  rw [hSl] at hul
                  obtain ⟨SB, hSB⟩ : ∃ SB : ByteArray, SB = ⟨S.toArray⟩ := ⟨_, rfl⟩
                  obtain ⟨T, hT⟩ : ∃ T, T = unescape S := ⟨_, rfl⟩
                  obtain ⟨TB, hTB⟩ : ∃ TB : ByteArray, TB = ⟨T.toArray⟩ := ⟨_, rfl⟩
                  have hcv2 : (convert 29 9 (.slice (some ⟨b, off + i, none⟩) (E - i) (cap - i))).run Try.prog wr = .ok (.string SB) wr := by
                    have hr := rdO_sub HR2.out i (E - i)
                    rw [← hS] at hr
                    rw [hSB, ← hSl]
                    exact run_convert_bytes_back (P := Try.prog) wr 29 9 5 ⟨b, off + i, none⟩ _ S Try.underlying29 Try.underlying5 Try.underlying9 (fun j hj => by
                      rw [add_at, hr j hj]
                      simp [List.getD_eq_getElem?_getD, List.getElem?_eq_getElem hj])
                  have c9 : Calls Try.prog 9 #[.string SB] wr fun e w' => e = .returned (.string TB) ∧ Below wr.heap.size wr w' := by
                    refine (unesc9 SB wr (by rw [hSB]; show S.toArray.size ≤ _; simp; omega)).mono ?_
                    rintro e w' ⟨rfl, h2⟩
                    have e1 : SB.data.toList = S := by rw [hSB]
                    rw [e1, ← hT, ← hTB]
                    exact ⟨rfl, h2⟩
                  have hTl : TB.size = T.length := by rw [hTB]; rfl
                  have hTc : Lib.strCells TB = cellsB T := by rw [strCells_eq, hTB]
                  rw [← hT] at hst hul
                  have HTL := Lib.hid hTl
                  have HTC := Lib.hid hTc
                  have C9 := Lib.hid c9
                  have HST := Lib.hid hst
                  clear hst hx c9 hA hEE hS hT hSl e3 hSB hTB HW hTl hTc
                  go_wp2_with (first
                    | (go_at_call 18; refine C18.out.mono ?_; rintro e w1 ⟨rfl, rfl⟩)
                    | (go_at_call 9; refine C9.out.mono ?_; rintro e w1 ⟨rfl, hb1⟩; have HB1 := Lib.hid hb1; clear hb1)
                    | (at_builtin; refine Lib.wpList_append_text rfl (.tmp 60) (.tmp 66) 29 9 rfl w.heap.size 5 i0 Try.underlying29 Try.underlying9 HI0.out HZ0.out HZ1.out HZ2.out u3 O.length (cellsB O) rfl w (ownBuf_below HO.out HB1.out) TB rfl (by rw [HTL.out]; omega) ?_; intro v3 w3 hob; have HOB := Lib.hid hob; clear hob))
                  go_roundg (len - E)
                  case measure => have := HQ.out; omega
                  case rel =>
                    refine ⟨E, f, O ++ T, by go_num, by omega, by omega, by omega, by simp; omega, ?_, ?_⟩
                    · have := HOB.out
                      rw [HTL.out, HTC.out] at this
                      rw [List.length_append, cellsB_append]
                      exact this
                    · show _ = _
                      rw [HST.out, List.append_assoc]
                · have hst := HW.out
                  rw [infoW_byte (by rw [HLL.out]; exact hi) hA hE, ← hx] at hst
                  rw [show infoE l i = 0 by omega] at C18
                  have C18' : Hid (Calls Try.prog 18 #[.slice (some ⟨b, off, none⟩) len cap, .int .i64 i] wr fun e w' => e = .returned (.int .i64 0) ∧ wr = w') := C18
                  have HST := Lib.hid hst
                  clear hst HW hE C18
                  by_cases h92 : x = 92
                  · have b92 : ((x.toNat : Int) == 92) = true := by rw [h92]; rfl
                    by_cases h1 : i + 1 < len
                    · obtain ⟨y, hy⟩ : ∃ y, y = l.getD (i + 1) 0 := ⟨_, rfl⟩
                      have hcy : wr.cell? ⟨b, off + (i + 1), none⟩ = some (.int .u8 y.toNat) := by rw [hy]; exact HR2.out (i + 1) (by rw [HLL.out]; exact h1)
                      have hpu : isPun y = false := by
                        cases hpu : isPun y with
                        | false => rfl
                        | true => exact absurd ⟨hx.symm.trans h92, by rw [HLL.out]; exact h1, by rw [← hy]; exact hpu⟩ hA
                      have C17 := Lib.hid (fun w => pun17 y w)
                      rw [hpu] at C17
                      clear hpu hy h92 hA hx
                      go_wp2_with (first
                        | (go_at_call 17; refine (C17.out _).mono ?_; rintro e w1 ⟨rfl, rfl⟩)
                        | (go_at_call 18; refine C18'.out.mono ?_; rintro e w1 ⟨rfl, rfl⟩)
                        | (at_builtin; refine Lib.wpList_append_byte rfl (.tmp 69) (.tmp 74) 29 rfl w.heap.size 5 i0 Try.underlying29 HI0.out HZ0.out HZ1.out HZ2.out u3 O.length (cellsB O) rfl w _ (x.toNat : Int) HO.out rfl (by omega) ?_; intro v3 w3 hob; have HOB := Lib.hid hob; clear hob))
                      go_roundg (len - (i + 1))
                      case measure => have := HQ.out; omega
                      case rel => exact ⟨i + 1, f, O ++ [x], by go_num, by omega, by omega, by omega, by simp; omega, FIN.out _ _ _ HOB.out, by show _ = _; rw [HST.out, List.append_assoc]; rfl⟩
                    · clear h92 hA hx
                      go_wp2_with (first
                        | (go_at_call 18; refine C18'.out.mono ?_; rintro e w1 ⟨rfl, rfl⟩)
                        | (at_builtin; refine Lib.wpList_append_byte rfl (.tmp 69) (.tmp 74) 29 rfl w.heap.size 5 i0 Try.underlying29 HI0.out HZ0.out HZ1.out HZ2.out u3 O.length (cellsB O) rfl w _ (x.toNat : Int) HO.out rfl (by omega) ?_; intro v3 w3 hob; have HOB := Lib.hid hob; clear hob))
                      go_roundg (len - (i + 1))
                      case measure => have := HQ.out; omega
                      case rel => exact ⟨i + 1, f, O ++ [x], by go_num, by omega, by omega, by omega, by simp; omega, FIN.out _ _ _ HOB.out, by show _ = _; rw [HST.out, List.append_assoc]; rfl⟩
                  · have b92 : ((x.toNat : Int) == 92) = false := byte_ne (by decide) h92
                    clear h92 hA hx
                    go_wp2_with (first
                      | (go_at_call 18; refine C18'.out.mono ?_; rintro e w1 ⟨rfl, rfl⟩)
                      | (at_builtin; refine Lib.wpList_append_byte rfl (.tmp 69) (.tmp 74) 29 rfl w.heap.size 5 i0 Try.underlying29 HI0.out HZ0.out HZ1.out HZ2.out u3 O.length (cellsB O) rfl w _ (x.toNat : Int) HO.out rfl (by omega) ?_; intro v3 w3 hob; have HOB := Lib.hid hob; clear hob))
                    go_roundg (len - (i + 1))
                    case measure => have := HQ.out; omega
                    case rel => exact ⟨i + 1, f, O ++ [x], by go_num, by omega, by omega, by omega, by simp; omega, FIN.out _ _ _ HOB.out, by show _ = _; rw [HST.out, List.append_assoc]; rfl⟩
            · have hst := HW.out
              rw [infoW_end (by rw [HLL.out]; exact hi), List.append_nil] at hst
              have HST := Lib.hid hst
              clear hst HW
              go_wp2_with fail
              go_meet
              case rel =>
                refine ⟨HB.out, fun W' hW => ?_⟩
                rw [HRB.out, HST.out]
                exact conv_sl (slB_below (slB_of_own HO.out) hW)
      case rest =>
        obtain ⟨HBC, HCV⟩ := hcut
        have c1 : ∀ W, Below wc.heap.size wc W → Calls Try.prog 11 #[.slice A len cap] W fun e w' => ∃ v', e = .returned v' ∧ SlB w' v' l ∧ Below wc.heap.size wc w' := fun W hW => by
          have hb := HBC.out.trans (hW.mono HBC.out.size)
          refine (clone_row (rowB_below HA.out hb) (by omega)).mono ?_
          rintro e w' ⟨v', rfl, h1, h2, h3⟩
          exact ⟨v', rfl, h1, hW.trans (h2.mono hW.size)⟩
        have c2 : ∀ v1 W, SlB W v1 l → Below wc.heap.size wc W → Calls Try.prog 19 #[v1] W fun e w' => ∃ v', e = .returned v' ∧ SlB w' v' R ∧ Below wc.heap.size wc w' := fun v1 W h1 hW => by
          refine (info19 v1 l W h1 (by rw [HLL.out]; omega) HP.out).mono ?_
          rintro e w' ⟨v', rfl, k1, k2, k3⟩
          rw [← HRR.out] at k1
          exact ⟨v', rfl, k1, hW.trans (k2.mono hW.size)⟩
        have c5 : ∀ v2 W, SlB W v2 R → Below wc.heap.size wc W → Calls Try.prog 12 #[v2, u3] W fun e w' => e = .returned (.bool true) ∧ W = w' := fun v2 W h1 hW => by
          refine (Try.bytes_Equal_strs v2 u3 _ _ W (conv_sl h1) (HCV.out W hW)).mono ?_
          rintro e w' ⟨rfl, rfl⟩
          exact ⟨by rw [HRB.out, beq_self_eq_true], rfl⟩
        have c6 : ∀ W fr, Below wc.heap.size wc W → Calls Try.prog 19 #[.slice (some ⟨W.heap.size, 0, none⟩) 4 4] (W.alloc (.cells #[.int .u8 38, .int .u8 108, .int .u8 116, .int .u8 59] 5 fr)) fun e w' => ∃ v', e = .returned v' ∧ Below wc.heap.size wc w' ∧ (convert 29 9 v').run Try.prog w' = .ok (.string ⟨#[60]⟩) w' := fun W fr hW => by
          have hs := slB_const W [38, 108, 116, 59] fr (by unfold maxLen; decide)
          have hb := hW.alloc hW.size (.cells #[.int .u8 38, .int .u8 108, .int .u8 116, .int .u8 59] 5 fr)
          refine (info19 _ [38, 108, 116, 59] _ hs (by decide) (plainB_all _ (by decide))).mono ?_
          rintro e w' ⟨v', rfl, k1, k2, k3⟩
          rw [info_lt] at k1
          exact ⟨v', rfl, hb.trans (k2.mono hb.size), conv_sl k1⟩
        have hcv : ∀ (w : World) (C : Array Value) (n c : Nat), (convert 29 29 (.slice (some ⟨w.heap.size, 0, none⟩) n c)).run Try.prog (w.alloc (.cells C 5)) = .ok (.slice (some ⟨w.heap.size, 0, none⟩) n c) (w.alloc (.cells C 5 (C.size, C.size + 1))) := fun w C n c => Lib.run_convert_bytes_const w 29 5 C n c Try.underlying29 Try.underlying5
        have C1 := Lib.hid c1
        have C2 := Lib.hid c2
        have C5 := Lib.hid c5
        have C6 := Lib.hid c6
        have tok : True := trivial
        clear c1 c2 c5 c6
        go_wp2_with (first
          | (go_at_call 11; refine (C1.out _ (Below.refl _ _)).mono ?_; rintro e w1 ⟨v1, rfl, hs1, hb1⟩; have HS1 := Lib.hid hs1; have HB1 := Lib.hid hb1; clear hs1 hb1)
          | (clear tok; go_at_call 19; refine (C2.out _ _ HS1.out HB1.out).mono ?_; rintro e w2 ⟨v2, rfl, hs2, hb2⟩; have HS2 := Lib.hid hs2; have HB2 := Lib.hid hb2; clear hs2 hb2)
          | (go_at_call 12; refine (C5.out _ _ HS2.out HB2.out).mono ?_; rintro e w6 ⟨rfl, rfl⟩)
          | (go_at_call 19; refine (C6.out _ _ HB2.out).mono ?_; rintro e w8 ⟨v8, rfl, hb8, hc8⟩; have HB8 := Lib.hid hb8; clear hb8))
        all_goals (go_ret; exact ⟨rfl, HBC.out.trans (HB8.out.mono HBC.out.size)⟩)
end Go.Proofs.Ytkogokjlpgnmlaa
