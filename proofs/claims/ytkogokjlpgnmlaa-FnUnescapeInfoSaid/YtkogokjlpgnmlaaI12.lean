/- FnUnescapeInfo: zzReplaceEscaped. -/
import Derived.Test.YtkogokjlpgnmlaaI11
set_option linter.unusedVariables false
set_option linter.unusedSimpArgs false
namespace Go.Proofs.Ytkogokjlpgnmlaa
open Go.RowKit
theorem cellsB_append (a b : Bs) : cellsB (a ++ b) = cellsB a ++ cellsB b := by unfold cellsB; rw [List.map_append]

theorem ownBuf_below {B : Nat} {e : TypeId} {v : Value} {n : Nat} {xs : List Value} {W0 w w1 : World} (h : Lib.OwnBuf B e v n xs W0 w) (hb : Below w.heap.size w w1) : Lib.OwnBuf B e v n xs W0 w1 :=
  ⟨h.1.kept (row := none) ⟨hb.os, hb.tape, hb.output, hb.size, fun i hi _ => hb.block i hi⟩ (by cases v.ownBlock <;> simp), h.2.1.trans (hb.mono h.2.2), Nat.le_trans h.2.2 hb.size⟩
theorem infoW_esc {l : Bs} {f i : Nat} (hi : i < l.length) (h : l.getD i 0 = 92 ∧ i + 1 < l.length ∧ isPun (l.getD (i + 1) 0) = true) : infoW l (f + 1) i = l.getD (i + 1) 0 :: infoW l f (i + 2) := by
  rw [infoW, if_pos hi, if_pos h]
theorem infoW_ent {l : Bs} {f i : Nat} (hi : i < l.length) (h : ¬ (l.getD i 0 = 92 ∧ i + 1 < l.length ∧ isPun (l.getD (i + 1) 0) = true)) (h2 : 0 < infoE l i) : infoW l (f + 1) i = unescape ((l.drop i).take (infoE l i - i)) ++ infoW l f (infoE l i) := by
  rw [infoW, if_pos hi, if_neg h, if_pos h2]
theorem infoW_byte {l : Bs} {f i : Nat} (hi : i < l.length) (h : ¬ (l.getD i 0 = 92 ∧ i + 1 < l.length ∧ isPun (l.getD (i + 1) 0) = true)) (h2 : ¬ 0 < infoE l i) : infoW l (f + 1) i = l.getD i 0 :: infoW l f (i + 1) := by
  rw [infoW, if_pos hi, if_neg h, if_neg h2]
theorem infoW_end {l : Bs} {f i : Nat} (hi : ¬ i < l.length) : infoW l f i = [] := by
  cases f with
  | zero => rfl
  | succ f => rw [infoW, if_neg hi]
theorem rdO_sub {w : World} {b off : Nat} {l : Bs} (h : RdO w b off l) (i k : Nat) : RdO w b (off + i) ((l.drop i).take k) := by
  intro j hj
  simp at hj
  rw [Nat.add_assoc, h (i + j) (by omega)]
  congr 3
  simp [List.getD_eq_getElem?_getD, List.getElem?_take, show j < k by omega]
theorem rdO_below {w w' : World} {b off : Nat} {l : Bs} (h : RdO w b off l) (hb : Below w.heap.size w w') (hlt : b < w.heap.size) : RdO w' b off l := by
  intro j hj
  rw [hb.cell (p := ⟨b, off + j, none⟩) hlt]
  exact h j hj

set_option maxRecDepth 100000 in
set_option maxHeartbeats 4000000 in
theorem repl45 (b off n c : Nat) (l : Bs) (w : World) (hn : l.length = n) (hc : n ≤ 140737488355328) (hcap : n ≤ c) (hR : RdO w b off l) (hp : PlainL l) (hb : b < w.heap.size) :
    Calls Try.prog 45 #[.slice (some ⟨b, off, none⟩) n c, .func (.func 46) #[] #[]] w fun e w' => ∃ v', e = .returned v' ∧ Lib.OwnBuf w.heap.size 5 v' (infoW l n 0).length (cellsB (infoW l n 0)) w w' := by
  obtain ⟨R, hRR⟩ : ∃ R, R = infoW l n 0 := ⟨_, rfl⟩
  rw [← hRR]
  have HRR := Lib.hid hRR
  have HN := Lib.hid hn
  have HR := Lib.hid hR
  have HP := Lib.hid hp
  clear hRR hn hR hp
  go_enter Try.func45, Try.ntmps45
  go_wp2
  go_loopg [5, 6] n (fun q v5 v6 wr => ∃ (i f : Nat) (O : Bs), v6 = .int .i64 (i : Nat) ∧ q + i = n ∧ i ≤ n ∧ n - i ≤ f ∧ O.length ≤ i ∧ Hid (Lib.OwnBuf w.heap.size 5 v5 O.length (cellsB O) w wr) ∧ Hid (R = O ++ infoW l f i))
  case atStart => exact ⟨0, n, [], rfl, by omega, by omega, by omega, by simp, ⟨World.ownsRowF_nil _ _ _ _, Below.refl _ _, Nat.le_refl _⟩, HRR.out⟩
  case round =>
    obtain ⟨i, f, O, rfl, hq, hin, hf, hO, HO, HW⟩ := hrel
    have HQ := Lib.hid hq
    clear hq
    have HB : Hid (Below w.heap.size w wr) := HO.out.2.1
    by_cases hi : i < n
    · obtain ⟨f, rfl⟩ : ∃ k, f = k + 1 := ⟨f - 1, by omega⟩
      have HR2 : Hid (RdO wr b off l) := rdO_below HR.out HB.out hb
      obtain ⟨x, hx⟩ : ∃ x, x = l.getD i 0 := ⟨_, rfl⟩
      have hcx : wr.cell? ⟨b, off + i, none⟩ = some (.int .u8 x.toNat) := by rw [hx]; exact HR2.out i (by rw [HN.out]; exact hi)
      by_cases hA : l.getD i 0 = 92 ∧ i + 1 < l.length ∧ isPun (l.getD (i + 1) 0) = true
      · have hst := HW.out
        rw [infoW_esc (by rw [HN.out]; exact hi) hA] at hst
        obtain ⟨h92, h1, hpu⟩ := hA
        rw [HN.out] at h1
        obtain ⟨y, hy⟩ : ∃ y, y = l.getD (i + 1) 0 := ⟨_, rfl⟩
        have hcy : wr.cell? ⟨b, off + (i + 1), none⟩ = some (.int .u8 y.toNat) := by rw [hy]; exact HR2.out (i + 1) (by rw [HN.out]; exact h1)
        have b92 : ((x.toNat : Int) == 92) = true := by rw [hx, h92]; rfl
        have C52 := Lib.hid (fun w => escb52 y w)
        rw [← hy] at hpu hst
        rw [hpu] at C52
        have c46 : ∀ W, Below wr.heap.size wr W → Calls Try.prog 46 #[.slice (some ⟨b, off + i, none⟩) 2 (c - i)] W fun e w' => ∃ v', e = .returned v' ∧ NewS W [y] v' w' := fun W hW => by
          have hr := rdO_sub (rdO_below HR2.out hW (Nat.lt_of_lt_of_le hb HB.out.size)) i 2
          have := uchar_esc b (off + i) 2 (c - i) ((l.drop i).take 2) W (by simp; rw [HN.out]; omega) (by omega) hr (by rw [List.getD_eq_getElem?_getD, List.getElem?_take]; simp; simpa [List.getD_eq_getElem?_getD] using h92)
          have e1 : ((l.drop i).take 2).getD 1 0 = y := by rw [hy, List.getD_eq_getElem?_getD, List.getElem?_take]; simp [List.getD_eq_getElem?_getD]
          rw [e1] at this
          exact this
        have C46 := Lib.hid c46
        have HST := Lib.hid hst
        clear hst h92 hpu hx hy c46 HW
        go_wp2_with (first
          | (go_at_call 52; refine (C52.out _).mono ?_; rintro e w1 ⟨rfl, hb1⟩; have HB1 := Lib.hid hb1; clear hb1)
          | (go_at_call 46; refine (C46.out _ HB1.out).mono ?_; rintro e w2 ⟨v2, rfl, g, cap, rfl, hs⟩; have HS := Lib.hid hs; clear hs)
          | (at_builtin; refine wpList_append_new rfl (.tmp 39) (.tmp 45) rfl w.heap.size u5 O.length (cellsB O) rfl w (ownBuf_below (ownBuf_below HO.out HB1.out) HS.out.2.2.2) g cap [y] rfl HS.out.2.2.1 (by simp; omega) ?_; intro v3 w3 hob; have HOB := Lib.hid hob; clear hob))
        go_roundg (n - (i + 2))
        case measure => have := HQ.out; omega
        case rel =>
          refine ⟨i + 2, f, O ++ [y], by go_num, by omega, by omega, by omega, by simp; omega, ?_, ?_⟩
          · have := HOB.out
            rw [List.length_append, cellsB_append]
            exact this
          · show _ = _
            rw [HST.out, List.append_assoc]; rfl
      · by_cases hE : 0 < infoE l i
        · have hst := HW.out
          rw [infoW_ent (by rw [HN.out]; exact hi) hA hE] at hst
          obtain ⟨e1, e2, e3⟩ := infoE_le hE
          rw [HN.out] at e2
          obtain ⟨E, hEE⟩ : ∃ E, E = infoE l i := ⟨_, rfl⟩
          have c53 : ∀ W, Below wr.heap.size wr W → Calls Try.prog 53 #[.slice (some ⟨b, off, none⟩) n c, .int .i64 i] W fun e w' => e = .returned (.int .i64 (E : Nat)) ∧ W = w' := fun W hW => by
            have := char_any (some ⟨b, off, none⟩) b off n c i l W (fun _ => rfl) HN.out (by omega) hi (rdO_below HR2.out hW (Nat.lt_of_lt_of_le hb HB.out.size)) HP.out
            rw [charE_info, ← hEE] at this
            exact this
          rw [← hEE] at hst e1 e2 hE
          obtain ⟨S, hS⟩ : ∃ S, S = (l.drop i).take (E - i) := ⟨_, rfl⟩
          have hSl : S.length = E - i := by rw [hS]; simp; rw [HN.out]; omega
          rw [← hS] at hst
          have b92 : ((x.toNat : Int) == 92) = false := byte_ne (by decide) (by rw [hx, e3]; decide)
          have c46 : ∀ W, Below wr.heap.size wr W → Calls Try.prog 46 #[.slice (some ⟨b, off + i, none⟩) (E - i) (c - i)] W fun e w' => ∃ v', e = .returned v' ∧ NewS W (unescape S) v' w' := fun W hW => by
            have hr := rdO_sub (rdO_below HR2.out hW (Nat.lt_of_lt_of_le hb HB.out.size)) i (E - i)
            rw [← hS] at hr
            exact uchar_ent b (off + i) (E - i) (c - i) S W hSl (by omega) (by omega) hr (by rw [hS, List.getD_eq_getElem?_getD, List.getElem?_take, if_pos (by omega), List.getElem?_drop, Nat.add_zero, ← List.getD_eq_getElem?_getD, e3]; decide)
          have hul := unescape_len S.length S (Nat.le_refl _)
          rw [hSl] at hul
          obtain ⟨T, hT⟩ : ∃ T, T = unescape S := ⟨_, rfl⟩
          rw [← hT] at hst c46 hul
          have C53 := Lib.hid c53
          have C46 := Lib.hid c46
          have HST := Lib.hid hst
          clear hst hx c46 c53 hA hEE hS hT hSl e3 HW
          go_wp2_with (first
            | (go_at_call 53; refine (C53.out _ (Below.refl _ _)).mono ?_; rintro e w1 ⟨rfl, rfl⟩)
            | (go_at_call 46; refine (C46.out _ (Below.refl _ _)).mono ?_; rintro e w2 ⟨v2, rfl, g, cap, rfl, hs⟩; have HS := Lib.hid hs; clear hs)
            | (at_builtin; refine wpList_append_new rfl (.tmp 39) (.tmp 45) rfl w.heap.size u5 O.length (cellsB O) rfl w (ownBuf_below HO.out HS.out.2.2.2) g cap T rfl HS.out.2.2.1 (by omega) ?_; intro v3 w3 hob; have HOB := Lib.hid hob; clear hob))
          go_roundg (n - E)
          case measure => have := HQ.out; omega
          case rel =>
            refine ⟨E, f, O ++ T, by go_num, by omega, by omega, by omega, by simp; omega, ?_, ?_⟩
            · have := HOB.out
              rw [List.length_append, cellsB_append]
              exact this
            · show _ = _
              rw [HST.out, List.append_assoc]
        · have hst := HW.out
          rw [infoW_byte (by rw [HN.out]; exact hi) hA hE, ← hx] at hst
          have c53 : ∀ W, Below wr.heap.size wr W → Calls Try.prog 53 #[.slice (some ⟨b, off, none⟩) n c, .int .i64 i] W fun e w' => e = .returned (.int .i64 0) ∧ W = w' := fun W hW => by
            have := char_any (some ⟨b, off, none⟩) b off n c i l W (fun _ => rfl) HN.out (by omega) hi (rdO_below HR2.out hW (Nat.lt_of_lt_of_le hb HB.out.size)) HP.out
            rw [charE_info, show infoE l i = 0 by omega] at this
            exact this
          obtain ⟨i0, hinf, hz0, hz1, hz2⟩ := info_parts info5
          have C53 := Lib.hid c53
          have HST := Lib.hid hst
          have HI0 := Lib.hid hinf
          have HZ0 := Lib.hid hz0
          have HZ1 := Lib.hid hz1
          have HZ2 := Lib.hid hz2
          have fin : ∀ v3 w3, Lib.OwnBuf w.heap.size 5 v3 (O.length + 1) (cellsB O ++ [.int .u8 x.toNat]) w w3 → Lib.OwnBuf w.heap.size 5 v3 (O ++ [x]).length (cellsB (O ++ [x])) w w3 := fun v3 w3 h => by
            rw [List.length_append, cellsB_append]
            exact h
          have FIN := Lib.hid fin
          clear hst c53 hinf hz0 hz1 hz2 fin HW hE
          by_cases h92 : x = 92
          · have b92 : ((x.toNat : Int) == 92) = true := by rw [h92]; rfl
            by_cases h1 : i + 1 < n
            · obtain ⟨y, hy⟩ : ∃ y, y = l.getD (i + 1) 0 := ⟨_, rfl⟩
              have hcy : wr.cell? ⟨b, off + (i + 1), none⟩ = some (.int .u8 y.toNat) := by rw [hy]; exact HR2.out (i + 1) (by rw [HN.out]; exact h1)
              have hpu : isPun y = false := by
                cases hpu : isPun y with
                | false => rfl
                | true => exact absurd ⟨hx.symm.trans h92, by rw [HN.out]; exact h1, by rw [← hy]; exact hpu⟩ hA
              have C52 := Lib.hid (fun w => escb52 y w)
              rw [hpu] at C52
              clear hpu hy h92 hA hx
              go_wp2_with (first
                | (go_at_call 52; refine (C52.out _).mono ?_; rintro e w1 ⟨rfl, hb1⟩; have HB1 := Lib.hid hb1; clear hb1; obtain ⟨hcx1, -⟩ : w1.cell? ⟨b, off + i, none⟩ = some (.int .u8 x.toNat) ∧ True := ⟨(HB1.out.cell (p := ⟨b, off + i, none⟩) (Nat.lt_of_lt_of_le hb HB.out.size)).trans hcx, trivial⟩)
                | (go_at_call 53; refine (C53.out _ HB1.out).mono ?_; rintro e w1 ⟨rfl, rfl⟩)
                | (at_builtin; refine Lib.wpList_append_byte rfl (.tmp 48) (.tmp 53) 29 rfl w.heap.size 5 i0 Try.underlying29 HI0.out HZ0.out HZ1.out HZ2.out u5 O.length (cellsB O) rfl w _ (x.toNat : Int) (ownBuf_below HO.out HB1.out) rfl (by omega) ?_; intro v3 w3 hob; have HOB := Lib.hid hob; clear hob))
              go_roundg (n - (i + 1))
              case measure => have := HQ.out; omega
              case rel => exact ⟨i + 1, f, O ++ [x], by go_num, by omega, by omega, by omega, by simp; omega, FIN.out _ _ HOB.out, by show _ = _; rw [HST.out, List.append_assoc]; rfl⟩
            · clear h92 hA hx
              go_wp2_with (first
                | (go_at_call 53; refine (C53.out _ (Below.refl _ _)).mono ?_; rintro e w1 ⟨rfl, rfl⟩)
                | (at_builtin; refine Lib.wpList_append_byte rfl (.tmp 48) (.tmp 53) 29 rfl w.heap.size 5 i0 Try.underlying29 HI0.out HZ0.out HZ1.out HZ2.out u5 O.length (cellsB O) rfl w _ (x.toNat : Int) HO.out rfl (by omega) ?_; intro v3 w3 hob; have HOB := Lib.hid hob; clear hob))
              go_roundg (n - (i + 1))
              case measure => have := HQ.out; omega
              case rel => exact ⟨i + 1, f, O ++ [x], by go_num, by omega, by omega, by omega, by simp; omega, FIN.out _ _ HOB.out, by show _ = _; rw [HST.out, List.append_assoc]; rfl⟩
          · have b92 : ((x.toNat : Int) == 92) = false := byte_ne (by decide) h92
            clear h92 hA hx
            go_wp2_with (first
              | (go_at_call 53; refine (C53.out _ (Below.refl _ _)).mono ?_; rintro e w1 ⟨rfl, rfl⟩)
              | (at_builtin; refine Lib.wpList_append_byte rfl (.tmp 48) (.tmp 53) 29 rfl w.heap.size 5 i0 Try.underlying29 HI0.out HZ0.out HZ1.out HZ2.out u5 O.length (cellsB O) rfl w _ (x.toNat : Int) HO.out rfl (by omega) ?_; intro v3 w3 hob; have HOB := Lib.hid hob; clear hob))
            go_roundg (n - (i + 1))
            case measure => have := HQ.out; omega
            case rel => exact ⟨i + 1, f, O ++ [x], by go_num, by omega, by omega, by omega, by simp; omega, FIN.out _ _ HOB.out, by show _ = _; rw [HST.out, List.append_assoc]; rfl⟩
    · have hst := HW.out
      rw [infoW_end (by rw [HN.out]; exact hi), List.append_nil] at hst
      have HST := Lib.hid hst
      clear hst HW
      go_wp2_with fail
      go_ret
      rw [HST.out]
      exact ⟨_, rfl, HO.out⟩
end Go.Proofs.Ytkogokjlpgnmlaa
