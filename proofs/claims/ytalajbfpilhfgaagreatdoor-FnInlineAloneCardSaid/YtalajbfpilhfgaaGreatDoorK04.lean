/-
  FnInlineAlone: callbacks: code.
  FnInlineAlone: callbacks: entities.
-/
import Derived.Test.YtalajbfpilhfgaaGreatDoorK03
set_option linter.unusedVariables false
set_option linter.unusedSimpArgs false
namespace Go.Proofs.YtalajbfpilhfgaaGreatDoor
open Go.RowKit

/-- How many backquotes stand behind one another ahead of place j of a code's body of b bytes, or behind it. -/
def cntC (d : Nat → UInt8) (nb b j : Nat) : Nat := if j ≤ b then (if 0 < j ∧ d (nb + j - 1) = 96 then 1 else 0) else j - b
theorem y96 (y : UInt8) (h : y = 96) : ((y.toNat : Int) == 96) = true := beq_yes (k := 96) h
theorem y96n (y : UInt8) (h : y ≠ 96) : ((y.toNat : Int) == 96) = false := beq_no (k := 96) h
theorem y32 (y : UInt8) (h : y = 32) : ((y.toNat : Int) == 32) = true := beq_yes (k := 32) h
theorem y32n (y : UInt8) (h : y ≠ 32) : ((y.toNat : Int) == 32) = false := beq_no (k := 32) h

/-- A node with a literal that lies in the text. -/
theorem lit_one {x : Ctx} {k : Nat} {ins : Bool} {w w' : World} {a b n : Nat} {ty : Int} {l : Bs} (h : x.inv k ins w') (ha : w.heap.size ≤ a) (hl : b + n ≤ x.D.length) (hd : (x.D.drop b).take n = l)
    (hn : NodeIs w' a (nodeArr ty nilP nilP nilP nilP nilP (.slice (some ⟨x.g, x.off + b, none⟩) n (x.cap - b)) nilS nilS)) : Made w (G.one ty (some l) none none .nil) a w' := by
  obtain ⟨-, h3, ⟨C, fz, h4⟩, h5, h6⟩ := h
  have hll : ((x.D.drop b).take n).length = n := by simp; omega
  refine ⟨⟨ty, .slice (some ⟨x.g, x.off + b, none⟩) n (x.cap - b), some l, nilS, none, nilS, none⟩, .nil, ⟨hn, ⟨⟨x.g, x.off + b, x.cap - b, C, fz, ?_, ?_, ?_, h4, ?_⟩, rfl, rfl⟩, trivial⟩, by simp [F.blocks], by intro i hi; simp [F.blocks] at hi; omega, rfl⟩
  · rw [← hd, hll]
  · rw [← hd, hll]; omega
  · unfold maxLen; omega
  · rw [← hd]; exact rdO_sub h3 b n

set_option maxRecDepth 100000 in
set_option maxHeartbeats 8000000 in
theorem code_takes (x : Ctx) (k : Nat) (ins : Bool) (e nb b lb t : Nat) (T : Bs) (d : Nat → UInt8) (hd : ∀ j, d j = x.D.getD (e + j) 0) (hnb : 0 < nb) (hb : b = lb + t + lb) (ht : 0 < t) (hlen : e + nb + b + nb ≤ x.D.length)
    (h1 : ∀ j, j < nb → d j = 96) (h2 : ∀ j, j < b → d (nb + j) = 96 → nb = 2 ∧ 0 < j ∧ j + 1 < b ∧ d (nb + j - 1) ≠ 96) (h3 : ∀ j, j < nb → d (nb + b + j) = 96)
    (h4 : ∀ j, j < lb → d (nb + j) = 32) (h5 : d (nb + lb) ≠ 32) (h6 : d (nb + lb + t - 1) ≠ 32) (h7 : ∀ j, j < lb → d (nb + lb + t + j) = 32) (hT : (x.D.drop (e + (nb + lb))).take t = T) :
    Takes x k ins e (nb + b + nb) (some (G.one 17 (some T) none none .nil)) := by
  refine ⟨48, by have := h1 0 hnb; rw [hd, Nat.add_zero] at this; rw [this]; rfl, fun w hi => ?_⟩
  have hcap := hi.2.2.2.1
  have hcap2 := hi.2.2.2.2
  unfold Ctx.val
  obtain ⟨n, hn⟩ : ∃ n, n = x.D.length := ⟨_, rfl⟩
  have hlen2 : e + (nb + lb) + t ≤ x.D.length := by omega
  have hc : ∀ j, e + j < n → w.cell? ⟨x.g, x.off + e + j, none⟩ = some (.int .u8 (d j).toNat) := fun j hj => by
    rw [Nat.add_assoc, hd]
    exact hi.byte (by omega)
  rw [← hn] at hlen hcap ⊢
  have fin : ∀ (w4 : World) (o' t' c' : Nat) (r' : Int), o' = x.off + (e + (nb + lb)) → t' = t → c' = x.cap - (e + (nb + lb)) → r' = ((nb + b + nb : Nat) : Int) → NodeIs w4 w.heap.size (nodeArr 17 nilP nilP nilP nilP nilP (.slice (some ⟨x.g, o', none⟩) t' c') nilS nilS) → Below w.heap.size w w4 → Took w (nb + b + nb) (some (G.one 17 (some T) none none .nil)) (.returned (.tuple #[.int .i64 r', ptr w.heap.size])) w4 := by
    rintro w4 o' t' c' r' rfl rfl rfl rfl h2 h3
    exact ⟨h3, _, rfl, lit_one (hi.below h3) (Nat.le_refl _) hlen2 hT h2⟩
  have FIN := Lib.hid fin
  have HC := Lib.hid hc
  have H1 := Lib.hid h1
  have H2 := Lib.hid h2
  have H3 := Lib.hid h3
  have H4 := Lib.hid h4
  have H5 := Lib.hid h5
  have H6 := Lib.hid h6
  have H7 := Lib.hid h7
  have HB := Lib.hid hb
  have CN := Lib.hid (fun w => new39 17 w)
  have hbl : 2 * lb + t ≤ b := by omega
  have hbl2 : b ≤ 2 * lb + t := by omega
  clear fin hc h1 h2 h3 h4 h5 h6 h7 hd hi hn hlen2 hT hb
  go_enter Tryz.func48, Tryz.ntmps48
  go_wp2
  go_loopg [8] (nb + 1) (fun q v8 wr => ∃ j : Nat, v8 = .int .i64 (j : Nat) ∧ q + j = nb + 1 ∧ j ≤ nb ∧ w = wr)
  case atStart => exact ⟨0, rfl, by omega, by omega, rfl⟩
  case round =>
    obtain ⟨j, rfl, hq, hj, rfl⟩ := hrel
    have HQ := Lib.hid hq
    clear hq
    obtain ⟨y, hy⟩ : ∃ y, y = d j := ⟨_, rfl⟩
    have c1 := HC.out j (by omega)
    rw [← hy] at c1
    by_cases hjn : j < nb
    · have b1 := y96 y (hy.trans (H1.out j hjn))
      clear hy
      go_wp2
      go_roundg (nb - j)
      case measure => have := HQ.out; omega
      case rel => exact ⟨j + 1, by go_num, by omega, by omega, rfl⟩
    · obtain rfl : j = nb := by omega
      have b1 := y96n y (by
        rw [hy]
        intro h
        have := H2.out 0 (by omega) h
        omega)
      clear hy
      go_wp2
      go_loopg [9, 10] (b + j + 1) (fun q v9 v10 wr => ∃ i : Nat, v9 = .int .i64 (cntC d j b i : Nat) ∧ v10 = .int .i64 ((j + i : Nat) : Int) ∧ q + i = b + j + 1 ∧ i ≤ b + j ∧ w = wr)
      case atStart => exact ⟨0, by rw [show cntC d j b 0 = 0 from by unfold cntC; simp]; rfl, rfl, by omega, by omega, rfl⟩
      case round =>
        obtain ⟨i, rfl, rfl, hq, hii, rfl⟩ := hrel
        have HQ2 := Lib.hid hq
        clear hq
        by_cases hib : i < b + j
        · obtain ⟨z, hz⟩ : ∃ z, z = d (j + i) := ⟨_, rfl⟩
          have c2 := HC.out (j + i) (by omega)
          rw [← hz] at c2
          have hcn : cntC d j b i < j ∧ cntC d j b (i + 1) = if z = 96 then cntC d j b i + 1 else 0 := by
            unfold cntC
            by_cases hi1 : i < b
            · rw [if_pos (show i ≤ b by omega), if_pos (show i + 1 ≤ b by omega)]
              have e1 : j + (i + 1) - 1 = j + i := by omega
              rw [e1, ← hz]
              by_cases hz96 : z = 96
              · obtain ⟨q1, q2, q3, q4⟩ := H2.out i hi1 (hz ▸ hz96)
                have n1 : ¬ (0 < i ∧ d (j + i - 1) = 96) := fun h => q4 h.2
                have n2 : 0 < i + 1 ∧ z = 96 := ⟨by omega, hz96⟩
                rw [if_neg n1, if_pos n2, if_pos hz96]
                omega
              · have n2 : ¬ (0 < i + 1 ∧ z = 96) := fun h => hz96 h.2
                rw [if_neg hz96, if_neg n2]
                refine ⟨?_, rfl⟩
                split
                · rename_i h
                  have := H2.out (i - 1) (by omega) (by rw [show j + (i - 1) = j + i - 1 by omega]; exact h.2)
                  omega
                · omega
            · have hz96 : z = 96 := by rw [hz, show j + i = j + b + (i - b) by omega]; exact H3.out (i - b) (by omega)
              rw [if_pos hz96, if_neg (by omega : ¬ i + 1 ≤ b)]
              by_cases hie : i = b
              · have n3 : ¬ (0 < i ∧ d (j + i - 1) = 96) := by
                  rintro ⟨h0, h⟩
                  have := H2.out (i - 1) (by omega) (by rw [show j + (i - 1) = j + i - 1 by omega]; exact h)
                  omega
                rw [if_pos (show i ≤ b by omega), if_neg n3]
                omega
              · rw [if_neg (show ¬ i ≤ b by omega)]
                omega
          obtain ⟨hcn1, hcn2⟩ := hcn
          have HCN := Lib.hid hcn2
          clear hcn2
          obtain ⟨ci, hci⟩ : ∃ ci, ci = cntC d j b i := ⟨_, rfl⟩
          rw [← hci] at hcn1 ⊢
          have HCI := Lib.hid hci
          clear hci
          by_cases hz96 : z = 96
          · have b2 := y96 z hz96
            have HC2 : Hid (cntC d j b (i + 1) = ci + 1) := by show _ = _; rw [HCN.out, if_pos hz96, HCI.out]
            clear hz hz96 HCN
            go_wp2
            go_roundg (b + j - i)
            case measure => have := HQ2.out; omega
            case rel => exact ⟨i + 1, by rw [HC2.out]; go_num, by go_num, by omega, by omega, rfl⟩
          · have b2 := y96n z hz96
            have HC2 : Hid (cntC d j b (i + 1) = 0) := by show _ = _; rw [HCN.out, if_neg hz96]
            clear hz hz96 HCN
            go_wp2
            go_roundg (b + j - i)
            case measure => have := HQ2.out; omega
            case rel => exact ⟨i + 1, by rw [HC2.out]; rfl, by go_num, by omega, by omega, rfl⟩
        · obtain rfl : i = b + j := by omega
          have hcn : cntC d j b (b + j) = j := by unfold cntC; rw [if_neg (by omega)]; omega
          rw [hcn]
          clear hcn
          by_cases hend : e + (j + (b + j)) < n
          all_goals
            go_wp2
            go_loopg [11] (lb + 1) (fun q v11 wr => ∃ i : Nat, v11 = .int .i64 ((j + i : Nat) : Int) ∧ q + i = lb + 1 ∧ i ≤ lb ∧ w = wr)
            case atStart => exact ⟨0, rfl, by omega, by omega, rfl⟩
            case round =>
              obtain ⟨i, rfl, hq, hil, rfl⟩ := hrel
              have HQ3 := Lib.hid hq
              clear hq
              obtain ⟨z, hz⟩ : ∃ z, z = d (j + i) := ⟨_, rfl⟩
              have c3 := HC.out (j + i) (by omega)
              rw [← hz] at c3
              by_cases hib : i < lb
              · have b3 := y32 z (hz.trans (H4.out i hib))
                clear hz
                go_wp2
                go_roundg (lb - i)
                case measure => have := HQ3.out; omega
                case rel => exact ⟨i + 1, by go_num, by omega, by omega, rfl⟩
              · obtain rfl : i = lb := by omega
                have b3 := y32n z (by rw [hz]; exact H5.out)
                clear hz
                go_wp2
                go_loopg [12] (i + 1) (fun q v12 wr => ∃ p : Nat, v12 = .int .i64 ((j + i + t + (i - p) : Nat) : Int) ∧ q + p = i + 1 ∧ p ≤ i ∧ w = wr)
                case atStart => exact ⟨0, by go_num, by omega, by omega, rfl⟩
                case round =>
                  obtain ⟨p, rfl, hq, hpi, rfl⟩ := hrel
                  have HQ4 := Lib.hid hq
                  clear hq
                  obtain ⟨z, hz⟩ : ∃ z, z = d (j + i + t + (i - p) - 1) := ⟨_, rfl⟩
                  have c4 := HC.out (j + i + t + (i - p) - 1) (by omega)
                  rw [← hz] at c4
                  have e4 : ((j + i + t + (i - p) : Nat) : Int) - 1 = ((j + i + t + (i - p) - 1 : Nat) : Int) := by omega
                  by_cases hp : p < i
                  · have b4 := y32 z (by rw [hz, show j + i + t + (i - p) - 1 = j + i + t + (i - p - 1) by omega]; exact H7.out (i - p - 1) (by omega))
                    clear hz
                    go_wp2
                    go_roundg (i - p)
                    case measure => have := HQ4.out; omega
                    case rel => exact ⟨p + 1, by go_num, by omega, by omega, rfl⟩
                  · obtain rfl : p = i := by omega
                    have b4 := y32n z (by rw [hz, Nat.sub_self, Nat.add_zero]; exact H6.out)
                    clear hz
                    rw [Nat.sub_self, Nat.add_zero] at c4 e4 ⊢
                    go_wp2_with (go_at_call 39; refine (CN.out _).mono ?_; rintro r w1 ⟨rfl, hn, hb, -⟩; have hc6 := hn.cell 6; have hf6 := hn.free 6; have HNN := Lib.hid hn; have HB1 := Lib.hid hb; clear hn hb; obtain ⟨u, hu⟩ : ∃ u, w1.cell? ⟨w.heap.size, 6, none⟩ = some u := ⟨_, hc6⟩; clear hc6)
                    go_ret2
                    exact FIN.out _ _ _ _ _ (by omega) (by omega) (by omega) (by omega) (HNN.out.set 6 _) (HB1.out.setCell (Nat.le_refl _) _)

/-- 'string(v)' of a slice of bytes. -/
theorem conv_rd {w : World} {g off cap : Nat} {l : Bs} (h : RdO w g off l) : (convert 34 9 (.slice (some ⟨g, off, none⟩) l.length cap)).run Tryz.prog w = .ok (.string ⟨l.toArray⟩) w :=
  run_convert_bytes_back (P := Tryz.prog) w 34 9 5 ⟨g, off, none⟩ cap l Tryz.underlying34 Tryz.underlying5 Tryz.underlying9 (fun j hj => by
    rw [add_at, h j hj]
    simp [List.getD_eq_getElem?_getD, List.getElem?_eq_getElem hj])
theorem eq79 {w : World} {v1 v2 : Value} {l1 l2 : Bs} (h1 : (convert 34 9 v1).run Tryz.prog w = .ok (.string ⟨l1.toArray⟩) w) (h2 : (convert 34 9 v2).run Tryz.prog w = .ok (.string ⟨l2.toArray⟩) w) :
    Calls Tryz.prog 79 #[v1, v2] w fun e w' => e = .returned (.bool (decide (l1 = l2))) ∧ w' = w := by
  refine (Tryz.bytes_Equal_strs v1 v2 _ _ w h1 h2).mono ?_
  rintro e w' ⟨rfl, rfl⟩
  refine ⟨?_, rfl⟩
  have e1 : ∀ l : Bs, (⟨l.toArray⟩ : ByteArray).toList = l := fun l => by
    rw [ByteArray.toList_eq]
  rw [e1, e1]
  have e2 : (l1 == l2) = decide (l1 = l2) := by rw [Bool.eq_iff_iff]; simp
  rw [e2]

set_option maxRecDepth 100000 in
set_option maxHeartbeats 4000000 in
theorem amp_quiet (x : Ctx) (k : Nat) (ins : Bool) (e : Nat) (h38 : x.D.getD e 0 = 38) (he : e < x.D.length) (h1 : e + 1 < x.D.length → x.D.getD (e + 1) 0 ≠ 35 ∧ isAln (x.D.getD (e + 1) 0) = false ∧ x.D.getD (e + 1) 0 ≠ 59) (w : World) (hi : x.inv k ins w) :
    Calls Tryz.prog 53 #[ptr x.M, x.val, .int .i64 e] w fun r w' => (∃ v, r = .returned (.tuple #[.int .i64 0, v])) ∧ Below w.heap.size w w' := by
  have hcap := hi.2.2.2.1
  have hcap2 := hi.2.2.2.2
  unfold Ctx.val
  obtain ⟨n, hn⟩ : ∃ n, n = x.D.length := ⟨_, rfl⟩
  rw [← hn] at he h1 hcap ⊢
  by_cases h2 : e + 1 < n
  · obtain ⟨q1, q2, q3⟩ := h1 h2
    have c1 := hi.byte (j := e + 1) (by omega)
    obtain ⟨y, hy⟩ : ∃ y, y = x.D.getD (e + 1) 0 := ⟨_, rfl⟩
    rw [← hy, ← Nat.add_assoc] at c1
    rw [← hy] at q1 q2 q3
    have b1 : ((y.toNat : Int) == 35) = false := beq_no (k := 35) q1
    have b2 : ((y.toNat : Int) == 59) = false := beq_no (k := 59) q3
    have CA := Lib.hid (fun w => aln78 y w)
    rw [q2] at CA
    clear hi hn hy h1 h38 q1 q2 q3
    go_enter Tryz.func53, Tryz.ntmps53
    go_wp2
    go_loopg [8] 1 (fun q v8 wr => v8 = .int .i64 1 ∧ w = wr)
    case atStart => exact ⟨rfl, rfl⟩
    case round =>
      obtain ⟨rfl, rfl⟩ := hrel
      go_wp2_with (go_at_call 78; refine (CA.out _).mono ?_; rintro r w' ⟨rfl, rfl⟩)
      go_ret2
      exact ⟨⟨_, rfl⟩, Below.refl _ _⟩
  · clear hi hn h1 h38
    go_enter Tryz.func53, Tryz.ntmps53
    go_wp2
    go_loopg [8] 1 (fun q v8 wr => v8 = .int .i64 1 ∧ w = wr)
    case atStart => exact ⟨rfl, rfl⟩
    case round =>
      obtain ⟨rfl, rfl⟩ := hrel
      go_wp2_with fail
      go_ret2
      exact ⟨⟨_, rfl⟩, Below.refl _ _⟩

theorem alloc_size (w : World) (o : Obj) : (w.alloc o).heap.size = w.heap.size + 1 := by simp
theorem rdV_new (W : World) (l : Bs) (fr : Nat × Nat) (hl : l.length ≤ 1000) (a : Nat) (ha : a = W.heap.size) : RdV (W.alloc (.cells (cellsB l).toArray 5 fr)) (.slice (some ⟨a, 0, none⟩) l.length l.length) (some l) := by
  subst ha
  obtain ⟨hb, g, C, fz, hv, hg, hh, hr⟩ := rd_const W l fr
  injection hv with hv
  injection hv with hv
  injection hv with hv
  subst hv
  exact ⟨W.heap.size, 0, l.length, C, fz, rfl, Nat.le_refl _, by unfold maxLen; omega, hh, hr⟩
def ampL : Bs := [38, 97, 109, 112, 59]
set_option maxRecDepth 100000 in
set_option maxHeartbeats 8000000 in
theorem ent_takes (x : Ctx) (k : Nat) (ins : Bool) (e m : Nat) (E : Bs) (hE : (x.D.drop e).take (m + 2) = E) (hlen : e + m + 2 ≤ x.D.length) (h0 : x.D.getD e 0 = 38) (hm : 0 < m) (h1 : ∀ j, j < m → isAln (x.D.getD (e + 1 + j) 0) = true) (h2 : x.D.getD (e + 1 + m) 0 = 59) :
    Takes x k ins e (m + 2) (some (textG (if E = ampL then [38] else E))) := by
  refine ⟨53, by rw [h0]; rfl, fun w hi => ?_⟩
  have hcap := hi.2.2.2.1
  have hcap2 := hi.2.2.2.2
  have hEl : E.length = m + 2 := by rw [← hE]; simp; omega
  have hRE : RdO w x.g (x.off + e) E := by rw [← hE]; exact rdO_sub hi.2.1 e (m + 2)
  have hgl := hi.ltg
  unfold Ctx.val
  obtain ⟨n, hn⟩ : ∃ n, n = x.D.length := ⟨_, rfl⟩
  have hc : ∀ j, e + j < n → w.cell? ⟨x.g, x.off + e + j, none⟩ = some (.int .u8 (x.D.getD (e + j) 0).toNat) := fun j hj => by
    rw [Nat.add_assoc]
    exact hi.byte (by omega)
  have c79 : ∀ fr, Calls Tryz.prog 79 #[.slice (some ⟨x.g, x.off + e, none⟩) (1 + m + 1) (x.cap - e), .slice (some ⟨w.heap.size, 0, none⟩) 5 5] (w.alloc (.cells #[.int .u8 38, .int .u8 97, .int .u8 109, .int .u8 112, .int .u8 59] 5 fr)) fun r w' => r = .returned (.bool (decide (E = ampL))) ∧ w' = (w.alloc (.cells #[.int .u8 38, .int .u8 97, .int .u8 109, .int .u8 112, .int .u8 59] 5 fr)) := fun fr => by
    obtain ⟨hb, g, C, fz, hv, hg, hh, hr⟩ := rd_const w ampL fr
    injection hv with hv
    injection hv with hv
    injection hv with hv
    subst hv
    rw [show 1 + m + 1 = E.length by omega]
    exact eq79 (conv_rd (rdO_below hRE hb hgl)) (conv_rd hr)
  have fin1 : ∀ (w2 w4 : World) (v : Value) (r' : Int) (a : Nat), E = ampL → r' = ((m + 2 : Nat) : Int) → a = w2.heap.size → Below w.heap.size w w2 → RdV w2 v (some [38]) → NodeIs w4 w2.heap.size (nodeArr 12 nilP nilP nilP nilP nilP v nilS nilS) → Below w2.heap.size w2 w4 → Took w (m + 2) (some (textG (if E = ampL then [38] else E))) (.returned (.tuple #[.int .i64 r', ptr a])) w4 := fun w2 w4 v r' a he hr' ha hb hv hn2 hb2 => by
    subst hr' ha
    rw [if_pos he]
    have hb3 := hb.trans (hb2.mono hb.size)
    exact ⟨hb3, _, rfl, ⟨⟨12, v, some [38], nilS, none, nilS, none⟩, .nil, ⟨hn2, ⟨hv.keep (keep5_below hb2), rfl, rfl⟩, trivial⟩, by simp [F.blocks], by intro i hi; simp [F.blocks] at hi; have := hb.size; omega, rfl⟩⟩
  have fin2 : ∀ (w2 w4 : World) (r' : Int) (a : Nat), E ≠ ampL → r' = ((m + 2 : Nat) : Int) → a = w2.heap.size → Below w.heap.size w w2 → NodeIs w4 w2.heap.size (nodeArr 12 nilP nilP nilP nilP nilP (.slice (some ⟨x.g, x.off + e, none⟩) (1 + m + 1) (x.cap - e)) nilS nilS) → Below w2.heap.size w2 w4 → Took w (m + 2) (some (textG (if E = ampL then [38] else E))) (.returned (.tuple #[.int .i64 r', ptr a])) w4 := fun w2 w4 r' a he hr' ha hb hn2 hb2 => by
    subst hr' ha
    rw [show 1 + m + 1 = m + 2 by omega] at hn2
    rw [if_neg he]
    have hb3 := hb.trans (hb2.mono hb.size)
    exact ⟨hb3, _, rfl, dT_one (w2 := w2) (hi.below hb3) hb.size (by omega) hE hn2⟩
  obtain ⟨R, hR⟩ : ∃ R, R = if E = ampL then [38] else E := ⟨_, rfl⟩
  rw [← hR] at fin1 fin2 ⊢
  clear hR
  rw [← hn] at hlen hcap ⊢
  have hcv : ∀ (w : World) (C : Array Value) (n c : Nat), (convert 34 34 (.slice (some ⟨w.heap.size, 0, none⟩) n c)).run Tryz.prog (w.alloc (.cells C 5)) = .ok (.slice (some ⟨w.heap.size, 0, none⟩) n c) (w.alloc (.cells C 5 (C.size, C.size + 1))) := fun w C n c => Lib.run_convert_bytes_const w 34 5 C n c Tryz.underlying34 Tryz.underlying5
  have C79 := Lib.hid c79
  have FIN1 := Lib.hid fin1
  have FIN2 := Lib.hid fin2
  have HC := Lib.hid hc
  have H1 := Lib.hid h1
  have H2 := Lib.hid h2
  have TX := Lib.hid (fun A n c w => text45 A n c w)
  clear c79 fin1 fin2 hc h1 h2 hi hn hE hEl hRE h0
  have hk1 : (1 : Int) < ((n - e : Nat) : Int) := by omega
  obtain ⟨y1, hy1⟩ : ∃ y, y = x.D.getD (e + 1) 0 := ⟨_, rfl⟩
  have cc1 := HC.out 1 (by omega)
  rw [← hy1] at cc1
  have bb1 : ((y1.toNat : Int) == 35) = false := beq_no (k := 35) (by
    intro h
    have := H1.out 0 hm
    rw [Nat.add_zero, ← hy1, h] at this
    exact absurd this (by decide))
  have HY1 := Lib.hid hy1
  clear hy1
  go_enter Tryz.func53, Tryz.ntmps53
  go_wp2
  go_loopg [8] (m + 1) (fun q v8 wr => ∃ j : Nat, v8 = .int .i64 ((1 + j : Nat) : Int) ∧ q + j = m + 1 ∧ j ≤ m ∧ w = wr)
  case atStart => exact ⟨0, rfl, by omega, by omega, rfl⟩
  case round =>
    obtain ⟨j, rfl, hq, hj, rfl⟩ := hrel
    have HQ := Lib.hid hq
    clear hq
    obtain ⟨y, hy⟩ : ∃ y, y = x.D.getD (e + (1 + j)) 0 := ⟨_, rfl⟩
    have c1 := HC.out (1 + j) (by omega)
    rw [← hy] at c1
    have CA := Lib.hid (fun w => aln78 y w)
    by_cases hjm : j < m
    · have ha : isAln y = true := by rw [hy, ← Nat.add_assoc]; exact H1.out j hjm
      rw [ha] at CA
      clear hy ha
      go_wp2_with (go_at_call 78; refine (CA.out _).mono ?_; rintro r w' ⟨rfl, rfl⟩)
      go_roundg (m - j)
      case measure => have := HQ.out; omega
      case rel => exact ⟨j + 1, by go_num, by omega, by omega, rfl⟩
    · obtain rfl : j = m := by omega
      have hy59 : y = 59 := by rw [hy, ← Nat.add_assoc]; exact H2.out
      have ha : isAln y = false := by rw [hy59]; decide
      have b59 : ((y.toNat : Int) == 59) = true := beq_yes (k := 59) hy59
      rw [ha] at CA
      clear hy ha hy59
      obtain ⟨d, hd⟩ : ∃ d, d = decide (E = ampL) := ⟨_, rfl⟩
      rw [← hd] at C79
      have HD := Lib.hid hd
      clear hd
      cases d with
      | true =>
        go_wp2_with (first
          | (go_at_call 78; refine (CA.out _).mono ?_; rintro r w' ⟨rfl, rfl⟩)
          | (go_at_call 79; refine (C79.out _).mono ?_; rintro r w' ⟨rfl, rfl⟩)
          | (go_at_call 45; refine (TX.out _ _ _ _).mono ?_; rintro r w4 ⟨rfl, hn4, hb4, -⟩; have HN4 := Lib.hid hn4; have HB4 := Lib.hid hb4; clear hn4 hb4))
        go_ret2
        exact FIN1.out _ _ _ _ _ (of_decide_eq_true HD.out.symm) (by omega) (by rw [alloc_size, alloc_size]) (((Below.refl _ w).alloc (Nat.le_refl _) _).alloc (by rw [alloc_size]; omega) _) (rdV_new _ [38] (0, 0) (by decide) _ (by rw [alloc_size])) HN4.out HB4.out
      | false =>
        go_wp2_with (first
          | (go_at_call 78; refine (CA.out _).mono ?_; rintro r w' ⟨rfl, rfl⟩)
          | (go_at_call 79; refine (C79.out _).mono ?_; rintro r w' ⟨rfl, rfl⟩)
          | (go_at_call 45; refine (TX.out _ _ _ _).mono ?_; rintro r w4 ⟨rfl, hn4, hb4, -⟩; have HN4 := Lib.hid hn4; have HB4 := Lib.hid hb4; clear hn4 hb4))
        go_ret2
        exact FIN2.out _ _ _ _ (of_decide_eq_false HD.out.symm) (by omega) (by rw [alloc_size]) ((Below.refl _ w).alloc (Nat.le_refl _) _) HN4.out HB4.out
end Go.Proofs.YtalajbfpilhfgaaGreatDoor
