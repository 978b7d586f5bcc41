/- zzUnescapeString, walked. -/
import Derived.Test.YtkogokjlpgnmlaaU6
import Derived.Deep.RegionLaw
import Derived.IntWalk
set_option linter.unusedVariables false
set_option linter.unusedSimpArgs false
namespace Go.Proofs.Ytkogokjlpgnmlaa
open Go.RowKit

/-- What a call that returns a text answers: the text, and that nothing old has turned. -/
def StrPost (w : World) (l : Bs) (e : Ending) (w' : World) : Prop := e = .returned (.string ⟨l.toArray⟩) ∧ Below w.heap.size w w'

theorem ba_of (s : ByteArray) (l : Bs) (h : s.data.toList = l) : s = ⟨l.toArray⟩ := by
  apply ByteArray.ext; rw [← h]

/-- copy of a string's bytes into a buffer. -/
theorem copy_str (w : World) (g : Nat) (l : Bs) (hB : Buf w g l) (dst k c1 : Nat) (s : ByteArray) (hk : s.size = k) (n1 : Nat) (hn1 : k ≤ n1) (h1 : dst + k ≤ l.length) (ty : TypeId) :
    (Builtin.copy_ #[29, 9] ty #[.slice (some ⟨g, dst, none⟩) n1 c1, .string s]).run Try.prog w = .ok (goInt k) (w.setCells g dst (cellsB s.data.toList)) := by
  have hcl : (cellsB s.data.toList).length = k := by rw [cellsB_length]; simpa using hk
  have hst := run_storeCells_cells (P := Try.prog) g dst (cellsB s.data.toList) 0 w
    (by intro j hj; rw [hcl] at hj; rw [Nat.add_zero, hB.cell (dst + j) (by omega)]; rfl)
    (by intro j hj; rw [hcl] at hj; rw [Nat.add_zero]; exact hB.free (dst + j) (by omega)) (cellsB_one _)
  have hmin : Nat.min s.size n1 = k := by rw [hk]; exact Nat.min_eq_left hn1
  have hex : s.extract 0 k = s := by rw [← hk]; exact ByteArray.extract_zero_size
  have hmap : (s.data.map fun b => Value.int .u8 b.toNat) = (cellsB s.data.toList).toArray := by
    apply Array.ext'; simp [cellsB]
  have htk : (cellsB s.data.toList).take k = cellsB s.data.toList := List.take_of_length_le (by omega)
  rw [Nat.add_zero] at hst
  have hs5 : (sizeOf 5).run Try.prog w = .ok 1 w := by kernel_rfl
  simp [Builtin.copy_, run_underlying Try.underlying29, Builtin.lenOf, Builtin.firstCells, hs5, hmin, hex, hmap, htk, hst]

theorem putB_drop (l : Bs) (off : Nat) (o : Bs) (k : Nat) (h : off + o.length ≤ k) (hk : k ≤ l.length) : (putB l off o).drop k = l.drop k := by
  unfold putB
  rw [← List.append_assoc, List.drop_append, List.drop_eq_nil_of_le (by simp; omega), List.nil_append, List.drop_drop]
  congr 1
  simp
  omega
theorem putB_take (l : Bs) (off : Nat) (o : Bs) (h : off ≤ l.length) : (putB l off o).take (off + o.length) = l.take off ++ o := by
  unfold putB
  rw [← List.append_assoc]
  exact List.take_left' (by simp; omega)
/-- copy as one step of a region that draws its order. -/
theorem step_copy_run {P : Program} {ops : Array Oper} {o : Oper} {a : Act} {w : World} {K : Act → World → Prop} {Q : Exit → Act → World → Prop} {E : Prop} (hgd : o.guard = none) (d s : Operand) (t t' : TypeId)
    (ho : o.op = .call { callee := .builtin .copy, args := #[d, s], argTypes := #[t, t'] }) (v u : Value) (hd : a.eval d = v) (hs : a.eval s = u) {v' : Value} {w' : World}
    (hr : (Builtin.copy_ #[t, t'] o.type #[v, u]).run P w = .ok v' w') (h : K (a.put o.dst v') w') : if Region.wanted o (yielded ops a.tmps) = true then Oper.wp P o a w K Q else E := by
  rw [if_pos (by simp [Region.wanted, hgd])]
  exact Lib.wp_copy_run w d s t t' ho v u hd hs hr h
/-- The first ampersand of what is left. -/
theorem at_amp (s : ByteArray) (src : Nat) (h : src ≤ s.size) : (ampFrom (s.data.toList.drop src) 0 = -1 ∧ unescape (s.data.toList.drop src) = s.data.toList.drop src) ∨
    ∃ i : Nat, ampFrom (s.data.toList.drop src) 0 = (i : Int) ∧ src + i < s.size ∧
      unescape (s.data.toList.drop src) = (s.data.toList.drop src).take i ++ ((ent (s.data.toList.drop (src + i))).1 ++ unescape (s.data.toList.drop (src + i + (ent (s.data.toList.drop (src + i))).2))) := by
  rcases ampFrom_cases (s.data.toList.drop src) 0 with ⟨h1, h2⟩ | ⟨i, h1, h2, h3, h4⟩
  · exact Or.inl ⟨h1, unescape_same _ h2⟩
  · right
    refine ⟨i, by rw [h1, Nat.zero_add], ?_, ?_⟩
    · rw [List.length_drop, Array.length_toList] at h2
      have : s.data.size = s.size := rfl
      omega
    · rw [unescape_round _ i h2 h3 h4, List.drop_drop, List.drop_drop, Nat.add_assoc]

set_option maxRecDepth 100000 in
set_option maxHeartbeats 4000000 in
theorem ustr_any (s : ByteArray) (w : World) (hs : s.size ≤ 9223372036854775807) :
    Calls Try.prog 36 #[.string s] w (StrPost w (unescape s.data.toList)) := by
  rcases at_amp s 0 (Nat.zero_le _) with ⟨h1, h2⟩ | ⟨i, h1, h2, h3⟩
  · rw [List.drop_zero] at h1 h2
    rw [h2]
    have ci : Calls Try.prog 41 #[.string s] w fun e w' => e = .returned (.int .i64 (-1)) ∧ w = w' := by
      have := indexAmp_any s w hs
      rw [h1] at this
      exact this
    have CI := Lib.hid ci
    clear ci h1 h2
    go_enter Try.func36, Try.ntmps36
    go_wp2_with (go_at_call 41; refine CI.out.mono ?_; rintro e w' ⟨rfl, rfl⟩)
    go_ret
    exact ⟨rfl, Below.refl _ _⟩
  · simp only [List.drop_zero, Nat.zero_add] at h1 h2 h3
    obtain ⟨o, ho⟩ : ∃ o, o = unescape s.data.toList := ⟨_, rfl⟩
    rw [← ho]
    have HO := Lib.hid (ho.trans h3)
    clear h3 ho
    obtain ⟨w1, c, hcv, hnc, hc, hB, hb, hsz⟩ := bytes_buf w s hs
    have ci : Calls Try.prog 41 #[.string s] w fun e w' => e = .returned (.int .i64 (i : Int)) ∧ w = w' := by
      have := indexAmp_any s w hs
      rw [h1] at this
      exact this
    obtain ⟨g, hg⟩ : ∃ g, g = w.heap.size := ⟨_, rfl⟩
    have hLn : s.data.toList.length = s.size := by simp
    rw [← hg] at hcv hB
    have hle := ent_le (s.data.toList.drop i) (by rw [List.length_drop, hLn]; omega)
    obtain ⟨hle1, hle2, hle3⟩ := hle
    have cu := uent_any g s.size c i i s.data.toList w1 hLn (by omega) hc (by omega) (Nat.le_refl _) hB
    obtain ⟨oe, hoe⟩ : ∃ oe, oe = (ent (s.data.toList.drop i)).1 := ⟨_, rfl⟩
    obtain ⟨ke, hke⟩ : ∃ ke, ke = (ent (s.data.toList.drop i)).2 := ⟨_, rfl⟩
    rw [← hoe, ← hke] at cu hle1
    rw [← hke] at hle2 hle3
    rw [List.length_drop, hLn] at hle3
    have hst : o = (putB s.data.toList i oe).take (i + oe.length) ++ unescape (s.data.toList.drop (i + ke)) := by
      rw [HO.out, ← hoe, ← hke, ← List.append_assoc, putB_take _ _ _ (by omega)]
    have hst2 : (putB s.data.toList i oe).drop (i + ke) = s.data.toList.drop (i + ke) := putB_drop _ _ _ _ (by omega) (by rw [hLn]; omega)
    have hst3 : (putB s.data.toList i oe).length = s.size := by rw [putB_length _ _ _ (by rw [hLn]; omega), hLn]
    have CI := Lib.hid ci
    have CU := Lib.hid cu
    have HLN := Lib.hid hLn
    have HG := Lib.hid hg
    have HB := Lib.hid hB
    have HBW := Lib.hid hb
    have HSZ := Lib.hid hsz
    have HOE := Lib.hid hoe
    have HKE := Lib.hid hke
    have HST := Lib.hid hst
    have HST2 := Lib.hid hst2
    have HST3 := Lib.hid hst3
    clear ci cu hLn hg hB hb hsz hoe hke h1 hst hst2 hst3
    go_enter Try.func36, Try.ntmps36
    go_upto_block 0 with (first | (go_at_call 41; refine CI.out.mono ?_; rintro e w' ⟨rfl, rfl⟩) | (go_at_call 42; refine CU.out.mono ?_; rintro e w2 ⟨rfl, hb2, hg2⟩; have HB2 := Lib.hid hb2; have HG2 := Lib.hid hg2; clear hb2 hg2))
    go_cut [5] (fun v5 wc => ∃ (d : Nat) (bs : Bs), v5 = .int .i64 d ∧ d ≤ s.size ∧ Hid (bs.length = s.size) ∧ Hid (Buf wc g bs) ∧ Hid (w1.grownBy wc (some g)) ∧ Hid (o = bs.take d))
    case first =>
      go_wp2_with fail
      go_loopg [5, 6] (s.size - (i + ke)) (fun q v5 v6 wr => ∃ (d sr : Nat) (bs : Bs), v5 = .int .i64 d ∧ v6 = .int .i64 sr ∧ q + sr = s.size ∧ d ≤ sr ∧ sr ≤ s.size ∧ Hid (bs.length = s.size) ∧ Hid (Buf wr g bs) ∧ Hid (w1.grownBy wr (some g)) ∧ Hid (o = bs.take d ++ unescape (s.data.toList.drop sr)) ∧ Hid (bs.drop sr = s.data.toList.drop sr))
      case atStart => exact ⟨i + oe.length, i + ke, putB s.data.toList i oe, by go_num, by go_num, by omega, by omega, by omega, HST3.out, HB2.out, HG2.out, HST.out, HST2.out⟩
      case round =>
        obtain ⟨d, sr, bs, rfl, rfl, hq, hdsr, hsr, HL, HBB, HGG, HOO, HDD⟩ := hrel
        have HQ := Lib.hid hq
        clear hq
        by_cases hlt : sr < s.size
        · have hAM := at_amp s sr hsr
          obtain ⟨S1, hS1⟩ : ∃ S1, S1 = s.extract sr s.size := ⟨_, rfl⟩
          have hS1l : S1.data.toList = s.data.toList.drop sr := by
            rw [hS1, ByteArray.data_extract, Array.toList_extract, List.extract_eq_take_drop]
            exact List.take_of_length_le (by simp)
          have hS1n : S1.size = s.size - sr := by
            rw [← ByteArray.size_data, ← Array.length_toList, hS1l, List.length_drop, HLN.out]
          have HS1 := Lib.hid hS1
          have HS1L := Lib.hid hS1l
          have HS1N := Lib.hid hS1n
          have HAM := Lib.hid hAM
          clear hS1 hS1l hS1n hAM
          have hd1 : d ≤ s.size := by omega
          have hcd : ¬ c = d := by omega
          have hpos : 0 < s.size - sr := by omega
          by_cases hc38 : s[sr] = 38
          · have hb38 : ((s[sr].toNat : Int) == 38) = true := by rw [hc38]; rfl
            have hcons : s.data.toList.drop sr = 38 :: s.data.toList.drop (sr + 1) := by rw [drop_get s sr hlt, hc38]
            obtain ⟨oe2, hoe2⟩ : ∃ oe2, oe2 = (ent (s.data.toList.drop sr)).1 := ⟨_, rfl⟩
            obtain ⟨ke2, hke2⟩ : ∃ ke2, ke2 = (ent (s.data.toList.drop sr)).2 := ⟨_, rfl⟩
            have hun : unescape (s.data.toList.drop sr) = oe2 ++ unescape (s.data.toList.drop (sr + ke2)) := by
              conv => lhs; rw [hcons]
              rw [unescape_amp, ← hcons, ← hoe2, ← hke2, List.drop_drop]
            have hle := ent_le (s.data.toList.drop sr) (by rw [List.length_drop, HLN.out]; omega)
            rw [← hoe2, ← hke2, List.length_drop, HLN.out] at hle
            obtain ⟨hm1, hm2, hm3⟩ := hle
            have cu2 := uent_any g s.size c d sr bs wr HL.out (by omega) hc hlt hdsr HBB.out
            rw [HDD.out, ← hoe2, ← hke2] at cu2
            have CU2 := Lib.hid cu2
            have HUN := Lib.hid hun
            clear cu2 hun hoe2 hke2 hcons hc38 HAM HS1 HS1L HS1N
            go_wp2_with (go_at_call 42; refine CU2.out.mono ?_; rintro e w3 ⟨rfl, hb3, hg3⟩; have HB3 := Lib.hid hb3; have HG3 := Lib.hid hg3; clear hb3 hg3)
            go_roundg (s.size - (sr + ke2))
            case measure => have := HQ.out; omega
            case rel =>
              refine ⟨d + oe2.length, sr + ke2, putB bs d oe2, by go_num, by go_num, by omega, by omega, by omega, ?_, HB3.out, grownBy_trans HGG.out HG3.out, ?_, ?_⟩
              · show _ = _; rw [putB_length _ _ _ (by rw [HL.out]; omega), HL.out]
              · show _ = _; rw [HOO.out, HUN.out, putB_take _ _ _ (by rw [HL.out]; omega), List.append_assoc]
              · show _ = _
                rw [putB_drop _ _ _ _ (by omega) (by rw [HL.out]; omega), ← List.drop_drop, HDD.out, List.drop_drop]
          · have hb38 : ((s[sr].toNat : Int) == 38) = false := by
              rw [beq_eq_false_iff_ne]; intro h; exact hc38 (UInt8.toNat_inj.mp (by show s[sr].toNat = 38; omega))
            have ci2 : ∀ W, Calls Try.prog 41 #[.string S1] W fun e w' => e = .returned (.int .i64 (ampFrom (s.data.toList.drop sr) 0)) ∧ W = w' := by
              intro W
              have := indexAmp_any S1 W (by rw [HS1N.out]; omega)
              rw [HS1L.out] at this
              exact this
            rcases HAM.out with ⟨a1, a2⟩ | ⟨i2, a1, a2, a3⟩
            · rw [a1, HS1.out] at ci2
              have CI2 := Lib.hid ci2
              have HA2 := Lib.hid a2
              have HC38 := Lib.hid hc38
              clear ci2 a1 a2 hc38 HAM
              go_upto_region 11 with (go_at_call 41; refine (CI2.out _).mono ?_; rintro e w' ⟨rfl, rfl⟩)
              have hk1 : (s.extract sr s.size).size = s.size - sr := by rw [← HS1.out, HS1N.out]
              have hex : (s.extract sr s.size).data.toList = s.data.toList.drop sr := by rw [← HS1.out, HS1L.out]
              have hcr := fun W => fun (hW : Buf W g bs) => copy_str W g bs hW d (s.size - sr) (c - d) (s.extract sr s.size) hk1 (s.size - d) (by omega) (by rw [HL.out]; omega) 3
              rw [hex] at hcr
              have HCR := Lib.hid hcr
              clear hcr hk1 hex
              have hA7 : IntKind.i64.wrap ((d : Int) + ((s.size - sr : Nat) : Int)) = (d : Int) + ((s.size - sr : Nat) : Int) := IntWalk.i64_in _ (by omega)
              go_region_law (refine step_copy_run rfl (.tmp 39) (.tmp 42) 29 9 rfl _ _ (by simp [Act.eval, Act.put]) (by simp [Act.eval, Act.put]) (HCR.out _ HBB.out) ?_)
              clear hA7
              go_wp2_with fail
              go_meet
              case rel =>
                have hll : (s.data.toList.drop sr).length = s.size - sr := by rw [List.length_drop, HLN.out]
                refine ⟨d + (s.size - sr), putB bs d (s.data.toList.drop sr), by go_num, by omega, ?_, ?_, ?_, ?_⟩
                · show _ = _; rw [putB_length _ _ _ (by rw [HL.out, hll]; omega), HL.out]
                · exact (show Buf wr.drew g bs from HBB.out).put d (s.data.toList.drop sr) (by rw [HL.out, hll]; omega)
                · exact grownBy_trans HGG.out (grownBy_trans (show wr.grownBy wr.drew (some g) from ⟨rfl, rfl, rfl, Nat.le_refl _, fun _ _ _ => rfl⟩) (grownBy_setCells g _ d _))
                · show _ = _
                  have := putB_take bs d (s.data.toList.drop sr) (by rw [HL.out]; omega)
                  rw [hll] at this
                  rw [this, HOO.out, HA2.out]
            · have hi2 : 0 < i2 := by
                rcases Nat.eq_zero_or_pos i2 with h0 | h0
                · exfalso
                  rw [drop_get s sr hlt, ampFrom, if_neg hc38] at a1
                  rcases ampFrom_cases (s.data.toList.drop (sr + 1)) (0 + 1) with ⟨b1, _⟩ | ⟨j, b1, _⟩
                  · rw [b1] at a1; omega
                  · rw [b1] at a1; omega
                · exact h0
              obtain ⟨oe2, hoe2⟩ : ∃ oe2, oe2 = (ent (s.data.toList.drop (sr + i2))).1 := ⟨_, rfl⟩
              obtain ⟨ke2, hke2⟩ : ∃ ke2, ke2 = (ent (s.data.toList.drop (sr + i2))).2 := ⟨_, rfl⟩
              have hle := ent_le (s.data.toList.drop (sr + i2)) (by rw [List.length_drop, HLN.out]; omega)
              rw [← hoe2, ← hke2, List.length_drop, HLN.out] at hle
              obtain ⟨hm1, hm2, hm3⟩ := hle
              rw [← hoe2, ← hke2] at a3
              obtain ⟨pl, hpl⟩ : ∃ pl, pl = (s.data.toList.drop sr).take i2 := ⟨_, rfl⟩
              have hpll : pl.length = i2 := by rw [hpl, List.length_take, List.length_drop, HLN.out]; omega
              rw [← hpl] at a3
              have hbs2 : (putB bs d pl).length = s.size := by rw [putB_length _ _ _ (by rw [HL.out]; omega), HL.out]
              have hdr2 : (putB bs d pl).drop (sr + i2) = s.data.toList.drop (sr + i2) := by
                rw [putB_drop _ _ _ _ (by omega) (by rw [HL.out]; omega), ← List.drop_drop, HDD.out, List.drop_drop]
              have cu2 : ∀ W, Buf W g (putB bs d pl) → Calls Try.prog 42 #[.slice (some ⟨g, 0, none⟩) s.size c, .int .i64 ((d : Int) + i2), .int .i64 ((sr : Int) + i2)] W (UPost W g (putB bs d pl) (d + i2) (sr + i2) oe2 ke2) := by
                intro W hW
                have := uent_any g s.size c (d + i2) (sr + i2) (putB bs d pl) W hbs2 (by omega) hc (by omega) (by omega) hW
                rw [hdr2, ← hoe2, ← hke2, Int.natCast_add, Int.natCast_add] at this
                exact this
              rw [a1, HS1.out] at ci2
              have hk1 : (s.extract sr (sr + i2)).size = i2 := by rw [ByteArray.size_extract]; omega
              have hex : (s.extract sr (sr + i2)).data.toList = pl := by
                rw [ByteArray.data_extract, Array.toList_extract, List.extract_eq_take_drop, hpl]
                congr 1
                omega
              have hcr := fun W => fun (hW : Buf W g bs) => copy_str W g bs hW d i2 (c - d) (s.extract sr (sr + i2)) hk1 (s.size - d) (by omega) (by rw [HL.out]; omega) 3
              rw [hex] at hcr
              have CI2 := Lib.hid ci2
              have CU2 := Lib.hid cu2
              have HCR := Lib.hid hcr
              have HA3 := Lib.hid a3
              have HPL := Lib.hid hpll
              have HBS2 := Lib.hid hbs2
              have HDR2 := Lib.hid hdr2
              have hA1 : (sr : Int) + i2 ≤ s.size := by omega
              have hA2 : 0 ≤ (sr : Int) + i2 := by omega
              have hA3 : ((sr : Int) + i2).toNat = sr + i2 := by omega
              have hA4 : (sr : Int) ≤ (sr : Int) + i2 := by omega
              have hA5 : sr + i2 ≤ s.size := by omega
              have hA6 : sr ≤ sr + i2 := by omega
              have hA7 : IntKind.i64.wrap ((sr : Int) + i2) = (sr : Int) + i2 := IntWalk.i64_in _ (by omega)
              have hA8 : wrap64 ((sr : Int) + i2) = (sr : Int) + i2 := by unfold wrap64; omega
              clear ci2 cu2 hcr a3 a1 hpll hbs2 hdr2 hk1 hex hoe2 hke2 hpl hc38 HAM
              go_upto_region 13 with (go_at_call 41; refine (CI2.out _).mono ?_; rintro e w' ⟨rfl, rfl⟩)
              go_region_law (refine step_copy_run rfl (.tmp 49) (.tmp 55) 29 9 rfl _ _ (by simp [Act.eval, Act.put]) (by simp [Act.eval, Act.put]) (HCR.out _ HBB.out) ?_)
              clear hA1 hA2 hA3 hA4 hA5 hA6 hA7 hA8
              have HB3 : Hid (Buf (wr.drew.setCells g d (cellsB pl)) g (putB bs d pl)) := (show Buf wr.drew g bs from HBB.out).put d pl (by rw [HL.out, HPL.out]; omega)
              have HG3 : Hid (w1.grownBy (wr.drew.setCells g d (cellsB pl)) (some g)) := grownBy_trans HGG.out (grownBy_trans (show wr.grownBy wr.drew (some g) from ⟨rfl, rfl, rfl, Nat.le_refl _, fun _ _ _ => rfl⟩) (grownBy_setCells g _ d _))
              go_wp2_with (go_at_call 42; refine (CU2.out _ HB3.out).mono ?_; rintro e w3 ⟨rfl, hb3, hg3⟩; have HB4 := Lib.hid hb3; have HG4 := Lib.hid hg3; clear hb3 hg3)
              go_roundg (s.size - (sr + i2 + ke2))
              case measure => have := HQ.out; omega
              case rel =>
                refine ⟨d + i2 + oe2.length, sr + i2 + ke2, putB (putB bs d pl) (d + i2) oe2, by go_num, by go_num, by omega, by omega, by omega, ?_, HB4.out, grownBy_trans HG3.out HG4.out, ?_, ?_⟩
                · show _ = _; rw [putB_length _ _ _ (by rw [HBS2.out]; omega), HBS2.out]
                · show _ = _
                  rw [putB_take _ _ _ (by rw [HBS2.out]; omega)]
                  have := putB_take bs d pl (by rw [HL.out]; omega)
                  rw [HPL.out] at this
                  rw [this, HOO.out, HA3.out]
                  simp only [List.append_assoc]
                · show _ = _
                  rw [putB_drop _ _ _ _ (by omega) (by rw [HBS2.out]; omega), ← List.drop_drop, HDR2.out, List.drop_drop]
        · go_wp2_with fail
          go_meet
          case rel => exact ⟨d, bs, rfl, by omega, HL.out, HBB.out, HGG.out, by
            have e : s.data.toList.drop sr = [] := List.drop_eq_nil_of_le (by rw [HLN.out]; omega)
            have := HOO.out
            rw [e, unescape_nil, List.append_nil] at this
            exact this⟩
    case rest =>
      obtain ⟨d, bs, rfl, hd, HL, HBB, HGG, HOO⟩ := hcut
      have hcv2 : (convert 29 9 (.slice (some ⟨g, 0, none⟩) d c)).run Try.prog wc = .ok (.string ⟨o.toArray⟩) wc := by
        have := conv_buf wc g bs HBB.out 0 d c (by rw [HL.out]; omega)
        rw [List.drop_zero, ← HOO.out] at this
        exact this
      go_wp2_with fail
      go_ret
      exact ⟨rfl, HBW.out.grown HGG.out (by rw [HSZ.out]; omega) (fun k hk => by rw [← HG.out]; injection hk with hk; omega)⟩
end Go.Proofs.Ytkogokjlpgnmlaa
