/- zzUnescapeEntity at a hexadecimal number. -/
import Derived.Test.YtkogokjlpgnmlaaU2
set_option linter.unusedVariables false
set_option linter.unusedSimpArgs false
namespace Go.Proofs.Ytkogokjlpgnmlaa
open Go.RowKit


set_option maxRecDepth 100000 in
set_option maxHeartbeats 4000000 in
theorem uent_hex (g n c dst src : Nat) (bs : Bs) (w : World) (hn : bs.length = n) (hnc : n ≤ c) (hc : c ≤ 9223372036854775807) (hsrc : src < n) (hdst : dst ≤ src) (hB : Buf w g bs) (h1 : 3 < n - src) (hx1 : bs.getD (src + 1) 0 = 35)
   (hy1 : bs.getD (src + 2) 0 = 120 ∨ bs.getD (src + 2) 0 = 88) (z0 : Int) (k0 : Nat) (hnl : numLoop true (bs.drop (src + 3)) 0 3 = (z0, k0)) :
    Calls Try.prog 42 #[.slice (some ⟨g, 0, none⟩) n c, .int .i64 dst, .int .i64 src] w (UPost w g bs dst src (if k0 ≤ 3 then [bs.getD src 0] else encB (fixR z0)) (if k0 ≤ 3 then 1 else k0)) := by
  have w1 : ∀ z, -2147483648 ≤ wrap32 z ∧ wrap32 z ≤ 2147483647 := fun z => by unfold wrap32; omega
  have W1 := Lib.hid w1
  clear w1
  have hcell := hB.cell src (by omega)
  have hcell1 := hB.cell (src + 1) (by omega)
  have hcell2 := hB.cell (src + 2) (by omega)
  rw [hx1] at hcell1
  obtain ⟨x, hx⟩ : ∃ x, x = bs.getD src 0 := ⟨_, rfl⟩
  obtain ⟨y, hy⟩ : ∃ y, y = bs.getD (src + 2) 0 := ⟨_, rfl⟩
  rw [← hx] at hcell ⊢
  rw [← hy] at hcell2 hy1 
  obtain ⟨v2, hv2⟩ : ∃ v, w.cell? ⟨g, dst, none⟩ = some v := ⟨_, hB.cell dst (by omega)⟩
  have hfr := hB.free dst (by omega)
  have HB := Lib.hid hB
  have HN := Lib.hid hn
  have HX := Lib.hid hx
  have HX1 := Lib.hid hx1
  have HY := Lib.hid hy
  have HNL := Lib.hid hnl
  obtain ⟨o, ho⟩ : ∃ o, o = (if k0 ≤ 3 then [x] else encB (fixR z0)) := ⟨_, rfl⟩
  obtain ⟨m, hm⟩ : ∃ m, m = (if k0 ≤ 3 then 1 else k0) := ⟨_, rfl⟩
  rw [← ho, ← hm]
  have HO := Lib.hid ho
  have HM := Lib.hid hm
  clear ho hm
  have HY1 := Lib.hid hy1
  clear hB hn hx hx1 hy hy1  hnl
  obtain ⟨yb, hyb, hyc⟩ : ∃ yb : Bool, (yb = true → ((y.toNat : Int) == 120) = true) ∧ (yb = false → ((y.toNat : Int) == 120) = false ∧ ((y.toNat : Int) == 88) = true) := by
    by_cases h : y = 120
    · exact ⟨true, fun _ => by rw [h]; rfl, fun h => by cases h⟩
    · refine ⟨false, fun h => (by cases h), fun _ => ⟨?_, ?_⟩⟩
      · rw [beq_eq_false_iff_ne]; intro h'; exact h (UInt8.toNat_inj.mp (by show y.toNat = 120; omega))
      · rcases HY1.out with h' | h'
        · exact absurd h' h
        · rw [h']; rfl
  cases yb
  · obtain ⟨hb1, hb2⟩ := hyc rfl
    clear hyb hyc
    go_enter Try.func42, Try.ntmps42
    go_wp2
    go_quiet (fail)
    go_upto_block 0 with (fail)
    go_cut [8, 12] (fun i x wc => ∃ (k : Nat) (z : Int), i = .int .i64 k ∧ x = .int .i32 z ∧ wc = w.drewN nq ∧ Hid (numLoop true (bs.drop (src + 3)) 0 3 = (z, k)) ∧ k ≤ n - src ∧ -2147483648 ≤ z ∧ z ≤ 2147483647)
    case first =>
      go_wp2_with fail
      go_loopg [8, 12] (n - src) (fun q i x wr => ∃ (k : Nat) (z : Int), i = .int .i64 k ∧ x = .int .i32 z ∧ q + k = n - src + 3 ∧ k ≤ n - src ∧ -2147483648 ≤ z ∧ z ≤ 2147483647 ∧ wr = w.drewN nq ∧ Hid (numLoop true (bs.drop (src + 3)) 0 3 = numLoop true (bs.drop (src + k)) z k))
      case atStart => exact ⟨3, 0, rfl, rfl, rfl, by omega, by decide, by decide, rfl, rfl⟩
      case round =>
        obtain ⟨k, z, rfl, rfl, hq, hkn, hz1, hz2, rfl, HR⟩ := hrel
        by_cases hlt : k < n - src
        · obtain ⟨ch, hch⟩ : ∃ ch, ch = bs.getD (src + k) 0 := ⟨_, rfl⟩
          have hck : w.cell? ⟨g, src + k, none⟩ = some (.int .u8 ch.toNat) := by rw [hch]; exact HB.out.cell (src + k) (by rw [HN.out]; omega)
          have hst : numLoop true (bs.drop (src + k)) z k = numLoop true (ch :: bs.drop (src + k + 1)) z k := by rw [hch, ← getD_drop_cons bs (src + k) (by rw [HN.out]; omega)]
          have HS := Lib.hid (HR.out.trans hst)
          have HC := Lib.hid hch
          have HQ := Lib.hid hq
          clear hch hst hq
          by_cases hd : 48 ≤ (ch.toNat : Int) ∧ (ch.toNat : Int) ≤ 57
          · have HD := Lib.hid hd
            obtain ⟨hd1, hd2⟩ := hd
            go_wp2_with fail
            go_roundg (gk - 1)
            case measure => have := HQ.out; omega
            case rel => exact ⟨k + 1, _, by go_num, rfl, by have := HQ.out; omega, by omega, (W1.out _).1, (W1.out _).2, rfl, by show _ = _; rw [HS.out, numLoop, if_pos HD.out]; rfl⟩
          · by_cases he : 97 ≤ (ch.toNat : Int) ∧ (ch.toNat : Int) ≤ 102
            · have HD := Lib.hid hd
              have HE1 := Lib.hid he
              obtain ⟨he1, he2⟩ := he
              clear hd
              go_wp2_with fail
              go_roundg (gk - 1)
              case measure => have := HQ.out; omega
              case rel => exact ⟨k + 1, _, by go_num, rfl, by have := HQ.out; omega, by omega, (W1.out _).1, (W1.out _).2, rfl, by show _ = _; rw [HS.out, numLoop, if_neg HD.out, if_pos ⟨rfl, HE1.out⟩]; rfl⟩
            by_cases hf : 65 ≤ (ch.toNat : Int) ∧ (ch.toNat : Int) ≤ 70
            · have HD := Lib.hid hd
              have HE1 := Lib.hid he
              have HF1 := Lib.hid hf
              obtain ⟨hf1, hf2⟩ := hf
              clear hd he
              go_wp2_with fail
              go_roundg (gk - 1)
              case measure => have := HQ.out; omega
              case rel => exact ⟨k + 1, _, by go_num, rfl, by have := HQ.out; omega, by omega, (W1.out _).1, (W1.out _).2, rfl, by show _ = _; rw [HS.out, numLoop, if_neg HD.out, if_neg (fun h => HE1.out h.2), if_pos ⟨rfl, HF1.out⟩]; rfl⟩
            have hend : numLoop true (ch :: bs.drop (src + k + 1)) z k = (z, if ((ch.toNat : Int) != 59) = true then k else k + 1) := by
              rw [numLoop, if_neg hd, if_neg (fun h => he h.2), if_neg (fun h => hf h.2)]
            have HE := Lib.hid (HS.out.trans hend)
            clear hend
            have hlo : (ch.toNat : Int) < 48 ∨ (57 < (ch.toNat : Int) ∧ (ch.toNat : Int) < 65) ∨ (70 < (ch.toNat : Int) ∧ (ch.toNat : Int) < 97) ∨ 102 < (ch.toNat : Int) := by omega
            clear hd he hf
            rcases hlo with hlo | ⟨hlo, hlo2⟩ | ⟨hlo, hlo2⟩ | hlo
            · by_cases h59 : ((ch.toNat : Int) != 59) = true
              · go_wp2_with fail
                go_meet
                case rel => exact ⟨k, z, rfl, rfl, rfl, by show _ = _; rw [HE.out, if_pos h59], by omega, hz1, hz2⟩
              · have h59' : ((ch.toNat : Int) != 59) = false := by simpa using h59
                have H59 := Lib.hid h59
                clear h59
                go_wp2_with fail
                go_meet
                case rel => exact ⟨k + 1, z, by go_num, rfl, rfl, by show _ = _; rw [HE.out, if_neg H59.out], by omega, hz1, hz2⟩
            · by_cases h59 : ((ch.toNat : Int) != 59) = true
              · go_wp2_with fail
                go_meet
                case rel => exact ⟨k, z, rfl, rfl, rfl, by show _ = _; rw [HE.out, if_pos h59], by omega, hz1, hz2⟩
              · have h59' : ((ch.toNat : Int) != 59) = false := by simpa using h59
                have H59 := Lib.hid h59
                clear h59
                go_wp2_with fail
                go_meet
                case rel => exact ⟨k + 1, z, by go_num, rfl, rfl, by show _ = _; rw [HE.out, if_neg H59.out], by omega, hz1, hz2⟩
            · by_cases h59 : ((ch.toNat : Int) != 59) = true
              · go_wp2_with fail
                go_meet
                case rel => exact ⟨k, z, rfl, rfl, rfl, by show _ = _; rw [HE.out, if_pos h59], by omega, hz1, hz2⟩
              · have h59' : ((ch.toNat : Int) != 59) = false := by simpa using h59
                have H59 := Lib.hid h59
                clear h59
                go_wp2_with fail
                go_meet
                case rel => exact ⟨k + 1, z, by go_num, rfl, rfl, by show _ = _; rw [HE.out, if_neg H59.out], by omega, hz1, hz2⟩
            · by_cases h59 : ((ch.toNat : Int) != 59) = true
              · go_wp2_with fail
                go_meet
                case rel => exact ⟨k, z, rfl, rfl, rfl, by show _ = _; rw [HE.out, if_pos h59], by omega, hz1, hz2⟩
              · have h59' : ((ch.toNat : Int) != 59) = false := by simpa using h59
                have H59 := Lib.hid h59
                clear h59
                go_wp2_with fail
                go_meet
                case rel => exact ⟨k + 1, z, by go_num, rfl, rfl, by show _ = _; rw [HE.out, if_neg H59.out], by omega, hz1, hz2⟩
        · have hke : k = n - src := by omega
          have hend : numLoop true (bs.drop (src + k)) z k = (z, k) := by
            have : bs.drop (src + k) = [] := List.drop_eq_nil_of_le (by rw [HN.out]; omega)
            rw [this, numLoop]
          have HE := Lib.hid (HR.out.trans hend)
          clear hend
          clear hke hq
          go_wp2_with fail
          go_meet
          case rel => exact ⟨k, z, rfl, rfl, rfl, HE.out, by omega, hz1, hz2⟩
    case rest =>
      obtain ⟨k, z, rfl, rfl, rfl, HR, hk, hz1, hz2⟩ := hcut
      obtain ⟨rfl, rfl⟩ : z0 = z ∧ k0 = k := by have := HNL.out.symm.trans HR.out; simpa using this
      clear HNL HR
      by_cases hk3 : k0 ≤ 3
      · go_wp2_with fail
        go_ret2
        rw [HO.out, HM.out, if_pos hk3, if_pos hk3]
        exact ⟨rfl, (Buf.drewN HB.out _).put1 dst x (by rw [HN.out]; omega), grownBy_trans (grownBy_drewN w _ _) (grownBy_setCell1 _ g dst _)⟩
      · have hO : o = encB (fixR z0) := by rw [HO.out, if_neg hk3]
        have hM : m = k0 := by rw [HM.out, if_neg hk3]
        have HO2 := Lib.hid hO
        have HM2 := Lib.hid hM
        clear hO hM HO HM
        by_cases ha : 128 ≤ z0 ∧ z0 ≤ 159
        · have hf : fixR z0 = replZ z0 := by rw [fixR, if_pos ha]
          obtain ⟨hr1, hr2⟩ := replZ_range z0 ha.1 ha.2
          obtain ⟨hl1, hl2⟩ := encB_length (replZ z0)
          have HF := Lib.hid (HO2.out.trans (congrArg encB hf))
          clear hf HO2
          obtain ⟨ha1, ha2⟩ := ha
          go_wp2_with (first | (go_at_call 47; refine (repl_any z0 ha1 ha2 _).mono ?_; rintro e w' ⟨rfl, rfl⟩) | (go_at_call 48; refine (enc_buf g dst (n - dst) (c - dst) (replZ z0) (by omega) (by omega) _ bs (HB.out.drewN _) (by omega) (by rw [HN.out]; omega)).mono ?_; rintro e w' ⟨rfl, hb', hg'⟩))
          go_ret2
          rw [HM2.out, HF.out]
          exact ⟨rfl, hb', grownBy_trans (grownBy_drewN w _ _) hg'⟩
        by_cases hb : z0 = 0
        · have hf : fixR z0 = 65533 := by rw [fixR, if_neg ha, if_pos (Or.inl hb)]
          obtain ⟨hl1, hl2⟩ := encB_length (65533)
          have HF := Lib.hid (HO2.out.trans (congrArg encB hf))
          clear hf HO2
          subst hb; clear ha
          go_wp2_with (first | (go_at_call 47; refine (repl_any z0 ha1 ha2 _).mono ?_; rintro e w' ⟨rfl, rfl⟩) | (go_at_call 48; refine (enc_buf g dst (n - dst) (c - dst) (65533) (by omega) (by omega) _ bs (HB.out.drewN _) (by omega) (by rw [HN.out]; omega)).mono ?_; rintro e w' ⟨rfl, hb', hg'⟩))
          go_ret2
          rw [HM2.out, HF.out]
          exact ⟨rfl, hb', grownBy_trans (grownBy_drewN w _ _) hg'⟩
        by_cases hs : 55296 ≤ z0 ∧ z0 ≤ 57343
        · have hf : fixR z0 = 65533 := by rw [fixR, if_neg ha, if_pos (Or.inr (Or.inl hs))]
          obtain ⟨hl1, hl2⟩ := encB_length (65533)
          have HF := Lib.hid (HO2.out.trans (congrArg encB hf))
          clear hf HO2
          obtain ⟨hs1, hs2⟩ := hs; clear ha; have hb0 : (z0 == 0) = false := by simpa using hb
          clear hb
          go_wp2_with (first | (go_at_call 47; refine (repl_any z0 ha1 ha2 _).mono ?_; rintro e w' ⟨rfl, rfl⟩) | (go_at_call 48; refine (enc_buf g dst (n - dst) (c - dst) (65533) (by omega) (by omega) _ bs (HB.out.drewN _) (by omega) (by rw [HN.out]; omega)).mono ?_; rintro e w' ⟨rfl, hb', hg'⟩))
          go_ret2
          rw [HM2.out, HF.out]
          exact ⟨rfl, hb', grownBy_trans (grownBy_drewN w _ _) hg'⟩
        by_cases ht : 1114111 < z0
        · have hf : fixR z0 = 65533 := by rw [fixR, if_neg ha, if_pos (Or.inr (Or.inr ht))]
          obtain ⟨hl1, hl2⟩ := encB_length (65533)
          have HF := Lib.hid (HO2.out.trans (congrArg encB hf))
          clear hf HO2
          clear ha hs; have hb0 : (z0 == 0) = false := by simpa using hb
          clear hb
          go_wp2_with (first | (go_at_call 47; refine (repl_any z0 ha1 ha2 _).mono ?_; rintro e w' ⟨rfl, rfl⟩) | (go_at_call 48; refine (enc_buf g dst (n - dst) (c - dst) (65533) (by omega) (by omega) _ bs (HB.out.drewN _) (by omega) (by rw [HN.out]; omega)).mono ?_; rintro e w' ⟨rfl, hb', hg'⟩))
          go_ret2
          rw [HM2.out, HF.out]
          exact ⟨rfl, hb', grownBy_trans (grownBy_drewN w _ _) hg'⟩
        have hf : fixR z0 = z0 := by rw [fixR, if_neg ha, if_neg (by omega)]
        obtain ⟨hl1, hl2⟩ := encB_length z0
        have HF := Lib.hid (HO2.out.trans (congrArg encB hf))
        clear hf HO2
        have hb0 : (z0 == 0) = false := by simpa using hb
        have hre : z0 < 128 ∨ (159 < z0 ∧ z0 < 55296) ∨ 57343 < z0 := by omega
        clear ha hb hs
        rcases hre with hre | ⟨hre, hre2⟩ | hre
        all_goals
          go_wp2_with (go_at_call 48; refine (enc_buf g dst (n - dst) (c - dst) z0 (by omega) (by omega) _ bs (HB.out.drewN _) (by omega) (by rw [HN.out]; omega)).mono ?_; rintro e w' ⟨rfl, hb', hg'⟩)
          go_ret2
          rw [HM2.out, HF.out]
          exact ⟨rfl, hb', grownBy_trans (grownBy_drewN w _ _) hg'⟩
  · have hb1 := hyb rfl
    clear hyb hyc
    go_enter Try.func42, Try.ntmps42
    go_wp2
    go_quiet (fail)
    go_upto_block 0 with (fail)
    go_cut [8, 12] (fun i x wc => ∃ (k : Nat) (z : Int), i = .int .i64 k ∧ x = .int .i32 z ∧ wc = w.drewN nq ∧ Hid (numLoop true (bs.drop (src + 3)) 0 3 = (z, k)) ∧ k ≤ n - src ∧ -2147483648 ≤ z ∧ z ≤ 2147483647)
    case first =>
      go_wp2_with fail
      go_loopg [8, 12] (n - src) (fun q i x wr => ∃ (k : Nat) (z : Int), i = .int .i64 k ∧ x = .int .i32 z ∧ q + k = n - src + 3 ∧ k ≤ n - src ∧ -2147483648 ≤ z ∧ z ≤ 2147483647 ∧ wr = w.drewN nq ∧ Hid (numLoop true (bs.drop (src + 3)) 0 3 = numLoop true (bs.drop (src + k)) z k))
      case atStart => exact ⟨3, 0, rfl, rfl, rfl, by omega, by decide, by decide, rfl, rfl⟩
      case round =>
        obtain ⟨k, z, rfl, rfl, hq, hkn, hz1, hz2, rfl, HR⟩ := hrel
        by_cases hlt : k < n - src
        · obtain ⟨ch, hch⟩ : ∃ ch, ch = bs.getD (src + k) 0 := ⟨_, rfl⟩
          have hck : w.cell? ⟨g, src + k, none⟩ = some (.int .u8 ch.toNat) := by rw [hch]; exact HB.out.cell (src + k) (by rw [HN.out]; omega)
          have hst : numLoop true (bs.drop (src + k)) z k = numLoop true (ch :: bs.drop (src + k + 1)) z k := by rw [hch, ← getD_drop_cons bs (src + k) (by rw [HN.out]; omega)]
          have HS := Lib.hid (HR.out.trans hst)
          have HC := Lib.hid hch
          have HQ := Lib.hid hq
          clear hch hst hq
          by_cases hd : 48 ≤ (ch.toNat : Int) ∧ (ch.toNat : Int) ≤ 57
          · have HD := Lib.hid hd
            obtain ⟨hd1, hd2⟩ := hd
            go_wp2_with fail
            go_roundg (gk - 1)
            case measure => have := HQ.out; omega
            case rel => exact ⟨k + 1, _, by go_num, rfl, by have := HQ.out; omega, by omega, (W1.out _).1, (W1.out _).2, rfl, by show _ = _; rw [HS.out, numLoop, if_pos HD.out]; rfl⟩
          · by_cases he : 97 ≤ (ch.toNat : Int) ∧ (ch.toNat : Int) ≤ 102
            · have HD := Lib.hid hd
              have HE1 := Lib.hid he
              obtain ⟨he1, he2⟩ := he
              clear hd
              go_wp2_with fail
              go_roundg (gk - 1)
              case measure => have := HQ.out; omega
              case rel => exact ⟨k + 1, _, by go_num, rfl, by have := HQ.out; omega, by omega, (W1.out _).1, (W1.out _).2, rfl, by show _ = _; rw [HS.out, numLoop, if_neg HD.out, if_pos ⟨rfl, HE1.out⟩]; rfl⟩
            by_cases hf : 65 ≤ (ch.toNat : Int) ∧ (ch.toNat : Int) ≤ 70
            · have HD := Lib.hid hd
              have HE1 := Lib.hid he
              have HF1 := Lib.hid hf
              obtain ⟨hf1, hf2⟩ := hf
              clear hd he
              go_wp2_with fail
              go_roundg (gk - 1)
              case measure => have := HQ.out; omega
              case rel => exact ⟨k + 1, _, by go_num, rfl, by have := HQ.out; omega, by omega, (W1.out _).1, (W1.out _).2, rfl, by show _ = _; rw [HS.out, numLoop, if_neg HD.out, if_neg (fun h => HE1.out h.2), if_pos ⟨rfl, HF1.out⟩]; rfl⟩
            have hend : numLoop true (ch :: bs.drop (src + k + 1)) z k = (z, if ((ch.toNat : Int) != 59) = true then k else k + 1) := by
              rw [numLoop, if_neg hd, if_neg (fun h => he h.2), if_neg (fun h => hf h.2)]
            have HE := Lib.hid (HS.out.trans hend)
            clear hend
            have hlo : (ch.toNat : Int) < 48 ∨ (57 < (ch.toNat : Int) ∧ (ch.toNat : Int) < 65) ∨ (70 < (ch.toNat : Int) ∧ (ch.toNat : Int) < 97) ∨ 102 < (ch.toNat : Int) := by omega
            clear hd he hf
            rcases hlo with hlo | ⟨hlo, hlo2⟩ | ⟨hlo, hlo2⟩ | hlo
            · by_cases h59 : ((ch.toNat : Int) != 59) = true
              · go_wp2_with fail
                go_meet
                case rel => exact ⟨k, z, rfl, rfl, rfl, by show _ = _; rw [HE.out, if_pos h59], by omega, hz1, hz2⟩
              · have h59' : ((ch.toNat : Int) != 59) = false := by simpa using h59
                have H59 := Lib.hid h59
                clear h59
                go_wp2_with fail
                go_meet
                case rel => exact ⟨k + 1, z, by go_num, rfl, rfl, by show _ = _; rw [HE.out, if_neg H59.out], by omega, hz1, hz2⟩
            · by_cases h59 : ((ch.toNat : Int) != 59) = true
              · go_wp2_with fail
                go_meet
                case rel => exact ⟨k, z, rfl, rfl, rfl, by show _ = _; rw [HE.out, if_pos h59], by omega, hz1, hz2⟩
              · have h59' : ((ch.toNat : Int) != 59) = false := by simpa using h59
                have H59 := Lib.hid h59
                clear h59
                go_wp2_with fail
                go_meet
                case rel => exact ⟨k + 1, z, by go_num, rfl, rfl, by show _ = _; rw [HE.out, if_neg H59.out], by omega, hz1, hz2⟩
            · by_cases h59 : ((ch.toNat : Int) != 59) = true
              · go_wp2_with fail
                go_meet
                case rel => exact ⟨k, z, rfl, rfl, rfl, by show _ = _; rw [HE.out, if_pos h59], by omega, hz1, hz2⟩
              · have h59' : ((ch.toNat : Int) != 59) = false := by simpa using h59
                have H59 := Lib.hid h59
                clear h59
                go_wp2_with fail
                go_meet
                case rel => exact ⟨k + 1, z, by go_num, rfl, rfl, by show _ = _; rw [HE.out, if_neg H59.out], by omega, hz1, hz2⟩
            · by_cases h59 : ((ch.toNat : Int) != 59) = true
              · go_wp2_with fail
                go_meet
                case rel => exact ⟨k, z, rfl, rfl, rfl, by show _ = _; rw [HE.out, if_pos h59], by omega, hz1, hz2⟩
              · have h59' : ((ch.toNat : Int) != 59) = false := by simpa using h59
                have H59 := Lib.hid h59
                clear h59
                go_wp2_with fail
                go_meet
                case rel => exact ⟨k + 1, z, by go_num, rfl, rfl, by show _ = _; rw [HE.out, if_neg H59.out], by omega, hz1, hz2⟩
        · have hke : k = n - src := by omega
          have hend : numLoop true (bs.drop (src + k)) z k = (z, k) := by
            have : bs.drop (src + k) = [] := List.drop_eq_nil_of_le (by rw [HN.out]; omega)
            rw [this, numLoop]
          have HE := Lib.hid (HR.out.trans hend)
          clear hend
          clear hke hq
          go_wp2_with fail
          go_meet
          case rel => exact ⟨k, z, rfl, rfl, rfl, HE.out, by omega, hz1, hz2⟩
    case rest =>
      obtain ⟨k, z, rfl, rfl, rfl, HR, hk, hz1, hz2⟩ := hcut
      obtain ⟨rfl, rfl⟩ : z0 = z ∧ k0 = k := by have := HNL.out.symm.trans HR.out; simpa using this
      clear HNL HR
      by_cases hk3 : k0 ≤ 3
      · go_wp2_with fail
        go_ret2
        rw [HO.out, HM.out, if_pos hk3, if_pos hk3]
        exact ⟨rfl, (Buf.drewN HB.out _).put1 dst x (by rw [HN.out]; omega), grownBy_trans (grownBy_drewN w _ _) (grownBy_setCell1 _ g dst _)⟩
      · have hO : o = encB (fixR z0) := by rw [HO.out, if_neg hk3]
        have hM : m = k0 := by rw [HM.out, if_neg hk3]
        have HO2 := Lib.hid hO
        have HM2 := Lib.hid hM
        clear hO hM HO HM
        by_cases ha : 128 ≤ z0 ∧ z0 ≤ 159
        · have hf : fixR z0 = replZ z0 := by rw [fixR, if_pos ha]
          obtain ⟨hr1, hr2⟩ := replZ_range z0 ha.1 ha.2
          obtain ⟨hl1, hl2⟩ := encB_length (replZ z0)
          have HF := Lib.hid (HO2.out.trans (congrArg encB hf))
          clear hf HO2
          obtain ⟨ha1, ha2⟩ := ha
          go_wp2_with (first | (go_at_call 47; refine (repl_any z0 ha1 ha2 _).mono ?_; rintro e w' ⟨rfl, rfl⟩) | (go_at_call 48; refine (enc_buf g dst (n - dst) (c - dst) (replZ z0) (by omega) (by omega) _ bs (HB.out.drewN _) (by omega) (by rw [HN.out]; omega)).mono ?_; rintro e w' ⟨rfl, hb', hg'⟩))
          go_ret2
          rw [HM2.out, HF.out]
          exact ⟨rfl, hb', grownBy_trans (grownBy_drewN w _ _) hg'⟩
        by_cases hb : z0 = 0
        · have hf : fixR z0 = 65533 := by rw [fixR, if_neg ha, if_pos (Or.inl hb)]
          obtain ⟨hl1, hl2⟩ := encB_length (65533)
          have HF := Lib.hid (HO2.out.trans (congrArg encB hf))
          clear hf HO2
          subst hb; clear ha
          go_wp2_with (first | (go_at_call 47; refine (repl_any z0 ha1 ha2 _).mono ?_; rintro e w' ⟨rfl, rfl⟩) | (go_at_call 48; refine (enc_buf g dst (n - dst) (c - dst) (65533) (by omega) (by omega) _ bs (HB.out.drewN _) (by omega) (by rw [HN.out]; omega)).mono ?_; rintro e w' ⟨rfl, hb', hg'⟩))
          go_ret2
          rw [HM2.out, HF.out]
          exact ⟨rfl, hb', grownBy_trans (grownBy_drewN w _ _) hg'⟩
        by_cases hs : 55296 ≤ z0 ∧ z0 ≤ 57343
        · have hf : fixR z0 = 65533 := by rw [fixR, if_neg ha, if_pos (Or.inr (Or.inl hs))]
          obtain ⟨hl1, hl2⟩ := encB_length (65533)
          have HF := Lib.hid (HO2.out.trans (congrArg encB hf))
          clear hf HO2
          obtain ⟨hs1, hs2⟩ := hs; clear ha; have hb0 : (z0 == 0) = false := by simpa using hb
          clear hb
          go_wp2_with (first | (go_at_call 47; refine (repl_any z0 ha1 ha2 _).mono ?_; rintro e w' ⟨rfl, rfl⟩) | (go_at_call 48; refine (enc_buf g dst (n - dst) (c - dst) (65533) (by omega) (by omega) _ bs (HB.out.drewN _) (by omega) (by rw [HN.out]; omega)).mono ?_; rintro e w' ⟨rfl, hb', hg'⟩))
          go_ret2
          rw [HM2.out, HF.out]
          exact ⟨rfl, hb', grownBy_trans (grownBy_drewN w _ _) hg'⟩
        by_cases ht : 1114111 < z0
        · have hf : fixR z0 = 65533 := by rw [fixR, if_neg ha, if_pos (Or.inr (Or.inr ht))]
          obtain ⟨hl1, hl2⟩ := encB_length (65533)
          have HF := Lib.hid (HO2.out.trans (congrArg encB hf))
          clear hf HO2
          clear ha hs; have hb0 : (z0 == 0) = false := by simpa using hb
          clear hb
          go_wp2_with (first | (go_at_call 47; refine (repl_any z0 ha1 ha2 _).mono ?_; rintro e w' ⟨rfl, rfl⟩) | (go_at_call 48; refine (enc_buf g dst (n - dst) (c - dst) (65533) (by omega) (by omega) _ bs (HB.out.drewN _) (by omega) (by rw [HN.out]; omega)).mono ?_; rintro e w' ⟨rfl, hb', hg'⟩))
          go_ret2
          rw [HM2.out, HF.out]
          exact ⟨rfl, hb', grownBy_trans (grownBy_drewN w _ _) hg'⟩
        have hf : fixR z0 = z0 := by rw [fixR, if_neg ha, if_neg (by omega)]
        obtain ⟨hl1, hl2⟩ := encB_length z0
        have HF := Lib.hid (HO2.out.trans (congrArg encB hf))
        clear hf HO2
        have hb0 : (z0 == 0) = false := by simpa using hb
        have hre : z0 < 128 ∨ (159 < z0 ∧ z0 < 55296) ∨ 57343 < z0 := by omega
        clear ha hb hs
        rcases hre with hre | ⟨hre, hre2⟩ | hre
        all_goals
          go_wp2_with (go_at_call 48; refine (enc_buf g dst (n - dst) (c - dst) z0 (by omega) (by omega) _ bs (HB.out.drewN _) (by omega) (by rw [HN.out]; omega)).mono ?_; rintro e w' ⟨rfl, hb', hg'⟩)
          go_ret2
          rw [HM2.out, HF.out]
          exact ⟨rfl, hb', grownBy_trans (grownBy_drewN w _ _) hg'⟩
end Go.Proofs.Ytkogokjlpgnmlaa
