/-
  FnInlineAlone: links with a title.
-/
import Derived.Test.YtalajbfpilhfgaaGreatDoorK10
set_option linter.unusedVariables false
set_option linter.unusedSimpArgs false
namespace Go.Proofs.YtalajbfpilhfgaaGreatDoor
open Go.RowKit

set_option maxRecDepth 100000 in
set_option maxHeartbeats 16000000 in
theorem link_t34 (x : Ctx) (k : Nat) (e a bl q sp r : Nat) (lv : Nat → Nat) (L T : Bs) (sg : List Seg) (hk : k < 16) (hx : x.ext ≤ 131070) (hB : Brk x.D e a lv) (hlen : e + r < x.D.length)
    (h94 : x.D.getD (e + 1) 0 ≠ 94)
    (hbl : ∀ j, j < bl → isSp (x.D.getD (e + (a + 2 + j)) 0) = true) (hb : isSp (x.D.getD (e + (a + 2 + bl)) 0) = false ∧ x.D.getD (e + (a + 2 + bl)) 0 ≠ 60)
    (hq : ∀ j, j < q - (a + 2 + bl) → x.D.getD (e + (a + 2 + bl + j)) 0 ≠ 92 ∧ x.D.getD (e + (a + 2 + bl + j)) 0 ≠ 41 ∧ x.D.getD (e + (a + 2 + bl + j)) 0 ≠ 39 ∧ x.D.getD (e + (a + 2 + bl + j)) 0 ≠ 34) (hq1 : x.D.getD (e + q) 0 = 34) (hqb : a + 2 + bl + sp + 0 < q)
    (hr : ∀ j, j < r - (q + 1) → x.D.getD (e + (q + 1 + j)) 0 ≠ 92 ∧ x.D.getD (e + (q + 1 + j)) 0 ≠ 41) (hr1 : x.D.getD (e + r) 0 = 41) (hqr : q + 2 < r) (hr2 : x.D.getD (e + (r - 1)) 0 = 34) (hT : (x.D.drop (e + (q + 1))).take (r - 1 - (q + 1)) = T)
    (hsp : ∀ j, j < sp → isSp (x.D.getD (e + (q - 1 - j)) 0) = true) (hsp1 : isSp (x.D.getD (e + (q - 1 - sp)) 0) = false ∧ x.D.getD (e + (q - 1 - sp)) 0 ≠ 62)
    (hL : (x.D.drop (e + (a + 2 + bl))).take ((q - sp) - (a + 2 + bl)) = L) (hLm : r ≤ 1000)
    (hl : x.D.getD (e + a - 1) 0 ≠ 10) (hs : SegsOk (x.sub (e + 1) (a - 1)) (k + 1) true sg 0) :
    Takes x k false e (r + 1) (some (G.one 10 none (some L) (some T) (outG (x.sub (e + 1) (a - 1)).D sg 0 0))) := by
  refine ⟨50, by rw [hB.open']; rfl, fun w hi => ?_⟩
  have hcap := hi.2.2.2.1
  have hcap2 := hi.2.2.2.2
  have hce := hi.ext'
  have hci := hi.ins'
  have hpos := hB.pos
  obtain ⟨b, hbb⟩ : ∃ b, b = a + 2 + bl := ⟨_, rfl⟩
  rw [← hbb] at hb hq hqb hL
  have hll : L.length = (q - sp - b) := by rw [← hL]; simp; omega
  have h92 : ∀ j, j < L.length → L.getD j 0 ≠ 92 := by
    intro j hj
    rw [hll] at hj
    have := (hq j (by omega)).1
    rw [← hL, getD_take' (by omega), getD_drop, Nat.add_assoc]
    exact this
  have hRl : RdO w x.g (x.off + e + b) L := by rw [← hL, Nat.add_assoc]; exact rdO_sub hi.2.1 (e + b) (q - sp - b)
  have TV : Hid (∀ w', Below w.heap.size w w' → RdV w' (.slice (some ⟨x.g, x.off + e + (q + 1), none⟩) (r - 1 - (q + 1)) (x.cap - e - (q + 1))) (some T)) := fun w' hb => by
    have := (hi.below hb).rd (b := e + (q + 1)) (n := r - 1 - (q + 1)) (by omega)
    rw [hT, ← Nat.add_assoc x.off e, show x.cap - (e + (q + 1)) = x.cap - e - (q + 1) by omega] at this
    exact this
  have hgl := hi.ltg
  have ci := link_inner x k (e + 1) (a - 1) sg hk (by omega) (by omega) (by rw [show e + 1 + (a - 1) - 1 = e + a - 1 by omega]; exact hl) hs w hi
  obtain ⟨R, hR⟩ : ∃ R, R = outG (x.sub (e + 1) (a - 1)).D sg 0 0 := ⟨_, rfl⟩
  rw [← hR, ← Nat.add_assoc, ← Nat.sub_sub] at ci
  rw [← hR]
  clear hR
  have MC : Hid (∀ w', Below w.heap.size w w' → w'.cell? ⟨x.M, 262, none⟩ = some (.bool false) ∧ w'.frozen? ⟨x.M, 262, none⟩ = false) := fun w' hb => by
    refine ⟨(hi.below hb).ins', ?_⟩
    obtain ⟨⟨C, h1, h2⟩, _⟩ := hi.below hb
    exact h1.free 262
  unfold Ctx.val
  obtain ⟨n, hn⟩ : ∃ n, n = x.D.length := ⟨_, rfl⟩
  have hc : ∀ j, e + j < n → w.cell? ⟨x.g, x.off + e + j, none⟩ = some (.int .u8 (x.D.getD (e + j) 0).toNat) := fun j hj => by
    rw [Nat.add_assoc]
    exact hi.byte (by omega)
  rw [← hn] at hlen hcap ⊢
  have c0 : w.cell? ⟨x.g, x.off + e, none⟩ = some (.int .u8 91) := by have := hi.byte (j := e) (by omega); rw [hB.open'] at this; exact this
  obtain ⟨y1, hy1⟩ : ∃ y, y = x.D.getD (e + 1) 0 := ⟨_, rfl⟩
  have c1 : w.cell? ⟨x.g, x.off + (e + 1), none⟩ = some (.int .u8 y1.toNat) := by rw [hy1]; exact hi.byte (j := e + 1) (by omega)
  have b94 : ((y1.toNat : Int) == 94) = false := beq_no (k := 94) (by rw [hy1]; exact h94)
  obtain ⟨W1, hW1⟩ : ∃ W1, W1 = w.alloc (.cells #[.slice none 0 0, .int .i64 0, .int .i8 0] 120) := ⟨_, rfl⟩
  have hbW : Below w.heap.size w W1 := by rw [hW1]; exact (Below.refl _ w).alloc (Nat.le_refl _) _
  have hzW : W1.heap.size = w.heap.size + 1 := by rw [hW1, alloc_size]
  have c70 : Calls Tryz.prog 70 #[ptr w.heap.size, .slice (some ⟨x.g, x.off + e + b, none⟩) (q - sp - b) (x.cap - e - b)] W1 fun r w' => r = .returned (.tuple #[]) ∧ Lib.IsBuffer 120 5 w.heap.size w.heap.size (cellsB L) w' ∧ Below w.heap.size W1 w' :=
    unesc70 w.heap.size w.heap.size x.g (x.off + e + b) (q - sp - b) (x.cap - e - b) L W1 hll (by omega) (by omega) (by omega) (by rw [hW1]; exact Lib.fresh_isBuffer 120 5 w) (by omega) hgl (rdO_below hRl hbW hgl) (fun j hj => h92 j (by omega))
  rw [hW1] at c70
  have C70 := Lib.hid c70
  have C66 := Lib.hid (fun W h => bytes66 w.heap.size w.heap.size L W (by omega) h)
  have CN := Lib.hid (fun w => new39 10 w)
  have CV := Lib.hid norm71
  have HW1 := Lib.hid hW1
  have HBW := Lib.hid hbW
  have HZW := Lib.hid hzW
  have HLL := Lib.hid hll
  have hlp : (0 : Int) < (L.length : Int) := by omega
  have hcapm : (maxLen : Nat) = 9223372036854775807 := rfl
  have HBIT := Lib.hid (and_bit x.ext 10 hx (by omega))
  have CI := Lib.hid ci
  have HB := Lib.hid hB
  have HC := Lib.hid hc
  have HBL := Lib.hid hbl
  have HQ := Lib.hid hq
  have HSP := Lib.hid hsp
  have HQ1 := Lib.hid hq1
  have HB1 := Lib.hid hb
  have HSP1 := Lib.hid hsp1
  have sp40 := fun w => sp59 40 w
  rw [show isSp 40 = false from by decide] at sp40
  have SP40 := Lib.hid sp40
  obtain ⟨ll, hlle⟩ : ∃ ll, ll = L.length := ⟨_, rfl⟩
  rw [← hlle] at C66 hlp hll
  have HLE := Lib.hid hlle
  have HBB := Lib.hid hbb
  have HR := Lib.hid hr
  have HR1 := Lib.hid hr1
  have HR2 := Lib.hid hr2
  have hq2 : q + 2 < r := hqr
  have hb2 : a + 2 + bl ≤ b := by omega
  have hb3 : b ≤ a + 2 + bl := by omega
  clear sp40 hc hB h94 hy1 hi hn hbl hq hsp hs hl hL c70 hW1 hbW hzW hcapm ci hlle h92 hRl hgl hbb hq1 hb hsp1 hr hr1 hr2 hT hqr
  have BS := Lib.hid (fun j z h1 h2 hz hc => bse63 x.g (x.off + e) (n - e) (x.cap - e) j z h1 h2 (by omega) hz w hc)
  clear hll
  go_enter Tryz.func50, Tryz.ntmps50
  go_upto_block 0 with fail
  go_cut [2, 8] from 72 to 136 (fun v2 v8 wx => v2 = .int .i64 e ∧ v8 = .int .i64 0 ∧ wx = w)
  case first =>
    by_cases hf : x.ext.testBit 10 = true
    · have hb2 : bits .and .i64 (x.ext : Int) 1024 = 1024 := by have := HBIT.out; rw [if_pos hf] at this; exact this
      go_wp2_with fail
      go_meet
      case rel => exact ⟨rfl, rfl, rfl⟩
    · have hb2 : bits .and .i64 (x.ext : Int) 1024 = 0 := by have := HBIT.out; rw [if_neg hf] at this; exact this
      go_wp2_with fail
      go_meet
      case rel => exact ⟨rfl, rfl, rfl⟩
  case rest =>
    obtain ⟨rfl, rfl, rfl⟩ := hcut
    clear hce hci c1 b94 HBIT
    go_wp2
    go_loopg [9, 15] a (fun m v9 v15 wr => wc = wr ∧ ∃ j : Nat, v9 = .int .i64 (j : Nat) ∧ ((v15 = .int .i64 (lv j : Nat) ∧ m + j = a + 1 ∧ 1 ≤ j ∧ j ≤ a) ∨ (j = a ∧ v15 = .int .i64 0 ∧ m = 0)))
    case atStart => exact ⟨rfl, 1, rfl, Or.inl ⟨by rw [HB.out.at1]; rfl, by omega, by omega, by omega⟩⟩
    case round =>
      obtain ⟨rfl, j, rfl, ⟨rfl, hm, hj1, hja⟩ | ⟨rfl, rfl, rfl⟩⟩ := hrel
      · have HM := Lib.hid hm
        clear hm
        obtain ⟨y, hy⟩ : ∃ y, y = x.D.getD (e + j) 0 := ⟨_, rfl⟩
        have c2 := HC.out j (by omega)
        rw [← hy] at c2
        have hz92 : x.D.getD (e + (j - 1)) 0 ≠ 92 := by
          by_cases hj2 : j = 1
          · subst hj2
            rw [show e + (1 - 1) = e by omega, HB.out.open']
            decide
          · exact (HB.out.step (j - 1) (by omega) (by omega)).2.2.2.1
        have BS1 := Lib.hid (BS.out j (x.D.getD (e + (j - 1)) 0) (by omega) (by omega) hz92 (HC.out (j - 1) (by omega)))
        clear hz92
        by_cases hj : j < a
        · obtain ⟨p1, p2, p3, p4, p5⟩ := HB.out.step j hj1 hj
          rw [← hy] at p3 p4 p5
          have b10 : ((y.toNat : Int) == 10) = false := beq_no (k := 10) p3
          obtain ⟨l0, hl0⟩ : ∃ l0, l0 = lv j := ⟨_, rfl⟩
          have p0 := HB.out.le j
          rw [← hl0] at p0
          obtain ⟨l1, hl1⟩ : ∃ l1, l1 = lv (j + 1) := ⟨_, rfl⟩
          rw [← hl0] at p1 p5 ⊢
          rw [← hl1] at p2 p5
          have HL1 := Lib.hid hl1
          clear hy hl0 hl1 p3 p4
          rcases p5 with ⟨p5, p6⟩ | ⟨p5, p6⟩ | ⟨p5, p6, p7⟩
          · have b91 : ((y.toNat : Int) == 91) = true := beq_yes (k := 91) p5
            have b93 : ((y.toNat : Int) == 93) = false := beq_no (k := 93) (by rw [p5]; decide)
            clear p5
            go_wp2_with (go_at_call 63; refine BS1.out.mono ?_; rintro r' w' ⟨rfl, rfl⟩)
            go_roundg (a - j)
            case measure => have := HM.out; omega
            case rel => exact ⟨rfl, j + 1, by go_num, Or.inl ⟨by rw [← HL1.out, p6]; go_num, by have := HM.out; omega, by omega, by omega⟩⟩
          · have b91 : ((y.toNat : Int) == 91) = false := beq_no (k := 91) (by rw [p5]; decide)
            have b93 : ((y.toNat : Int) == 93) = true := beq_yes (k := 93) p5
            clear p5
            go_wp2_with (go_at_call 63; refine BS1.out.mono ?_; rintro r' w' ⟨rfl, rfl⟩)
            go_roundg (a - j)
            case measure => have := HM.out; omega
            case rel => exact ⟨rfl, j + 1, by go_num, Or.inl ⟨by rw [← HL1.out]; go_num, by have := HM.out; omega, by omega, by omega⟩⟩
          · have b91 : ((y.toNat : Int) == 91) = false := beq_no (k := 91) p5
            have b93 : ((y.toNat : Int) == 93) = false := beq_no (k := 93) p6
            clear p5 p6
            go_wp2_with (go_at_call 63; refine BS1.out.mono ?_; rintro r' w' ⟨rfl, rfl⟩)
            go_roundg (a - j)
            case measure => have := HM.out; omega
            case rel => exact ⟨rfl, j + 1, by go_num, Or.inl ⟨by rw [← HL1.out, p7], by have := HM.out; omega, by omega, by omega⟩⟩
        · obtain rfl : j = a := by omega
          rw [HB.out.ata]
          rw [HB.out.close] at hy
          have b10 : ((y.toNat : Int) == 10) = false := beq_no (k := 10) (by rw [hy]; decide)
          have b91 : ((y.toNat : Int) == 91) = false := beq_no (k := 91) (by rw [hy]; decide)
          have b93 : ((y.toNat : Int) == 93) = true := beq_yes (k := 93) hy
          clear hy
          go_wp2_with (go_at_call 63; refine BS1.out.mono ?_; rintro r' w' ⟨rfl, rfl⟩)
          go_roundg 0
          case measure => have := HM.out; omega
          case rel => exact ⟨rfl, j, by go_num, Or.inr ⟨rfl, by go_num, rfl⟩⟩
      · clear BS
        go_wp2
        have c40 : wc.cell? ⟨x.g, x.off + e + (j + 1), none⟩ = some (.int .u8 40) := by
          have := HC.out (j + 1) (by omega)
          rw [← Nat.add_assoc e j 1, HB.out.paren] at this
          exact this
        go_loopg [9] 1 (fun m v9 wr => v9 = .int .i64 ((j + 1 : Nat) : Int) ∧ wc = wr)
        case atStart => exact ⟨by go_num, rfl⟩
        case round =>
          obtain ⟨rfl, rfl⟩ := hrel
          go_wp2_with (go_at_call 59; refine (SP40.out _).mono ?_; rintro r' w' ⟨rfl, rfl⟩)
          go_step3
          go_wp2
          go_loopg [9] (bl + 1) (fun m v9 wr => wc = wr ∧ ∃ i : Nat, v9 = .int .i64 ((j + 2 + i : Nat) : Int) ∧ m + i = bl + 1 ∧ i ≤ bl)
          case atStart => exact ⟨rfl, 0, by go_num, by omega, by omega⟩
          case round =>
            obtain ⟨rfl, i, rfl, hm, hi⟩ := hrel
            have HM := Lib.hid hm
            clear hm
            obtain ⟨y, hy⟩ : ∃ y, y = x.D.getD (e + (j + 2 + i)) 0 := ⟨_, rfl⟩
            have c2 := HC.out (j + 2 + i) (by omega)
            rw [← hy] at c2
            by_cases hib : i < bl
            · have hsy := HBL.out i hib
              rw [← hy] at hsy
              have CS := Lib.hid (fun w => sp59 y w)
              rw [hsy] at CS
              clear hy hsy
              go_wp2_with (go_at_call 59; refine (CS.out _).mono ?_; rintro r' w' ⟨rfl, rfl⟩)
              go_roundg (bl - i)
              case measure => have := HM.out; omega
              case rel => exact ⟨rfl, i + 1, by go_num, by have := HM.out; omega, by omega⟩
            · obtain rfl : i = bl := by omega
              rw [← HBB.out] at hy c2 ⊢
              have hsy := HB1.out.1
              rw [← hy] at hsy
              have b60 : ((y.toNat : Int) == 60) = false := beq_no (k := 60) (by rw [hy]; exact HB1.out.2)
              have CS := Lib.hid (fun w => sp59 y w)
              rw [hsy] at CS
              clear hy hsy HM
              go_wp2_with (go_at_call 59; refine (CS.out _).mono ?_; rintro r' w' ⟨rfl, rfl⟩)
              go_step3
              go_wp2
              go_loopg [9] (q - b + 1) (fun m v9 wr => wc = wr ∧ ∃ i : Nat, v9 = .int .i64 ((b + i : Nat) : Int) ∧ m + i = q - b + 1 ∧ i ≤ q - b)
              case atStart => exact ⟨rfl, 0, by go_num, by omega, by omega⟩
              case round =>
                obtain ⟨rfl, i, rfl, hm, hiq⟩ := hrel
                have HM := Lib.hid hm
                clear hm
                obtain ⟨z, hz⟩ : ∃ z, z = x.D.getD (e + (b + i)) 0 := ⟨_, rfl⟩
                have c3 := HC.out (b + i) (by omega)
                rw [← hz] at c3
                by_cases hib : i < q - b
                · obtain ⟨p1, p2, p3, p4⟩ := HQ.out i hib
                  rw [← hz] at p1 p2 p3 p4
                  have b1 : ((z.toNat : Int) == 92) = false := beq_no (k := 92) p1
                  have b2 : ((z.toNat : Int) == 41) = false := beq_no (k := 41) p2
                  have b3 : ((z.toNat : Int) == 39) = false := beq_no (k := 39) p3
                  have b4 : ((z.toNat : Int) == 34) = false := beq_no (k := 34) p4
                  clear hz p1 p2 p3 p4
                  go_wp2
                  go_roundg (q - b - i)
                  case measure => have := HM.out; omega
                  case rel => exact ⟨rfl, i + 1, by go_num, by have := HM.out; omega, by omega⟩
                · have hiq2 : b + i = q := by omega
                  rw [hiq2] at hz c3 ⊢
                  rw [HQ1.out] at hz
                  subst hz
                  clear hiq hib hiq2 HM
                  have hd1 : decide (q < n - e) = true := decide_eq_true (by omega)
                  have hd2 : decide (n ≤ q + e) = false := decide_eq_false (by omega)
                  have hd3 : decide (r < n - e) = true := decide_eq_true (by omega)
                  have hd4 : decide (n ≤ r + e) = false := decide_eq_false (by omega)
                  have c5 := HC.out (r - 1) (by omega)
                  rw [HR2.out] at c5
                  have er1 : (r : Int) - 1 = ((r - 1 : Nat) : Int) := by omega
                  have sp2 := fun w => sp59 34 w
                  rw [show isSp 34 = false from by decide] at sp2
                  have SP2 := Lib.hid sp2
                  clear sp2
                  go_wp2
                  go_step3
                  go_wp2
                  go_step3
                  go_wp2
                  go_loopg [9] (r - (q + 1) + 1) (fun m v9 wr => wc = wr ∧ ∃ i : Nat, v9 = .int .i64 ((q + 1 + i : Nat) : Int) ∧ m + i = r - (q + 1) + 1 ∧ i ≤ r - (q + 1))
                  case atStart => exact ⟨rfl, 0, by go_num, by omega, by omega⟩
                  case round =>
                    obtain ⟨rfl, i, rfl, hm, hir⟩ := hrel
                    have HM := Lib.hid hm
                    clear hm
                    obtain ⟨y2, hy2⟩ : ∃ z, z = x.D.getD (e + (q + 1 + i)) 0 := ⟨_, rfl⟩
                    have c6 := HC.out (q + 1 + i) (by omega)
                    rw [← hy2] at c6
                    by_cases hib : i < r - (q + 1)
                    · obtain ⟨p1, p2⟩ := HR.out i hib
                      rw [← hy2] at p1 p2
                      have b3 : ((y2.toNat : Int) == 92) = false := beq_no (k := 92) p1
                      have b4 : ((y2.toNat : Int) == 41) = false := beq_no (k := 41) p2
                      clear hy2 p1 p2
                      go_wp2
                      go_roundg (r - (q + 1) - i)
                      case measure => have := HM.out; omega
                      case rel => exact ⟨rfl, i + 1, by go_num, by have := HM.out; omega, by omega⟩
                    · have hir2 : q + 1 + i = r := by omega
                      rw [hir2] at hy2 c6 ⊢
                      rw [HR1.out] at hy2
                      subst hy2
                      clear hir hib hir2 HM
                      go_wp2
                      go_loopg [21] 1 (fun m v21 wr => v21 = .int .i64 ((r - 1 : Nat) : Int) ∧ wc = wr)
                      case atStart => exact ⟨by go_num, rfl⟩
                      case round =>
                          obtain ⟨rfl, rfl⟩ := hrel
                          go_wp2_with (go_at_call 59; refine (SP2.out _).mono ?_; rintro r' w' ⟨rfl, rfl⟩)
                          rw [Exit.noGoto_normal]
                          go_wp2
                          go_loopg [19] (sp + 1) (fun m v19 wr => wc = wr ∧ ∃ i : Nat, v19 = .int .i64 ((q - i : Nat) : Int) ∧ m + i = sp + 1 ∧ i ≤ sp)
                          case atStart => exact ⟨rfl, 0, by go_num, by omega, by omega⟩
                          case round =>
                            obtain ⟨rfl, i, rfl, hm, his⟩ := hrel
                            have HM := Lib.hid hm
                            clear hm
                            obtain ⟨u, hu⟩ : ∃ u, u = x.D.getD (e + (q - 1 - i)) 0 := ⟨_, rfl⟩
                            have c4 := HC.out (q - 1 - i) (by omega)
                            rw [← hu] at c4
                            have ez : ((q - i : Nat) : Int) - 1 = ((q - 1 - i : Nat) : Int) := by omega
                            have CS := Lib.hid (fun w => sp59 u w)
                            by_cases hib : i < sp
                            · have hsy := HSP.out i hib
                              rw [← hu] at hsy
                              rw [hsy] at CS
                              clear hu hsy
                              go_wp2_with (go_at_call 59; refine (CS.out _).mono ?_; rintro r' w' ⟨rfl, rfl⟩)
                              go_roundg (sp - i)
                              case measure => have := HM.out; omega
                              case rel => exact ⟨rfl, i + 1, by congr 2; omega, by have := HM.out; omega, by omega⟩
                            · obtain rfl : i = sp := by omega
                              have hsy := HSP1.out.1
                              rw [← hu] at hsy
                              rw [hsy] at CS
                              have b62 : ((u.toNat : Int) == 62) = false := beq_no (k := 62) (by rw [hu]; exact HSP1.out.2)
                              clear hu hsy HM
                              go_wp2_with (go_at_call 59; refine (CS.out _).mono ?_; rintro r' w' ⟨rfl, rfl⟩)
                              have bl0 : ((ll : Int) == 0) = false := beq_eq_false_iff_ne.2 (by omega)
                              clear c0 c40 c2 c3 c4 c5 c6 b60 b62 hd1 hd2 hd3 hd4 ez er1 hb2 hb3
                              rw [Exit.noGoto_normal]
                              go_wp2_with (first
                                | (go_at_call 70; refine C70.out.mono ?_; rintro r' w2 ⟨rfl, hb2, hbel2⟩; have hbb2 : Below wc.heap.size wc w2 := (by rw [← HW1.out] at hbel2; exact HBW.out.trans hbel2); have HB2 := Lib.hid hb2; have HBEL2 := Lib.hid hbb2; clear hb2 hbel2 hbb2)
                                | (go_at_call 66; refine (C66.out _ HB2.out).mono ?_; rintro r' w4 ⟨g4, c4, rfl, hg1, hg2, hc1, hc2, hr4, hv4, hbel4⟩; have HC1 := Lib.hid hc1; have HV4 := Lib.hid hv4; have HBEL4 := Lib.hid (HBEL2.out.trans (hbel4.mono HBEL2.out.size)); clear hg1 hg2 hc1 hc2 hr4 hv4 hbel4)
                                | (go_at_call 39; refine (CN.out _).mono ?_; rintro r' w5 ⟨rfl, hn5, hbel5, -⟩; have hbb5 := HBEL4.out.trans (hbel5.mono HBEL4.out.size); have hc21 := hn5.cell 21; have hf21 := hn5.free 21; have hc22 := hn5.cell 22; have hf22 := hn5.free 22; have HN5 := Lib.hid hn5; have HBEL5 := Lib.hid hbel5; have HBB5 := Lib.hid hbb5; obtain ⟨hm1, hm2⟩ := MC.out _ hbb5; clear hn5 hbel5 hbb5; obtain ⟨u, hu⟩ : ∃ u, w5.cell? ⟨w4.heap.size, 21, none⟩ = some u := ⟨_, hc21⟩; obtain ⟨u', hu'⟩ : ∃ u, w5.cell? ⟨w4.heap.size, 22, none⟩ = some u := ⟨_, hc22⟩; clear hc21 hc22)
                                | (go_at_call 71; refine (CV.out _ _).mono ?_; rintro r' w' ⟨rfl, rfl⟩)
                                | (go_at_call 40; refine (CI.out (some L) (some T) (.slice (some ⟨g4, 0, none⟩) ll c4) (.slice (some ⟨x.g, x.off + e + (q + 1), none⟩) (r - 1 - (q + 1)) (x.cap - e - (q + 1))) _ w4.heap.size HBEL4.out.size ((HBB5.out.setCell (p := ⟨w4.heap.size, 21, none⟩) HBEL4.out.size _).setCell (p := ⟨w4.heap.size, 22, none⟩) HBEL4.out.size _) ((HN5.out.set 21 _).set 22 _) (((HV4.out.below HBEL5.out).keep (keep5_set HN5.out 21 _)).keep (keep5_set (HN5.out.set 21 _) 22 _)) (((TV.out _ HBB5.out).keep (keep5_set HN5.out 21 _)).keep (keep5_set (HN5.out.set 21 _) 22 _))).mono ?_; rintro r' w6 ⟨rfl, hc6, hf6, hbel6, hm6⟩; have HBEL6 := Lib.hid hbel6; have HM6 := Lib.hid hm6; clear hbel6 hm6))
                              go_ret2
                              exact ⟨HBEL6.out, _, tup2 (by omega), HM6.out⟩
end Go.Proofs.YtalajbfpilhfgaaGreatDoor
