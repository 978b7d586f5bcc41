/- escapeEntities. -/
import Derived.Test.YtkogokjlpgnmlaaG7
import Derived.StillTailTactics
set_option linter.unusedVariables false
set_option linter.unusedSimpArgs false
namespace Go.Proofs.Ytkogokjlpgnmlaa
open Go.RowKit

theorem nil_ahead (a : Addr) (w : World) : (nilAhead 196 45 (.pointer (some a)) "Write").run Try.prog w = .ok (some false) w := by kernel_rfl
theorem method_write (a : Addr) (w : World) : (method 196 45 (.pointer (some a)) "Write").run Try.prog w = .ok (81, .pointer (some a)) w := by kernel_rfl
theorem bufIn_drew {w0 w : World} {b : Nat} {B : Bs} (h : BufIn w0 b B w) : BufIn w0 b B w.drew := by
  obtain ⟨v, h1, h2, h3⟩ := h
  exact ⟨v, h1, ⟨h2.os, h2.tape, h2.output, h2.size, h2.block⟩, h3⟩

set_option maxRecDepth 100000 in
set_option maxHeartbeats 6000000 in
theorem escE_any (keep : Bool) (b g n c : Nat) (l : Bs) (w : World) (hn : l.length = n) (hnc : n ≤ c) (hc : c ≤ 9223372036854775807) (hR : Rd w g l) (hgb : g ≠ b) (hb : BufIn w b [] w) (hL : (esc keep l 0).length ≤ 140737488355328) :
    Calls Try.prog 43 #[.iface 45 (.pointer (some ⟨b, 0, none⟩)), .slice (some ⟨g, 0, none⟩) n c, .bool (!keep)] w fun e w' => e = .returned (.tuple #[]) ∧ BufIn w b (esc keep l 0) w' := by
  have qN : ∀ (w : World) (a : Option Addr) (n c n' c' : Nat), (binOp .neq 29 (.slice a n c) (.slice none n' c')).run Try.prog w = .ok (.bool (!a.isNone)) w := fun w a n c n' c' => run_neq_slice_nil_any w _ _ a n c n' c' Try.underlying29
  have hnil := fun w => nil_ahead ⟨b, 0, none⟩ w
  have hmth := fun w => method_write ⟨b, 0, none⟩ w
  obtain ⟨whole, hwh⟩ : ∃ x, x = esc keep l 0 := ⟨_, rfl⟩
  rw [← hwh]
  have HWH := Lib.hid hwh
  have HB := Lib.hid hb
  have HN := Lib.hid hn
  have HR := Lib.hid hR
  have HL := Lib.hid hL
  clear hb hn hR hL hwh
  go_enter Try.func43, Try.ntmps43
  go_wp2
  go_loopg [6, 7] n (fun q i j wr => ∃ st e B, i = .int .i64 (st : Nat) ∧ j = .int .i64 (e : Nat) ∧ q + e = n ∧ e ≤ n ∧ st ≤ n ∧ Hid (EscInv keep l B st e) ∧ Hid (BufIn w b B wr))
  case atStart => exact ⟨0, 0, [], rfl, rfl, by omega, Nat.zero_le _, Nat.zero_le _, inv_start keep l, HB.out⟩
  case round =>
    obtain ⟨st, e, B, rfl, rfl, hq, hen, hstn, HI, HBI⟩ := hrel
    have HQ := Lib.hid hq
    clear hq
    by_cases hlt : e < n
    · have hlt' : e < l.length := by rw [HN.out]; exact hlt
      have hck0 : w.cell? ⟨g, e, none⟩ = some (.int .u8 (l.getD e 0).toNat) := HR.out e hlt'
      obtain ⟨ch, hch⟩ : ∃ ch, ch = l.getD e 0 := ⟨_, rfl⟩
      rw [← hch] at hck0
      have hck : wr.cell? ⟨g, e, none⟩ = some (.int .u8 ch.toNat) := HBI.out.choose_spec.2.1.cell hck0 (by simpa using hgb)
      have HLT := Lib.hid hlt'
      have HCH := Lib.hid hch
      clear hlt' hck0 hch
      cases hE : isE ch with
      | false =>
        have HI2 : Hid (EscInv keep l B st (e + 1)) := inv_plain HI.out HLT.out (by rw [← HCH.out]; exact hE)
        have CE := Lib.hid (fun w => esc_nil ch w hE)
        clear hE
        go_wp2_with (go_at_call 50; refine (CE.out _).mono ?_; rintro e w' ⟨rfl, rfl⟩)
        go_roundg (gk - 1)
        case measure => have := HQ.out; omega
        case rel => exact ⟨st, e + 1, B, rfl, by go_num, by have := HQ.out; omega, by omega, hstn, HI2, HBI⟩
      | true =>
        have hbl : b < wr.heap.size := bufAt_lt HBI.out.choose_spec.1
        have hle : st ≤ e := inv_le HI.out HLT.out (by rw [← HCH.out]; exact hE)
        have CE := Lib.hid (esc_some ch wr hE)
        obtain ⟨o, ho⟩ : ∃ o, o = escOf ch := ⟨_, rfl⟩
        rw [← ho] at CE
        have HO := Lib.hid ho
        clear ho
        have hrd1 : ∀ w1, Below wr.heap.size wr w1 → Rd w1 g l := fun w1 h1 i hi => (bufIn_below HBI.out h1).choose_spec.2.1.cell (HR.out i hi) (by simpa using hgb)
        have cn : ∀ w1, Below wr.heap.size wr w1 → Calls Try.prog 51 #[.slice (some ⟨g, 0, none⟩) n c, .int .i64 e] w1 (NodePost w1 (nodeT l e)) := fun w1 h1 => node_any g n c e l w1 HN.out hnc hc hlt (hrd1 w1 h1)
        have hesc : (keep = false ∨ nodeT l e = none) → Hid (EscInv keep l (B ++ (l.drop st).take (e - st) ++ o) (e + 1) (e + 1)) := fun h => by
          have := inv_esc HI.out HLT.out (by rw [← HCH.out]; exact hE) h
          rw [← HCH.out, ← HO.out] at this
          exact this
        have hent : ∀ k, keep = true → nodeT l e = some k → Hid (EscInv keep l (B ++ (l.drop st).take (k + 1 - st)) (k + 1) (e + 1)) ∧ e < k ∧ k < n := fun k h1 h2 => by
          obtain ⟨q1, q2, _⟩ := nodeT_some h2
          exact ⟨inv_ent HI.out HLT.out (by rw [← HCH.out]; exact hE) h1 h2, q1, by have := q2 HLT.out; rw [HN.out] at this; exact this⟩
        have cw1 : ∀ w1 m, Below wr.heap.size wr w1 → st + m ≤ n → B.length + m ≤ 140737488355328 → Calls Try.prog 81 #[.pointer (some ⟨b, 0, none⟩), .slice (some ⟨g, st, none⟩) m (c - st)] w1.drew fun e w' => e = .returned (.tuple #[.int .i64 m, .nilIface]) ∧ BufIn w b (B ++ (l.drop st).take m) w' ∧ ∀ gn o, Rd w1.drew gn o → gn < w1.drew.heap.size → gn ≠ b → Apart w1.drew b gn B → Rd w' gn o := fun w1 m h1 h2 h3 => write_in w w1.drew b g st m (c - st) l B (bufIn_drew (bufIn_below HBI.out h1)) HR.out hgb (by rw [HN.out]; exact h2) h3
        have hap : ∀ w1 gn, Below wr.heap.size wr w1 → wr.heap.size ≤ gn → Apart w1.drew b gn B := fun w1 gn h1 h2 => apart_new HBI.out (show Below wr.heap.size wr w1.drew from ⟨h1.os, h1.tape, h1.output, h1.size, h1.block⟩) h2
        have CN := Lib.hid cn
        have HESC := Lib.hid hesc
        have HENT := Lib.hid hent
        have CW1 := Lib.hid cw1
        have HAP := Lib.hid hap
        clear cn hesc hent cw1 hap hrd1 hE
        have hA3 : ¬ c = st := by omega
        obtain ⟨r, hr⟩ : ∃ r, r = nodeT l e := ⟨_, rfl⟩
        rw [← hr] at CN HESC HENT
        clear hr
        by_cases hke : keep = true ∧ r.isSome = true
        · obtain ⟨hk1, hk2⟩ := hke
          obtain ⟨k, rfl⟩ := Option.isSome_iff_exists.1 hk2
          obtain ⟨HI2, hek, hkn⟩ := HENT.out k hk1 rfl
          have hlen : B.length + (k + 1 - st) ≤ 140737488355328 := by
            have h1 := inv_len HI2.out
            have h2 := HL.out
            rw [List.length_append, List.length_take, List.length_drop, HN.out] at h1
            omega
          have cw : ∀ w1, Below wr.heap.size wr w1 → Calls Try.prog 81 #[.pointer (some ⟨b, 0, none⟩), .slice (some ⟨g, st, none⟩) (k + 1 - st) (c - st)] w1.drew fun e w' => e = .returned (.tuple #[.int .i64 ((k + 1 - st : Nat) : Int), .nilIface]) ∧ BufIn w b (B ++ (l.drop st).take (k + 1 - st)) w' := fun w1 h1 => (CW1.out w1 (k + 1 - st) h1 (by omega) hlen).mono (fun e w' h => ⟨h.1, h.2.1⟩)
          have CW := Lib.hid cw
          clear cw hlen
          subst hk1
          go_wp2_with (first
            | (go_at_call 50; refine CE.out.mono ?_; rintro e' w1 ⟨gn, capn, rfl, hs, hbel, hgn⟩; have HS := Lib.hid hs; have HBEL := Lib.hid hbel; have HGN := Lib.hid hgn; clear hs hbel hgn)
            | (go_at_call 51; refine (CN.out _ HBEL.out).mono ?_; rintro e' w2 ⟨pos, rfl, hpos, rfl⟩; obtain rfl := hpos k rfl))
          have hA1 : (st : Int) ≤ (k : Int) + 1 := by omega
          have hA2 : (k : Int) + 1 ≤ (c : Int) := by omega
          have hA5 : 0 ≤ (k : Int) + 1 := by omega
          have hA7 : ((k : Int) + 1).toNat = k + 1 := by omega
          have hA8 : IntKind.i64.wrap ((k : Int) + 1) = (k : Int) + 1 := IntWalk.i64_in _ (by omega)
          have hA9 : wrap64 ((k : Int) + 1) = (k : Int) + 1 := by unfold wrap64; omega
          go_still_tail 9, (by kernel_rfl)
          clear hA1 hA2 hA5 hA7 hA8 hA9
          go_wp2_with (go_at_call 81; refine (CW.out _ HBEL.out).mono ?_; rintro e' w3 ⟨rfl, hb'⟩; have HB' := Lib.hid hb'; clear hb')
          go_roundg (gk - 1)
          case measure => have := HQ.out; omega
          case rel => exact ⟨k + 1, e + 1, _, by go_num, by go_num, by have := HQ.out; omega, by omega, by omega, HI2, HB'⟩
        · have hkr : keep = false ∨ r = none := by
            rcases hkk : keep with _ | _
            · exact Or.inl rfl
            · rcases hrr : r with _ | k
              · exact Or.inr rfl
              · exact absurd ⟨hkk, by rw [hrr]; rfl⟩ hke
          have HI2 := HESC.out hkr
          have hlen : B.length + (e - st) + o.length ≤ 140737488355328 := by
            have h1 := inv_len HI2.out
            have h2 := HL.out
            rw [List.length_append, List.length_append, List.length_take, List.length_drop, HN.out] at h1
            omega
          have hll : (B ++ (l.drop st).take (e - st)).length ≤ B.length + (e - st) := by simp; omega
          have cw : ∀ w1 gn capn, Below wr.heap.size wr w1 → SlB w1 (.slice (some ⟨gn, 0, none⟩) o.length capn) o → wr.heap.size ≤ gn → Calls Try.prog 81 #[.pointer (some ⟨b, 0, none⟩), .slice (some ⟨g, st, none⟩) (e - st) (c - st)] w1.drew fun e' w' => e' = .returned (.tuple #[.int .i64 ((e - st : Nat) : Int), .nilIface]) ∧ BufIn w b (B ++ (l.drop st).take (e - st)) w' ∧ Rd w' gn o := fun w1 gn capn h1 h2 h3 => (CW1.out w1 (e - st) h1 (by omega) (by omega)).mono (fun e' w' h => ⟨h.1, h.2.1, h.2.2 gn o (rd_of_slB h2).1 (rd_of_slB h2).2.2.2.2 (by omega) (HAP.out w1 gn h1 h3)⟩)
          have cw2 : ∀ w3 gn capn, BufIn w b (B ++ (l.drop st).take (e - st)) w3 → Rd w3 gn o → wr.heap.size ≤ gn → Calls Try.prog 81 #[.pointer (some ⟨b, 0, none⟩), .slice (some ⟨gn, 0, none⟩) o.length capn] w3 fun e' w' => e' = .returned (.tuple #[.int .i64 (o.length : Int), .nilIface]) ∧ BufIn w b (B ++ (l.drop st).take (e - st) ++ o) w' := fun w3 gn capn h1 h2 h3 => write_new w w3 b gn o.length capn o _ h1 h2 (by omega) rfl (by omega)
          have CW := Lib.hid cw
          have CW2 := Lib.hid cw2
          clear cw cw2 hlen hll hkr HESC HENT CW1 HAP
          have hA1 : (st : Int) ≤ (e : Int) := by omega
          have hA2 : (e : Int) ≤ (c : Int) := by omega
          have tok : True := trivial
          cases r with
          | none =>
            go_wp2_with (first
              | (go_at_call 50; refine CE.out.mono ?_; rintro e' w1 ⟨gn, capn, rfl, hs, hbel, hgn⟩; have HS := Lib.hid hs; have HBEL := Lib.hid hbel; have HGN := Lib.hid hgn; clear hs hbel hgn)
              | (go_at_call 51; refine (CN.out _ HBEL.out).mono ?_; rintro e' w2 ⟨pos, rfl, -, rfl⟩))
            go_still_tail 8, (by kernel_rfl)
            clear hA1 hA2
            go_wp2_with (first
              | (clear tok; go_at_call 81; refine (CW.out _ _ _ HBEL.out HS.out HGN.out).mono ?_; rintro e' w3 ⟨rfl, hb', hr'⟩; have HB' := Lib.hid hb'; have HR' := Lib.hid hr'; clear hb' hr')
              | (go_at_call 81; refine (CW2.out _ _ _ HB'.out HR'.out HGN.out).mono ?_; rintro e' w4 ⟨rfl, hb'⟩; have HB4 := Lib.hid hb'; clear hb'))
            go_roundg (gk - 1)
            case measure => have := HQ.out; omega
            case rel => exact ⟨e + 1, e + 1, _, by go_num, by go_num, by have := HQ.out; omega, by omega, by omega, HI2, HB4⟩
          | some k =>
            cases keep with
            | true => exact absurd ⟨rfl, rfl⟩ hke
            | false =>
              go_wp2_with (first
                | (go_at_call 50; refine CE.out.mono ?_; rintro e' w1 ⟨gn, capn, rfl, hs, hbel, hgn⟩; have HS := Lib.hid hs; have HBEL := Lib.hid hbel; have HGN := Lib.hid hgn; clear hs hbel hgn)
                | (go_at_call 51; refine (CN.out _ HBEL.out).mono ?_; rintro e' w2 ⟨pos, rfl, -, rfl⟩))
              go_still_tail 8, (by kernel_rfl)
              clear hA1 hA2
              go_wp2_with (first
                | (clear tok; go_at_call 81; refine (CW.out _ _ _ HBEL.out HS.out HGN.out).mono ?_; rintro e' w3 ⟨rfl, hb', hr'⟩; have HB' := Lib.hid hb'; have HR' := Lib.hid hr'; clear hb' hr')
                | (go_at_call 81; refine (CW2.out _ _ _ HB'.out HR'.out HGN.out).mono ?_; rintro e' w4 ⟨rfl, hb'⟩; have HB4 := Lib.hid hb'; clear hb'))
              go_roundg (gk - 1)
              case measure => have := HQ.out; omega
              case rel => exact ⟨e + 1, e + 1, _, by go_num, by go_num, by have := HQ.out; omega, by omega, by omega, HI2, HB4⟩
    · have hEnd := inv_end HI.out (by rw [HN.out]; exact hlt)
      rw [HN.out] at hEnd
      obtain ⟨_, he, hw⟩ := hEnd
      have HBI' := HBI
      by_cases hst : st < n
      · have cw := write_in w wr.drew b g st (n - st) (c - st) l B (bufIn_drew HBI.out) HR.out hgb (by rw [HN.out]; omega) (by
          have h1 := HL.out
          rw [hw] at h1
          simp at h1
          rw [HN.out] at h1
          omega)
        rw [← hw, ← HWH.out] at cw
        have CW := Lib.hid cw
        clear cw hw
        subst he
        go_wp2_with fail
        have hA1 : (st : Int) ≤ (e : Int) := by omega
        have hA2 : (e : Int) ≤ (c : Int) := by omega
        have hA3 : ¬ c = st := by omega
        go_still_tail 8, (by kernel_rfl)
        clear hA1 hA2 hA3
        go_wp2_with (go_at_call 81; refine CW.out.mono ?_; rintro e w' ⟨rfl, hb', _⟩; have HB' := Lib.hid hb'; clear hb')
        go_end0
        exact ⟨rfl, HB'.out⟩
      · obtain rfl : st = n := by omega
        rw [Nat.sub_self, List.take_zero, List.append_nil] at hw
        have HW := Lib.hid hw
        clear hw
        go_wp2_with fail
        go_end0
        refine ⟨rfl, ?_⟩
        rw [HWH.out, HW.out]
        exact HBI.out
end Go.Proofs.Ytkogokjlpgnmlaa
