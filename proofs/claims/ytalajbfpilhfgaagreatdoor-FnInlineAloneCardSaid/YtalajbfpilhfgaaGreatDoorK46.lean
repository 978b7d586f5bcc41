/-
  FnInlineAlone: what a right piece means (16), what parts pieces means (18).
  FnInlineAlone: what parts pieces means (18).
  FnInlineAlone: pieces in memory; that they are small enough (4, 11), and few (5).
-/
import Derived.Test.YtalajbfpilhfgaaGreatDoorK37
import Derived.Test.YtalajbfpilhfgaaGreatDoorK38
import Derived.Test.YtalajbfpilhfgaaGreatDoorK39
import Derived.Test.YtalajbfpilhfgaaGreatDoorK40
import Derived.Test.YtalajbfpilhfgaaGreatDoorK41
set_option linter.unusedVariables false
set_option linter.unusedSimpArgs false
namespace Go.Proofs.YtalajbfpilhfgaaGreatDoor
open Go.RowKit

theorem me16 (p : Pc) (bg : Bool) (h : Right p bg) (e : Nat) (he : e ≤ 131070) (ha : p.a.length ≤ 1000000000000) (hb : p.b.length ≤ 1000000000000) (hc : p.c.length ≤ 1000000000000) (w : World) :
    Calls Tryz.prog 16 #[.agg p.vals.toArray, .int .i64 e] w fun r w' => MadeN w (me e p) r w' := by
  obtain ⟨kind, ch, var, sep, a, b, c⟩ := p
  show Calls Tryz.prog 16 #[.agg #[.int .i64 kind, .int .i64 ch, .int .i64 var, .int .i64 sep, strV a, strV b, strV c], .int .i64 e] w fun r w' => MadeN w (meK (e.testBit 5) (e.testBit 4) (oneC ch) (oddC ch) a b c kind.toNat var.toNat) r w'
  obtain ⟨h1, h2, h3, h4, h5, hK⟩ := h
  have hch : ch = 0 ∨ ch = 1 := by simp only at h1 h2; omega
  simp only at h3
  obtain ⟨v, hv⟩ : ∃ v : Nat, var = v := ⟨var.toNat, by omega⟩
  subst hv
  have hdl : e.testBit 5 = true ∨ e.testBit 5 = false := by cases e.testBit 5 <;> simp
  have hau : e.testBit 4 = true ∨ e.testBit 4 = false := by cases e.testBit 4 <;> simp
  rcases hK with ⟨hk, ra⟩ | ⟨hk, hv, ra, rb⟩ | ⟨hk, hv, ra, rb, rc⟩ | ⟨hk, hv, ra, rb⟩ | ⟨hk, ra, rb⟩ | ⟨hk, hv, ra, rb⟩ | ⟨hk, hv⟩ | ⟨hk, hv, -⟩ | ⟨hk, hv, -⟩ | ⟨hk, ra, rb, rc⟩ | ⟨hk, ra, rb, rc⟩ | ⟨hk, ra, rb, rc⟩
  · rcases hk with hk | hk | hk | hk | hk <;> (simp only at hk; subst hk)
    · exact me_0 ch sep _ e he a b c hch (ra.small) hb hc w
    · exact me_1 ch sep _ e he a b c hch (ra.small) hb hc w
    · exact me_2 ch sep _ e he a b c hch (ra.small) hb hc w
    · exact me_3 ch sep _ e he a b c hch (ra.small) hb hc w
    · rcases hdl with hd | hd
      · exact me_4t ch sep _ e he a b c hch (ra.small) hb hc hd w
      · exact me_4f ch sep _ e he a b c hch (ra.small) hb hc hd w
  · simp only at hk hv
    subst hk
    have : v = 0 ∨ v = 1 ∨ v = 2 ∨ v = 3 := by omega
    rcases this with rfl | rfl | rfl | rfl
    · exact me_5_0 ch sep e he a b c hch (ra.small) rb.small hc w
    · exact me_5_1 ch sep e he a b c hch (ra.small) rb.small hc w
    · exact me_5_2 ch sep e he a b c hch (ra.small) rb.small hc w
    · exact me_5_3 ch sep e he a b c hch (ra.small) rb.small hc w
  · have : v = 0 ∨ v = 1 ∨ v = 2 ∨ v = 3 ∨ v = 4 := by simp only at hv; omega
    rcases hk with hk | hk <;> (simp only at hk; subst hk)
    · rcases this with rfl | rfl | rfl | rfl | rfl
      · exact me_6_0 ch sep e he a b c hch (ra.small) rb.small rc.small w
      · exact me_6_1 ch sep e he a b c hch (ra.small) rb.small rc.small w
      · exact me_6_2 ch sep e he a b c hch (ra.small) rb.small rc.small w
      · exact me_6_3 ch sep e he a b c hch (ra.small) rb.small rc.small w
      · exact me_6_4 ch sep e he a b c hch (ra.small) rb.small rc.small w
    · rcases this with rfl | rfl | rfl | rfl | rfl
      · exact me_7_0 ch sep e he a b c hch (ra.small) rb.small rc.small w
      · exact me_7_1 ch sep e he a b c hch (ra.small) rb.small rc.small w
      · exact me_7_2 ch sep e he a b c hch (ra.small) rb.small rc.small w
      · exact me_7_3 ch sep e he a b c hch (ra.small) rb.small rc.small w
      · exact me_7_4 ch sep e he a b c hch (ra.small) rb.small rc.small w
  · simp only at hk hv
    subst hk
    have : v = 0 ∨ v = 1 ∨ v = 2 ∨ v = 3 ∨ v = 4 := by omega
    rcases this with rfl | rfl | rfl | rfl | rfl
    · exact me_8_0 ch sep e he a b c hch (ra.small) rb.small hc w
    · exact me_8_1 ch sep e he a b c hch (ra.small) rb.small hc w
    · exact me_8_2 ch sep e he a b c hch (ra.small) rb.small hc w
    · exact me_8_3 ch sep e he a b c hch (ra.small) rb.small hc w
    · exact me_8_4 ch sep e he a b c hch (ra.small) rb.small hc w
  · simp only at hk
    subst hk
    rcases hau with hd | hd
    · exact me_9t ch sep _ e he a b c hch (ra.small) rb.small hc hd w
    · exact me_9f ch sep _ e he a b c hch (ra.small) rb.small hc hd w
  · simp only at hk hv; subst hk; exact me_10 ch sep v e he a b c hch (by omega) (opt_small ra) (opt_small rb) hc w
  · simp only at hk hv; subst hk; exact me_11 ch sep v e he a b c hch (by omega) ha hb hc w
  · simp only at hk hv; subst hk; exact me_12 ch sep v e he a b c hch (by omega) ha hb hc w
  · simp only at hk hv; subst hk; exact me_13 ch sep v e he a b c hch (by omega) ha hb hc w
  · rcases hk with hk | hk | hk | hk <;> (simp only at hk; subst hk)
    · exact me_14 ch sep _ e he a b c hch (ra.small) rb.small rc.small w
    · exact me_15 ch sep _ e he a b c hch (ra.small) rb.small rc.small w
    · rcases hdl with hd | hd
      · exact me_18t ch sep _ e he a b c hch (ra.small) rb.small rc.small hd w
      · exact me_18f ch sep _ e he a b c hch (ra.small) rb.small rc.small hd w
    · rcases hdl with hd | hd
      · exact me_19t ch sep _ e he a b c hch (ra.small) rb.small rc.small hd w
      · exact me_19f ch sep _ e he a b c hch (ra.small) rb.small rc.small hd w
  · rcases hk with hk | hk <;> (simp only at hk; subst hk)
    · exact me_16 ch sep _ e he a b c hch (ra.small) rb.small rc.small w
    · exact me_17 ch sep _ e he a b c hch (ra.small) rb.small rc.small w
  · simp only at hk; subst hk; exact me_20 ch sep _ e he a b c hch (ra.small) rb.small rc.small w

theorem sep18 (s : Nat) (hs : s < 4) (e : Nat) (he : e ≤ 131070) (w : World) : Calls Tryz.prog 18 #[.int .i64 s, .int .i64 e] w fun r w' => MadeN w (sepM e s) r w' := by
  have H8 : Hid (∀ w, Calls Tryz.prog 14 #[.int .i64 e, .int .i64 256] w fun r w' => r = .returned (.bool (e.testBit 8)) ∧ w = w') := Lib.hid (fun w => has14 e 8 256 rfl (by decide) (by decide) (by omega) w)
  have H15 : Hid (∀ w, Calls Tryz.prog 14 #[.int .i64 e, .int .i64 32768] w fun r w' => r = .returned (.bool (e.testBit 15)) ∧ w = w') := Lib.hid (fun w => has14 e 15 32768 rfl (by decide) (by decide) (by omega) w)
  have H17 := Lib.hid (fun w => sep17 s hs w)
  obtain ⟨L, hL⟩ : ∃ L, L = sepM e s := ⟨_, rfl⟩
  rw [← hL]
  have HL : Hid (L = if s = 2 ∨ (s = 1 ∧ e.testBit 8 = true) ∨ (s = 3 ∧ e.testBit 15 = true) then [inO 0 16] else [inT 0 (sepW s)]) := Lib.hid hL
  clear hL
  generalize e.testBit 8 = b8 at *
  generalize e.testBit 15 = b15 at *
  generalize sepW s = S at *
  have HBD := Lib.hid (Below.refl w.heap.size w)
  have key : ∀ w1 : World, Below w.heap.size w w1 → ∀ (n : InN) (cs : Array Value), cs = n.vals.toArray → L = [n] → MadeN w L (.returned (.slice (some ⟨w1.heap.size, 0, none⟩) 1 1)) (w1.alloc (.cells cs 52)) := fun w1 hb n cs hc hl => by
    rw [hl]
    exact madeN hb (by rw [hc]; simp [cellsN]) rfl
  have HKEY := Lib.hid key
  clear key
  have hs' : s = 0 ∨ s = 1 ∨ s = 2 ∨ s = 3 := by omega
  rcases hs' with rfl | rfl | rfl | rfl
  · cases b8 <;> cases b15 <;> (
    go_enter Tryz.func18, Tryz.ntmps18
    go_wp2_with (first
      | (go_at_call 34; refine (of34 _ _ _).mono ?_; rintro r w1 ⟨rfl, hb1⟩; have HB1 := Lib.hid hb1; clear hb1)
      | (go_at_call 35; refine (text35 _ _ _).mono ?_; rintro r w1 ⟨rfl, hb1⟩; have HB1 := Lib.hid hb1; clear hb1)
      | (go_at_call 17; refine (H17.out _).mono ?_; rintro r w1 ⟨rfl, rfl⟩)
      | (go_at_call 14; refine (H8.out _).mono ?_; rintro r w1 ⟨rfl, rfl⟩))
    go_ret
    refine HKEY.out _ HB1.out _ _ ?_ (HL.out.trans (by simp; rfl))
    rfl)
  · cases b8 <;> cases b15 <;> (
    go_enter Tryz.func18, Tryz.ntmps18
    go_wp2_with (first
      | (go_at_call 34; refine (of34 _ _ _).mono ?_; rintro r w1 ⟨rfl, hb1⟩; have HB1 := Lib.hid hb1; clear hb1)
      | (go_at_call 35; refine (text35 _ _ _).mono ?_; rintro r w1 ⟨rfl, hb1⟩; have HB1 := Lib.hid hb1; clear hb1)
      | (go_at_call 17; refine (H17.out _).mono ?_; rintro r w1 ⟨rfl, rfl⟩)
      | (go_at_call 14; refine (H8.out _).mono ?_; rintro r w1 ⟨rfl, rfl⟩))
    go_ret
    refine HKEY.out _ HB1.out _ _ ?_ (HL.out.trans (by simp; rfl))
    rfl)
  · cases b8 <;> cases b15 <;> (
    go_enter Tryz.func18, Tryz.ntmps18
    go_wp2_with (first
      | (go_at_call 34; refine (of34 _ _ _).mono ?_; rintro r w1 ⟨rfl, hb1⟩; have HB1 := Lib.hid hb1; clear hb1)
      | (go_at_call 35; refine (text35 _ _ _).mono ?_; rintro r w1 ⟨rfl, hb1⟩; have HB1 := Lib.hid hb1; clear hb1)
      | (go_at_call 17; refine (H17.out _).mono ?_; rintro r w1 ⟨rfl, rfl⟩)
      | (go_at_call 14; refine (H8.out _).mono ?_; rintro r w1 ⟨rfl, rfl⟩))
    go_ret
    refine HKEY.out _ HB1.out _ _ ?_ (HL.out.trans (by simp; rfl))
    rfl)
  · cases b8 <;> cases b15 <;> (
    go_enter Tryz.func18, Tryz.ntmps18
    go_wp2_with (first
      | (go_at_call 34; refine (of34 _ _ _).mono ?_; rintro r w1 ⟨rfl, hb1⟩; have HB1 := Lib.hid hb1; clear hb1)
      | (go_at_call 35; refine (text35 _ _ _).mono ?_; rintro r w1 ⟨rfl, hb1⟩; have HB1 := Lib.hid hb1; clear hb1)
      | (go_at_call 17; refine (H17.out _).mono ?_; rintro r w1 ⟨rfl, rfl⟩)
      | (go_at_call 14; refine (H15.out _).mono ?_; rintro r w1 ⟨rfl, rfl⟩))
    go_ret
    refine HKEY.out _ HB1.out _ _ ?_ (HL.out.trans (by simp; rfl))
    rfl)

def RdP (w : World) (A : Option Addr) (n c : Nat) (l : List Pc) : Prop :=
  n = l.length ∧ n ≤ c ∧ c ≤ maxLen ∧ (0 < n → ∃ g o, A = some ⟨g, o, none⟩ ∧ ∀ i p, l[i]? = some p → ∀ j, j < 7 → w.cell? ⟨g, o + i * 7 + j, none⟩ = p.vals[j]?)
theorem RdP.below {w w' : World} {A : Option Addr} {n c : Nat} {l : List Pc} (h : RdP w A n c l) (hb : Below w.heap.size w w') : RdP w' A n c l := by
  obtain ⟨h1, h2, h3, h4⟩ := h
  refine ⟨h1, h2, h3, fun hn => ?_⟩
  obtain ⟨g, o, hA, hc⟩ := h4 hn
  refine ⟨g, o, hA, fun i p hp j hj => ?_⟩
  have := hc i p hp j hj
  have hlt : g < w.heap.size := by
    have hj7 : j < p.vals.length := by simpa [Pc.vals] using hj
    rw [List.getElem?_eq_getElem hj7] at this
    exact World.block_lt_of_cell? w _ this
  rw [← this]
  exact hb.cell (p := ⟨g, o + i * 7 + j, none⟩) hlt
theorem fits11 (A B C : ByteArray) (i1 i2 i3 i4 : Int) (w : World) : Calls Tryz.prog 11 #[.agg #[.int .i64 i1, .int .i64 i2, .int .i64 i3, .int .i64 i4, .string A, .string B, .string C]] w fun r w' => SaysB (A.size ≤ 2147483647 ∧ B.size ≤ 2147483647 ∧ C.size ≤ 2147483647) r ∧ Below w.heap.size w w' := by
  obtain ⟨PP, hPP⟩ : ∃ PP : Prop, PP = (A.size ≤ 2147483647 ∧ B.size ≤ 2147483647 ∧ C.size ≤ 2147483647) := ⟨_, rfl⟩
  have HP : Hid (A.size ≤ 2147483647 → B.size ≤ 2147483647 → C.size ≤ 2147483647 → PP) := Lib.hid (fun h1 h2 h3 => hPP ▸ ⟨h1, h2, h3⟩)
  have HBD := Lib.hid (fun o => ((Below.refl w.heap.size w).alloc (Nat.le_refl _) o))
  rw [← hPP]
  clear hPP
  go_enter Tryz.func11, Tryz.ntmps11
  go_wp2
  all_goals (
    go_ret
    first
    | exact ⟨SaysB.no, HBD.out _⟩
    | exact ⟨⟨_, rfl, fun _ => HP.out (by omega) (by omega) (by omega)⟩, HBD.out _⟩)
def FitP (l : List Pc) : Prop := ∀ p ∈ l, p.a.length ≤ 2147483647 ∧ p.b.length ≤ 2147483647 ∧ p.c.length ≤ 2147483647
theorem fits11p (p : Pc) (w : World) : Calls Tryz.prog 11 #[.agg #[.int .i64 p.kind, .int .i64 p.ch, .int .i64 p.var, .int .i64 p.sep, strV p.a, strV p.b, strV p.c]] w fun r w' => SaysB (p.a.length ≤ 2147483647 ∧ p.b.length ≤ 2147483647 ∧ p.c.length ≤ 2147483647) r ∧ Below w.heap.size w w' := by
  refine (fits11 _ _ _ _ _ _ _ w).mono ?_
  rintro r w' ⟨h1, h2⟩
  exact ⟨h1, h2⟩
set_option maxRecDepth 100000 in
set_option maxHeartbeats 4000000 in
theorem fits4 (A : Option Addr) (n c : Nat) (l : List Pc) (w : World) (h : RdP w A n c l) : Calls Tryz.prog 4 #[.slice A n c] w fun r w' => SaysB (FitP l) r ∧ Below w.heap.size w w' := by
  obtain ⟨hn, hc1, hc2, h1⟩ := h
  have HN := Lib.hid hn
  have H1 := Lib.hid h1
  have HBD := Lib.hid (Below.refl w.heap.size w)
  have F11 := Lib.hid fits11p
  clear hn h1
  unfold maxLen at hc2
  by_cases hbig : 2147483647 < n
  · clear H1
    go_enter Tryz.func4, Tryz.ntmps4
    go_wp2
    go_ret
    exact ⟨SaysB.no, HBD.out⟩
  go_enter Tryz.func4, Tryz.ntmps4
  go_wp2
  go_loopg [10] (n + 1) (fun q v10 wr => ∃ i : Nat, v10 = .int .i64 (i : Nat) ∧ q + i = n + 1 ∧ i ≤ n ∧ FitP (l.take i) ∧ Below w.heap.size w wr)
  case atStart => exact ⟨0, rfl, by omega, by omega, (fun p hp => by simp at hp), HBD.out⟩
  case round =>
    obtain ⟨i, rfl, hq, hi, hf, hb⟩ := hrel
    have HQ := Lib.hid hq
    have HF := Lib.hid hf
    have HB := Lib.hid hb
    clear hq hf hb
    by_cases hin : i < n
    · obtain ⟨g, o, rfl, q1⟩ := H1.out (by omega)
      obtain ⟨x, hx⟩ : ∃ x, l[i]? = some x := ⟨_, List.getElem?_eq_getElem (by rw [← HN.out]; exact hin)⟩
      have a0 : w.cell? ⟨g, o + i * 7, none⟩ = some (.int .i64 x.kind) := q1 i x hx 0 (by decide)
      have hg1 : g < w.heap.size := World.block_lt_of_cell? w _ a0
      have e0 : wr.cell? ⟨g, o + i * 7, none⟩ = some (.int .i64 x.kind) := (HB.out.cell (p := ⟨g, o + i * 7, none⟩) hg1).trans (q1 i x hx 0 (by decide))
      have e1 : wr.cell? ⟨g, o + i * 7 + 1, none⟩ = some (.int .i64 x.ch) := (HB.out.cell (p := ⟨g, o + i * 7 + 1, none⟩) hg1).trans (q1 i x hx 1 (by decide))
      have e2 : wr.cell? ⟨g, o + i * 7 + 2, none⟩ = some (.int .i64 x.var) := (HB.out.cell (p := ⟨g, o + i * 7 + 2, none⟩) hg1).trans (q1 i x hx 2 (by decide))
      have e3 : wr.cell? ⟨g, o + i * 7 + 3, none⟩ = some (.int .i64 x.sep) := (HB.out.cell (p := ⟨g, o + i * 7 + 3, none⟩) hg1).trans (q1 i x hx 3 (by decide))
      have e4 : wr.cell? ⟨g, o + i * 7 + 4, none⟩ = some (strV x.a) := (HB.out.cell (p := ⟨g, o + i * 7 + 4, none⟩) hg1).trans (q1 i x hx 4 (by decide))
      have e5 : wr.cell? ⟨g, o + i * 7 + 5, none⟩ = some (strV x.b) := (HB.out.cell (p := ⟨g, o + i * 7 + 5, none⟩) hg1).trans (q1 i x hx 5 (by decide))
      have e6 : wr.cell? ⟨g, o + i * 7 + 6, none⟩ = some (strV x.c) := (HB.out.cell (p := ⟨g, o + i * 7 + 6, none⟩) hg1).trans (q1 i x hx 6 (by decide))
      have HX := Lib.hid hx
      clear a0 q1 hx
      go_wp2_with (go_at_call 11; refine (F11.out x _).mono ?_; rintro r w1 ⟨⟨b, rfl, hb⟩, hb1⟩; have HB1 := Lib.hid hb1; have HBB := Lib.hid hb; clear hb1 hb; cases b)
      · go_ret
        exact ⟨SaysB.no, (HB.out.alloc HB.out.size _).trans (HB1.out.mono (HB.out.alloc HB.out.size _).size)⟩
      · go_roundg (n - i)
        case measure => have := HQ.out; omega
        case rel =>
          refine ⟨i + 1, by go_num, by have := HQ.out; omega, by omega, fun p hp => ?_, (HB.out.alloc HB.out.size _).trans (HB1.out.mono (HB.out.alloc HB.out.size _).size)⟩
          rw [List.take_add_one, HX.out] at hp
          rcases List.mem_append.1 hp with hp | hp
          · exact HF.out p hp
          · have : p = x := by simpa using hp
            subst this
            exact HBB.out (by first | rfl | trivial)
    · obtain rfl : i = n := by omega
      go_wp2
      go_ret
      exact ⟨⟨_, rfl, fun _ => by have := HF.out; rwa [List.take_of_length_le (by rw [← HN.out]; exact Nat.le_refl _)] at this⟩, HB.out⟩
theorem few5 (A : Option Addr) (n c : Nat) (e : Int) (w : World) (hn : n ≤ 9223372036854775807) : Calls Tryz.prog 5 #[.int .i64 e, .slice A n c] w fun r w' => SaysB (0 ≤ e ∧ e ≤ 131070 ∧ 0 < n ∧ n ≤ 24) r ∧ w = w' := by
  have H12 := Lib.hid (fun w => ext12 e w)
  obtain ⟨PP, hPP⟩ : ∃ PP : Prop, PP = (0 ≤ e ∧ e ≤ 131070 ∧ 0 < n ∧ n ≤ 24) := ⟨_, rfl⟩
  have HP : Hid ((0 ≤ e ∧ e ≤ 131070) → 0 < n → n ≤ 24 → PP) := Lib.hid (fun h1 h2 h3 => hPP ▸ ⟨h1.1, h1.2, h2, h3⟩)
  rw [← hPP]
  clear hPP
  go_enter Tryz.func5, Tryz.ntmps5
  go_wp2_with (go_at_call 12; refine (H12.out _).mono ?_; rintro r w1 ⟨⟨b, rfl, hb⟩, rfl⟩; have HB := Lib.hid hb; clear hb; cases b)
  all_goals (
    go_ret
    first
    | exact ⟨SaysB.no, rfl⟩
    | (refine ⟨⟨_, rfl, fun h => ?_⟩, rfl⟩
       exact HP.out (HB.out (by first | rfl | trivial)) (by simp at h; omega) (by simp at h; omega)))
end Go.Proofs.YtalajbfpilhfgaaGreatDoor
