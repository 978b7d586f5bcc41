/-
  FnInlineAlone: automatic links without brackets: a text in small letters, and whether a link is safe.
  FnInlineAlone: automatic links without brackets: a link is safe.
  FnInlineAlone: automatic links without brackets.
-/
import Derived.Test.YtalajbfpilhfgaaGreatDoorK19
import Derived.Lib.BufferOld
set_option linter.unusedVariables false
set_option linter.unusedSimpArgs false
namespace Go.Proofs.YtalajbfpilhfgaaGreatDoor
open Go.RowKit

def isUp (c : UInt8) : Bool := 65 ≤ c.toNat && c.toNat ≤ 90
set_option maxHeartbeats 1000000 in
theorem low102 (c : UInt8) (h : isUp c = false) (w : World) : Calls Tryz.prog 102 #[.int .u8 c.toNat] w fun r w' => r = .returned (.int .u8 c.toNat) ∧ w = w' := by
  unfold isUp at h
  obtain ⟨n, hn⟩ : ∃ n : Nat, n = c.toNat := ⟨_, rfl⟩
  rw [← hn] at h ⊢
  clear hn
  by_cases h0 : 65 ≤ n <;> by_cases h1 : n ≤ 90 <;> first | (exfalso; simp [h0, h1] at h; done) | (
    clear h
    have k0 : decide ((65 : Int) ≤ (n : Int)) = decide (65 ≤ n) := by rw [Bool.eq_iff_iff]; simp; omega
    have k1 : decide ((n : Int) ≤ 90) = decide (n ≤ 90) := by rw [Bool.eq_iff_iff]; simp; omega
    simp only [h0, h1, decide_true, decide_false] at k0 k1
    go_enter Tryz.func102, Tryz.ntmps102
    go_wp2
    go_ret
    exact ⟨rfl, rfl⟩)
/-- A block of bytes. -/
def BlkIs (w : World) (a : Nat) (A : Array Value) : Prop := w.heap[a]? = some (.cells A 5 (0, 0))
theorem BlkIs.cell {w : World} {a : Nat} {A : Array Value} (h : BlkIs w a A) (i : Nat) : w.cell? ⟨a, i, none⟩ = A[i]? := by
  unfold World.cell?
  rw [show w.heap[(⟨a, i, none⟩ : Addr).block]? = _ from h]
  rfl
theorem BlkIs.free {w : World} {a : Nat} {A : Array Value} (h : BlkIs w a A) (i : Nat) : w.frozen? ⟨a, i, none⟩ = false := by
  unfold World.frozen?
  rw [show w.heap[(⟨a, i, none⟩ : Addr).block]? = _ from h]
  simp
theorem BlkIs.lt {w : World} {a : Nat} {A : Array Value} (h : BlkIs w a A) : a < w.heap.size := (Array.getElem?_eq_some_iff.1 h).1
theorem BlkIs.set {w : World} {a : Nat} {A : Array Value} (h : BlkIs w a A) (i : Nat) (v : Value) : BlkIs (w.setCell ⟨a, i, none⟩ v) a (A.setIfInBounds i v) := by
  unfold BlkIs World.setCell
  rw [Array.getElem?_modify]
  simp only [↓reduceIte]
  rw [show w.heap[a]? = _ from h]
  rfl
theorem blk_new (w : World) (A : Array Value) : BlkIs (w.alloc (.cells A 5)) w.heap.size A := by
  show (w.heap.push _)[w.heap.size]? = _
  simp

set_option maxRecDepth 100000 in
set_option maxHeartbeats 4000000 in
theorem low89 (g o c m : Nat) (T : Bs) (hT : T.length = m) (hm : m ≤ 1000) (w : World) (h1 : RdO w g o T) (hg : g < w.heap.size) (hup : ∀ i, i < m → isUp (T.getD i 0) = false) :
    Calls Tryz.prog 89 #[.slice (some ⟨g, o, none⟩) m c] w fun r w' => ∃ a, r = .returned (.slice (some ⟨a, 0, none⟩) m m) ∧ Below w.heap.size w w' ∧ RdO w' a 0 T ∧ a < w'.heap.size := by
  obtain ⟨i0, hi, hz0, hz1, hz2⟩ := info_parts info5
  obtain ⟨M, hM⟩ : ∃ M, M = madeCells (Value.int .u8 0).cells ((m : Int).toNat * i0.size) := ⟨_, rfl⟩
  have hMs : M.size = m := by rw [hM, size_madeCells, hz1]; simp
  have hmk : ∀ W : World, (Instr.makeSlice 34 (.int .i64 (m : Int)) (.int .i64 (m : Int))).run Tryz.prog W = .ok (.slice (some ⟨W.heap.size, 0, none⟩) m m) (W.alloc (.cells M 5)) := fun W => by
    have h := run_makeSlice (P := Tryz.prog) W 34 5 i0 (.int .u8 0) Tryz.underlying34 hi hz0 .i64 .i64 (m : Int) (m : Int) (by omega) (by omega) (by rw [hz1]; omega) (by rw [hz2]; omega) (by omega)
    rw [← hM] at h
    simpa using h
  have HR := Lib.hid h1
  have HG := Lib.hid hg
  have HU := Lib.hid hup
  have HT := Lib.hid hT
  have HB0 := Lib.hid ((Below.refl w.heap.size w).alloc (Nat.le_refl _) (.cells M 5))
  have HK0 := Lib.hid (blk_new w M)
  have HMS := Lib.hid hMs
  clear hM hMs h1 hg hup hT hz0 hz1 hz2 hi
  go_enter Tryz.func89, Tryz.ntmps89
  go_wp2
  obtain ⟨a, ha⟩ : ∃ a, a = w.heap.size := ⟨_, rfl⟩
  rw [← ha] at HK0 ⊢
  have HA := Lib.hid ha
  clear ha
  go_loopg [11] (m + 1) (fun q v11 wr => ∃ (j : Nat) (A : Array Value), v11 = .int .i64 (j : Nat) ∧ q + j = m + 1 ∧ j ≤ m ∧ BlkIs wr a A ∧ A.size = m ∧ (∀ i, i < j → A[i]? = some (.int .u8 (T.getD i 0).toNat)) ∧ Below w.heap.size w wr)
  case atStart => exact ⟨0, M, rfl, by omega, by omega, HK0.out, HMS.out, fun i hi => by omega, HB0.out⟩
  case round =>
    obtain ⟨j, A, rfl, hq, hj, hk, hs, hA, hb⟩ := hrel
    have HQ := Lib.hid hq
    have HK := Lib.hid hk
    have HS := Lib.hid hs
    have HAJ := Lib.hid hA
    have HB := Lib.hid hb
    clear hq hk hs hA hb
    by_cases hjm : j < m
    · obtain ⟨y, hy⟩ : ∃ y, y = T.getD j 0 := ⟨_, rfl⟩
      have c1 : wr.cell? ⟨g, o + j, none⟩ = some (.int .u8 y.toNat) := by rw [hy]; exact (rdO_below HR.out HB.out HG.out) j (by rw [HT.out]; exact hjm)
      have CL := Lib.hid (fun w => low102 y (by rw [hy]; exact HU.out j hjm) w)
      obtain ⟨v0, hv0⟩ : ∃ v0, A[j]? = some v0 := ⟨_, Array.getElem?_eq_getElem (by rw [HS.out]; exact hjm)⟩
      have ca : wr.cell? ⟨a, j, none⟩ = some v0 := by rw [HK.out.cell]; exact hv0
      have fa : wr.frozen? ⟨a, j, none⟩ = false := HK.out.free j
      have HY := Lib.hid hy
      clear hy hv0
      go_wp2_with (go_at_call 102; refine (CL.out _).mono ?_; rintro r w' ⟨rfl, rfl⟩)
      go_roundg (m - j)
      case measure => have := HQ.out; omega
      case rel =>
        refine ⟨j + 1, _, by go_num, by have := HQ.out; omega, by omega, HK.out.set j _, by rw [Array.size_setIfInBounds]; exact HS.out, fun i hi => ?_, HB.out.setCell (p := ⟨a, j, none⟩) (by rw [← HA.out]; exact Nat.le_refl _) _⟩
        rw [Array.getElem?_setIfInBounds]
        by_cases h : j = i
        · subst h
          rw [if_pos rfl, if_pos (by rw [HS.out]; exact hjm), HY.out]
        · rw [if_neg h]
          exact HAJ.out i (by omega)
    · obtain rfl : j = m := by omega
      go_wp2
      go_ret
      refine ⟨a, rfl, HB.out, fun i hi => ?_, HK.out.lt⟩
      rw [HT.out] at hi
      rw [Nat.zero_add, HK.out.cell, HAJ.out i hi]

def httpL : Bs := [104, 116, 116, 112, 58, 47, 47]
theorem tab107_facts (i : Nat) (hi : i < 3) : 1 ≤ (tab107.getD i []).length ∧ (tab107.getD i []).length ≤ 3 ∧ (tab107.getD i []).getD 0 0 ≠ 104 := by
  have : i = 0 ∨ i = 1 ∨ i = 2 := by omega
  rcases this with rfl | rfl | rfl <;> decide
set_option maxRecDepth 100000 in
set_option maxHeartbeats 8000000 in
theorem safe97 (x : Ctx) (k : Nat) (ins : Bool) (e : Nat) (he : e + 7 < x.D.length) (hP : (x.D.drop e).take 7 = httpL) (hN : isAln (x.D.getD (e + 7) 0) = true) (w : World) (hi : x.inv k ins w) :
    Calls Tryz.prog 97 #[.slice (some ⟨x.g, x.off + e, none⟩) (x.D.length - e) (x.cap - e)] w fun r w' => r = .returned (.bool true) ∧ Below w.heap.size w w' := by
  have hcap := hi.2.2.2.1
  have hcap2 := hi.2.2.2.2
  have hg := hi.ltg
  have h0 : x.D.getD e 0 = 104 := by
    have : ((x.D.drop e).take 7).getD 0 0 = 104 := by rw [hP]; rfl
    rwa [getD_take'' (by decide), getD_drop] at this
  have C80 := Lib.hid (fun w => tb107 w)
  have C81 := Lib.hid (fun w => tb108 w)
  have RD := Lib.hid (fun w' (hb : Below w.heap.size w w') m (hm : e + m ≤ x.D.length) => rdO_sub (hi.below hb).2.1 e m)
  have RB := Lib.hid (fun w' (hb : Below w.heap.size w w') => (hi.below hb).byte (j := e + 7) he)
  obtain ⟨n, hn⟩ : ∃ n, n = x.D.length := ⟨_, rfl⟩
  rw [← hn] at he hcap RD ⊢
  have HLN := Lib.hid hn
  have CP : Hid (∀ w' i a, Below w.heap.size w w' → i < 3 → RdO w' a 0 (tab107.getD i []) → Calls Tryz.prog 79 #[.slice (some ⟨x.g, x.off + e, none⟩) (tab107.getD i []).length (x.cap - e), .slice (some ⟨a, 0, none⟩) (tab107.getD i []).length (tab107.getD i []).length] w' fun r w2 => r = .returned (.bool false) ∧ w2 = w') := fun w' i a hb hi3 hr => by
    obtain ⟨f1, f2, f3⟩ := tab107_facts i hi3
    have hl : ((x.D.drop e).take (tab107.getD i []).length).length = (tab107.getD i []).length := take_drop_len (by rw [← HLN.out]; omega)
    have q1 := conv_rd (cap := x.cap - e) (RD.out w' hb (tab107.getD i []).length (by omega))
    rw [hl] at q1
    have := eq79 q1 (conv_rd (cap := (tab107.getD i []).length) hr)
    rw [decide_eq_false (fun h => f3 (by rw [← h, getD_take'' (by omega), getD_drop]; exact h0))] at this
    exact this
  have CQ : Hid (∀ w' a b, RdO w' a 0 httpL → RdO w' b 0 httpL → Calls Tryz.prog 79 #[.slice (some ⟨a, 0, none⟩) 7 7, .slice (some ⟨b, 0, none⟩) 7 7] w' fun r w2 => r = .returned (.bool true) ∧ w2 = w') := fun w' a b h1 h2 => by
    have := eq79 (conv_rd (cap := 7) h1) (conv_rd (cap := 7) h2)
    rw [decide_eq_true rfl] at this
    exact this
  have CL : Hid (∀ w', Below w.heap.size w w' → Calls Tryz.prog 89 #[.slice (some ⟨x.g, x.off + e, none⟩) 7 (x.cap - e)] w' fun r w2 => ∃ a, r = .returned (.slice (some ⟨a, 0, none⟩) 7 7) ∧ Below w'.heap.size w' w2 ∧ RdO w2 a 0 httpL ∧ a < w2.heap.size) := fun w' hb => by
    have hr := RD.out w' hb 7 (by omega)
    rw [hP] at hr
    exact low89 x.g (x.off + e) (x.cap - e) 7 httpL rfl (by decide) w' hr (by have := hb.size; omega) (fun i hi => by
      have : i = 0 ∨ i = 1 ∨ i = 2 ∨ i = 3 ∨ i = 4 ∨ i = 5 ∨ i = 6 := by omega
      rcases this with rfl | rfl | rfl | rfl | rfl | rfl | rfl <;> decide)
  obtain ⟨y, hy⟩ : ∃ y, y = x.D.getD (e + 7) 0 := ⟨_, rfl⟩
  rw [← hy] at hN RB
  have CA := Lib.hid (fun w => aln78 y w)
  rw [hN] at CA
  clear hP hi hn h0 hy hN
  go_enter Tryz.func97, Tryz.ntmps97
  go_wp2_with (go_at_call 107; refine (C80.out _).mono ?_; rintro r w1 ⟨g1, rfl, hb1, ht1⟩; have HB1 := Lib.hid hb1; have HT1 := Lib.hid ht1; clear hb1 ht1)
  go_loopg [9] 4 (fun q v9 wr => w1 = wr ∧ ∃ i : Nat, v9 = .int .i64 (i : Nat) ∧ q + i = 4 ∧ i ≤ 3)
  case atStart => exact ⟨rfl, 0, rfl, by omega, by omega⟩
  case round =>
    obtain ⟨rfl, i, rfl, hq, hi3⟩ := hrel
    have HQ := Lib.hid hq
    clear hq
    by_cases hi : i < 3
    · obtain ⟨a, c1, hr1, -⟩ := HT1.out i hi
      have CC := Lib.hid (CP.out w1 i a HB1.out hi hr1)
      obtain ⟨f1, f2, -⟩ := tab107_facts i hi
      obtain ⟨p, hp⟩ : ∃ p, p = (tab107.getD i []).length := ⟨_, rfl⟩
      rw [← hp] at c1 CC f1 f2
      clear hr1 hp
      go_wp2_with (go_at_call 79; refine CC.out.mono ?_; rintro r w' ⟨rfl, rfl⟩)
      go_roundg (3 - i)
      case measure => have := HQ.out; omega
      case rel => exact ⟨rfl, i + 1, by go_num, by have := HQ.out; omega, by omega⟩
    · obtain rfl : i = 3 := by omega
      go_wp2_with (go_at_call 108; refine (C81.out _).mono ?_; rintro r w2 ⟨g2, rfl, hb2, ht2⟩; have HB2 := Lib.hid (HB1.out.trans (hb2.mono HB1.out.size)); have HT2 := Lib.hid ht2; clear hb2 ht2)
      go_loopg [40] 1 (fun q v40 wr => v40 = .int .i64 0 ∧ w2 = wr)
      case atStart => exact ⟨rfl, rfl⟩
      case round =>
        obtain ⟨rfl, rfl⟩ := hrel
        obtain ⟨a, c2, hr2, ha2⟩ := HT2.out 0 (by decide)
        have e7 : (tab108.getD 0 []).length = 7 := rfl
        rw [e7] at c2
        have HR2 : Hid (RdO w2 a 0 httpL) := hr2
        clear hr2 e7
        go_wp2_with (first
          | (go_at_call 89; refine (CL.out _ HB2.out).mono ?_; rintro r w3 ⟨b, rfl, hb3, hr3, -⟩; have HQ3 := Lib.hid (CQ.out w3 b a hr3 (rdO_below HR2.out hb3 ha2)); have HB3 := Lib.hid (HB2.out.trans (hb3.mono HB2.out.size)); clear hr3 hb3; have cy := RB.out w3 HB3.out; rw [← Nat.add_assoc] at cy)
          | (go_at_call 79; refine HQ3.out.mono ?_; rintro r w' ⟨rfl, rfl⟩)
          | (go_at_call 78; refine (CA.out _).mono ?_; rintro r w' ⟨rfl, rfl⟩))
        go_ret
        exact ⟨rfl, HB3.out⟩

theorem buf_old {B b : Nat} {bs : List Value} {w w' : World} (h : Lib.IsBuffer 120 5 B b bs w) (hb : Below w.heap.size w w') : Lib.IsBuffer 120 5 B b bs w' := h.old hb

set_option maxRecDepth 100000 in
set_option maxHeartbeats 8000000 in
theorem auto82 (x : Ctx) (k e m : Nat) (L : Bs) (hm : 8 ≤ m) (hmm : m ≤ 1000) (hlen : e + m ≤ x.D.length) (hL : (x.D.drop e).take m = L) (hP : (x.D.drop e).take 7 = httpL) (hN : isAln (x.D.getD (e + 7) 0) = true)
    (hE : ∀ j, j < m → isEol (x.D.getD (e + j) 0) = false) (hend : e + m < x.D.length → isEol (x.D.getD (e + m) 0) = true)
    (hlast : ∀ c ∈ ([46, 44, 59, 34, 39, 41, 93, 125] : Bs), x.D.getD (e + (m - 1)) 0 ≠ c) (h92 : ∀ j, j < m → x.D.getD (e + j) 0 ≠ 92)
    (hprev : 0 < e → isLet (x.D.getD (e - 1) 0) = false) (hA : ∀ s, s ≤ e → ¬ (x.D.getD (s + 6) 0 = 102 ∧ x.D.getD (s + 7) 0 = 61 ∧ x.D.getD (s + 8) 0 = 34)) (w : World) (hi : x.inv k false w) :
    Calls Tryz.prog 82 #[ptr x.M, x.val, .int .i64 e] w (Took w m (some (G.one 10 none (some L) none (textG L)))) := by
  have hcap := hi.2.2.2.1
  have hcap2 := hi.2.2.2.2
  have hll : L.length = m := by rw [← hL]; exact take_drop_len hlen
  have CA := Lib.hid (fun s (h : s ≤ e) => an96 x k false s (by omega) (hA s h) w hi)
  have CS := Lib.hid (safe97 x k false e (by omega) hP hN w hi)
  have HC := Lib.hid (fun j (h : j < x.D.length) => hi.byte (j := j) h)
  have HCB := Lib.hid (fun w' (hb : Below w.heap.size w w') j (h : j < x.D.length) => (hi.below hb).byte (j := j) h)
  have hRl : RdO w x.g (x.off + e) L := by rw [← hL]; exact rdO_sub hi.2.1 e m
  have hgl := hi.ltg
  have c70 : Hid (∀ w1, Below w.heap.size w w1 → Calls Tryz.prog 70 #[ptr w1.heap.size, .slice (some ⟨x.g, x.off + e, none⟩) m (x.cap - e)] (w1.alloc (.cells #[.slice none 0 0, .int .i64 0, .int .i8 0] 120)) fun r w' => r = .returned (.tuple #[]) ∧ Lib.IsBuffer 120 5 w1.heap.size w1.heap.size (cellsB L) w' ∧ Below w1.heap.size (w1.alloc (.cells #[.slice none 0 0, .int .i64 0, .int .i8 0] 120)) w') := fun w1 hb =>
    unesc70 w1.heap.size w1.heap.size x.g (x.off + e) m (x.cap - e) L _ hll (by omega) (by omega) (by omega) (Lib.fresh_isBuffer 120 5 w1) (by rw [alloc_size]; omega) (by have := hb.size; omega) (rdO_below (rdO_below hRl hb hgl) ((Below.refl _ w1).alloc (Nat.le_refl _) _) (by have := hb.size; omega)) (fun j hj => by rw [← hL, getD_take'' hj, getD_drop]; exact h92 j hj)
  have C74 := Lib.hid (fun B W h => len74 B B L W h)
  have C66 := Lib.hid (fun B W h => bytes66 B B L W (by omega) h)
  have CN := Lib.hid (fun w => new39 10 w)
  have TX := Lib.hid (fun A n c w => text45 A n c w)
  have HE := Lib.hid hE
  have HEND := Lib.hid hend
  have HPR := Lib.hid hprev
  obtain ⟨z, hz⟩ : ∃ z, z = x.D.getD (e + (m - 1)) 0 := ⟨_, rfl⟩
  rw [← hz] at hlast
  have b46 : ((z.toNat : Int) == 46) = false := beq_no (k := 46) (hlast 46 (by decide))
  have b44 : ((z.toNat : Int) == 44) = false := beq_no (k := 44) (hlast 44 (by decide))
  have b59 : ((z.toNat : Int) == 59) = false := beq_no (k := 59) (hlast 59 (by decide))
  have b34 : ((z.toNat : Int) == 34) = false := beq_no (k := 34) (hlast 34 (by decide))
  have b39 : ((z.toNat : Int) == 39) = false := beq_no (k := 39) (hlast 39 (by decide))
  have b41 : ((z.toNat : Int) == 41) = false := beq_no (k := 41) (hlast 41 (by decide))
  have b93 : ((z.toNat : Int) == 93) = false := beq_no (k := 93) (hlast 93 (by decide))
  have b125 : ((z.toNat : Int) == 125) = false := beq_no (k := 125) (hlast 125 (by decide))
  have HZ := Lib.hid hz
  unfold Ctx.val
  obtain ⟨n, hn⟩ : ∃ n, n = x.D.length := ⟨_, rfl⟩
  rw [← hn] at hlen hcap CS HC HCB HEND CA ⊢
  have HLN := Lib.hid hn
  have HLL := Lib.hid hll
  have hlp : (0 : Int) < (L.length : Int) := by omega
  obtain ⟨ll, hlle⟩ : ∃ ll, ll = L.length := ⟨_, rfl⟩
  clear hi hn hL hP hN hE hend hlast h92 hprev hA hRl hz
  rw [← hlle] at C74 C66 hlp hll
  have HLE := Lib.hid hlle
  clear hlle hll
  have tok : True := trivial
  go_enter Tryz.func82, Tryz.ntmps82
  go_wp2
  go_loopg [8, 9] (e + 1) (fun q v8 v9 wr => w = wr ∧ ∃ i : Nat, v8 = .int .i64 (i : Nat) ∧ v9 = .int .i64 ((e - i : Nat) : Int) ∧ q = i + 1 ∧ i ≤ e)
  case atStart => exact ⟨rfl, e, rfl, by rw [Nat.sub_self]; rfl, by omega, by omega⟩
  case round =>
    obtain ⟨rfl, i, rfl, rfl, hq, hie⟩ := hrel
    have HQ := Lib.hid hq
    clear hq
    have c1 := HC.out i (by omega)
    obtain ⟨y, hy⟩ : ∃ y, y = x.D.getD i 0 := ⟨_, rfl⟩
    rw [← hy] at c1
    clear hy
    go_upto_region 3 with fail
    go_cut [29] from 21 to 28 (fun v29 wx => (∃ b : Bool, v29 = .bool b ∧ (b = true → 0 < i)) ∧ wx = w)
    case first =>
      by_cases h0 : 0 < i
      · by_cases h6 : y = 60
        · have b6 : ((y.toNat : Int) != 60) = false := bne_yes (k := 60) h6
          clear h6
          go_wp2
          go_meet
          case rel => exact ⟨⟨_, rfl, by simp⟩, rfl⟩
        · have b6 : ((y.toNat : Int) != 60) = true := bne_no (k := 60) h6
          clear h6
          go_wp2
          go_meet
          case rel => exact ⟨⟨_, rfl, fun _ => h0⟩, rfl⟩
      · obtain rfl : i = 0 := by omega
        go_wp2
        go_meet
        case rel => exact ⟨⟨_, rfl, by simp⟩, rfl⟩
    case rest =>
    obtain ⟨⟨b, rfl, hb⟩, hwx⟩ := hcut
    subst hwx
    cases b with
    | true =>
      have h0 := hb rfl
      clear hb
      go_wp2
      go_roundg i
      case measure => have := HQ.out; omega
      case rel => exact ⟨rfl, i - 1, by go_num, by go_num, by omega, by omega⟩
    | false =>
      clear hb
      have CC := Lib.hid (CA.out i hie)
      go_wp2_with (go_at_call 96; refine CC.out.mono ?_; rintro r w' ⟨rfl, rfl⟩)
      clear CA CC
      go_loopg [12] 1 (fun q v12 wr => v12 = .int .i64 0 ∧ wc = wr)
      case atStart => exact ⟨rfl, rfl⟩
      case round =>
        obtain ⟨rfl, rfl⟩ := hrel
        go_upto_region 12 with fail
        go_cut [69] from 52 to 68 (fun v69 wx => v69 = .bool false ∧ wx = wc)
        case first =>
          by_cases he0 : 0 < e
          · have c1 := HC.out (e - 1) (by omega)
            have CLT := Lib.hid (fun w => let95 (x.D.getD (e - 1) 0) w)
            rw [HPR.out he0] at CLT
            obtain ⟨y, hy⟩ : ∃ y, y = x.D.getD (e - 1) 0 := ⟨_, rfl⟩
            rw [← hy] at c1 CLT
            have ee : (e : Int) - 1 = ((e - 1 : Nat) : Int) := by omega
            clear hy
            go_wp2_with (go_at_call 95; refine (CLT.out _).mono ?_; rintro r w' ⟨rfl, rfl⟩)
            go_meet
            case rel => exact ⟨rfl, rfl⟩
          · obtain rfl : e = 0 := by omega
            go_wp2
            go_meet
            case rel => exact ⟨rfl, rfl⟩
        case rest =>
        obtain ⟨rfl, hwx⟩ := hcut
        subst hwx
        go_wp2_with (go_at_call 97; refine CS.out.mono ?_; rintro r w1 ⟨rfl, hb1⟩; have HB1 := Lib.hid hb1; clear hb1)
        clear CS HPR
        go_loopg [14] (m + 1) (fun q v14 wr => w1 = wr ∧ ∃ j : Nat, v14 = .int .i64 (j : Nat) ∧ q + j = m + 1 ∧ j ≤ m)
        case atStart => exact ⟨rfl, 0, rfl, by omega, by omega⟩
        case round =>
          obtain ⟨rfl, j, rfl, hq, hj⟩ := hrel
          have HQ := Lib.hid hq
          clear hq
          go_upto_region 21 with fail
          go_cut [94] from 83 to 93 (fun v94 wx => v94 = .bool (decide (j < m)) ∧ wx = w1)
          case first =>
            by_cases hjn : j < n - e
            · have c1 := HCB.out w1 HB1.out (e + j) (by omega)
              rw [← Nat.add_assoc] at c1
              have CE := Lib.hid (fun w => eol98 (x.D.getD (e + j) 0) w)
              have heq : isEol (x.D.getD (e + j) 0) = !decide (j < m) := by
                by_cases h : j < m
                · rw [HE.out j h, decide_eq_true h]; rfl
                · obtain rfl : j = m := by omega
                  rw [HEND.out (by omega), decide_eq_false h]; rfl
              rw [heq] at CE
              obtain ⟨y, hy⟩ : ∃ y, y = x.D.getD (e + j) 0 := ⟨_, rfl⟩
              rw [← hy] at c1 CE
              clear hy heq
              obtain ⟨bb, hbb⟩ : ∃ bb, bb = decide (j < m) := ⟨_, rfl⟩
              rw [← hbb] at CE
              have HBB := Lib.hid hbb
              clear hbb
              cases bb with
              | false =>
                go_wp2_with (go_at_call 98; refine (CE.out _).mono ?_; rintro r w' ⟨rfl, rfl⟩)
                go_meet
                case rel => exact ⟨by rw [← HBB.out], rfl⟩
              | true =>
                go_wp2_with (go_at_call 98; refine (CE.out _).mono ?_; rintro r w' ⟨rfl, rfl⟩)
                go_meet
                case rel => exact ⟨by rw [← HBB.out], rfl⟩
            · have HJM := Lib.hid (decide_eq_false (show ¬ (j < m) by omega))
              go_wp2
              go_meet
              case rel => exact ⟨by rw [HJM.out], rfl⟩
          case rest =>
          obtain ⟨rfl, hwx⟩ := hcut
          subst hwx
          by_cases hjm : j < m
          · rw [decide_eq_true hjm]
            go_wp2
            go_roundg (m - j)
            case measure => have := HQ.out; omega
            case rel => exact ⟨rfl, j + 1, by go_num, by have := HQ.out; omega, by omega⟩
          · obtain rfl : j = m := by omega
            rw [decide_eq_false hjm]
            have c1 := HCB.out wc HB1.out (e + (j - 1)) (by omega)
            rw [← HZ.out, ← Nat.add_assoc] at c1
            have em : (j : Int) - 1 = ((j - 1 : Nat) : Int) := by omega
            have hd1 : decide (j - 1 < n - e) = true := decide_eq_true (by omega)
            clear hjm HE HEND HC HCB
            have C70 := Lib.hid (c70.out wc HB1.out)
            go_wp2_with (first
              | (go_at_call 70; refine C70.out.mono ?_; rintro r w2 ⟨rfl, hb2, hbel2⟩; have HB2 := Lib.hid hb2; have HBEL2 := Lib.hid (((Below.refl wc.heap.size wc).alloc (Nat.le_refl _) _).trans hbel2); clear hb2 hbel2)
              | (go_at_call 74; refine (C74.out _ _ HB2.out).mono ?_; rintro r w3 ⟨rfl, hbel3, hb3⟩; have HB3 := Lib.hid hb3; have HBEL3 := Lib.hid hbel3; clear hb3 hbel3)
              | (go_at_call 39; refine (CN.out _).mono ?_; rintro r w4 ⟨rfl, hn4, hbel4, -⟩; have HN4 := Lib.hid hn4; have HBEL4 := Lib.hid hbel4; clear hn4 hbel4)
              | (go_at_call 66; clear tok; refine (C66.out _ _ (buf_old HB3.out HBEL4.out)).mono ?_; rintro r w5 ⟨g5, c5, rfl, -, -, -, -, -, hv5, hbel5⟩; have HV5 := Lib.hid hv5; have HBEL5 := Lib.hid hbel5; have HN5 := Lib.hid (HN4.out.below hbel5); clear hv5 hbel5; have hc21 := HN5.out.cell 21; have hf21 := HN5.out.free 21; obtain ⟨u, hu⟩ : ∃ u, w5.cell? ⟨w3.heap.size, 21, none⟩ = some u := ⟨_, hc21⟩; clear hc21)
              | (go_at_call 66; have hb35 := (HBEL4.out.trans (HBEL5.out.mono HBEL4.out.size)).setCell (p := ⟨w3.heap.size, 21, none⟩) (Nat.le_refl _) (.slice (some ⟨g5, 0, none⟩) ll c5); refine (C66.out _ _ (buf_old HB3.out hb35)).mono ?_; rintro r w6 ⟨g6, c6, rfl, -, -, -, -, -, hv6, hbel6⟩; have HV6 := Lib.hid hv6; have HBEL6 := Lib.hid hbel6; clear hv6 hbel6 hb35)
              | (go_at_call 45; refine (TX.out _ _ _ _).mono ?_; rintro r w7 ⟨rfl, hn7, hbel7, -⟩; have HN7 := Lib.hid hn7; have HBEL7 := Lib.hid hbel7; clear hn7 hbel7)
              | (go_at_call 44; refine (append_first w3.heap.size w6.heap.size 10 nilP nilP nilP nilS (.slice (some ⟨g5, 0, none⟩) ll c5) nilS 12 nilP nilP (.slice (some ⟨g6, 0, none⟩) ll c6) nilS nilS w7 (by have := (HN5.out.set 21 (.slice (some ⟨g5, 0, none⟩) ll c5)).lt; have := HBEL6.out.size; omega) (((HN5.out.set 21 (.slice (some ⟨g5, 0, none⟩) ll c5)).below HBEL6.out).below HBEL7.out) HN7.out).mono ?_; rintro r w8 ⟨rfl, hsb8, hn8, hn8'⟩; have HSB8 := Lib.hid hsb8; have HN8 := Lib.hid hn8; have HN8' := Lib.hid hn8'; clear hsb8 hn8 hn8'))
            go_ret2
            have hb2 := HB1.out.trans (HBEL2.out.mono HB1.out.size)
            have hb3 := hb2.trans (HBEL3.out.mono hb2.size)
            have hb4 := hb3.trans (HBEL4.out.mono hb3.size)
            have hb5 := hb4.trans (HBEL5.out.mono hb4.size)
            have hb5' := hb5.setCell (p := ⟨w3.heap.size, 21, none⟩) hb3.size (.slice (some ⟨g5, 0, none⟩) ll c5)
            have hlt := (HN5.out.set 21 (.slice (some ⟨g5, 0, none⟩) ll c5)).lt
            obtain ⟨r1, r2⟩ := link_made (l := some L) (tl := none) (l' := L) hb3.size (by have := HBEL6.out.size; omega) hb5' (HN5.out.set 21 (.slice (some ⟨g5, 0, none⟩) ll c5)) (HV5.out.keep (keep5_set HN5.out 21 _)) rfl HBEL6.out HV6.out rfl HBEL7.out HN7.out HSB8.out HN8.out HN8'.out
            exact ⟨r1, _, rfl, r2⟩

theorem tab80_0 : tab80.getD 0 [] = httpL := rfl
set_option maxRecDepth 100000 in
set_option maxHeartbeats 8000000 in
/-- A link without brackets is taken. -/
theorem auto_takes (x : Ctx) (k e m : Nat) (L : Bs) (hext : x.ext.testBit 4 = true) (hm : 8 ≤ m) (hmm : m ≤ 1000) (hlen : e + m ≤ x.D.length) (hL : (x.D.drop e).take m = L) (hP : (x.D.drop e).take 7 = httpL) (hN : isAln (x.D.getD (e + 7) 0) = true)
    (hE : ∀ j, j < m → isEol (x.D.getD (e + j) 0) = false) (hend : e + m < x.D.length → isEol (x.D.getD (e + m) 0) = true)
    (hlast : ∀ c ∈ ([46, 44, 59, 34, 39, 41, 93, 125] : Bs), x.D.getD (e + (m - 1)) 0 ≠ c) (h92 : ∀ j, j < m → x.D.getD (e + j) 0 ≠ 92)
    (hprev : 0 < e → isLet (x.D.getD (e - 1) 0) = false) (hA : ∀ s, s ≤ e → ¬ (x.D.getD (s + 6) 0 = 102 ∧ x.D.getD (s + 7) 0 = 61 ∧ x.D.getD (s + 8) 0 = 34)) :
    Takes x k false e m (some (G.one 10 none (some L) none (textG L))) := by
  have h0 : x.D.getD e 0 = 104 := by
    have : ((x.D.drop e).take 7).getD 0 0 = 104 := by rw [hP]; rfl
    rwa [getD_take'' (by decide), getD_drop] at this
  refine ⟨56, by rw [h0]; unfold cbN; rw [hext]; rfl, fun w hi => ?_⟩
  have hcap := hi.2.2.2.1
  have hcap2 := hi.2.2.2.2
  have hci := hi.ins'
  have C82 := Lib.hid (fun w' (hb : Below w.heap.size w w') => auto82 x k e m L hm hmm hlen hL hP hN hE hend hlast h92 hprev hA w' (hi.below hb))
  have RD := Lib.hid (fun w' (hb : Below w.heap.size w w') m (hm : e + m ≤ x.D.length) => rdO_sub (hi.below hb).2.1 e m)
  have C80 := Lib.hid (tb80 w)
  obtain ⟨n, hn⟩ : ∃ n, n = x.D.length := ⟨_, rfl⟩
  have hen : e + 8 ≤ n := by omega
  have hcn : n ≤ x.cap := by omega
  have CP : Hid (∀ w' a, Below w.heap.size w w' → RdO w' a 0 httpL → Calls Tryz.prog 81 #[.slice (some ⟨x.g, x.off + e, none⟩) 8 (x.cap - e), .slice (some ⟨a, 0, none⟩) 7 7] w' fun r w2 => r = .returned (.bool true) ∧ w' = w2) := fun w' a hb hr =>
    pre81_yes x.g (x.off + e) 8 _ a 0 7 httpL ((x.D.drop e).take 8) (take_drop_len (by omega)) (by decide) (by decide) w' (RD.out w' hb 8 (by omega)) hr (fun i hi => by
      have hi7 : i < 7 := hi
      rw [← hP, getD_take'' hi7, getD_take'' (by omega)])
  unfold Ctx.val at C82 ⊢
  rw [← hn] at C82 ⊢
  have HK : Hid (∀ w1 r w', Below w.heap.size w w1 → Took w1 m (some (G.one 10 none (some L) none (textG L))) r w' → ∃ v, r = .returned (.tuple #[.int .i64 m, v]) ∧ Took w m (some (G.one 10 none (some L) none (textG L))) (.returned (.tuple #[.int .i64 m, v])) w') := fun w1 r w' hb ht => by
    obtain ⟨t1, a, t2, d, kf, m1, m2, m3, m4⟩ := ht
    exact ⟨_, t2, hb.trans (t1.mono hb.size), a, rfl, d, kf, m1, m2, fun b hb' => Nat.le_trans hb.size (m3 b hb'), m4⟩
  generalize (some (G.one 10 none (some L) none (textG L))) = o at C82 HK ⊢
  clear RD hi hn hext hm hmm hlen hL hP hN hE hend hlast h92 hprev hA h0 hcap
  go_enter Tryz.func56, Tryz.ntmps56
  go_wp2_with (go_at_call 80; refine C80.out.mono ?_; rintro r w1 ⟨g1, rfl, hb1, ht1⟩; have HB1 := Lib.hid hb1; have HT1 := Lib.hid ht1; clear hb1 ht1)
  go_loopg [24] 1 (fun q v24 wr => w1 = wr ∧ v24 = .int .i64 0)
  case atStart => exact ⟨rfl, rfl⟩
  case round =>
    obtain ⟨rfl, rfl⟩ := hrel
    obtain ⟨a, c1, hr1, -⟩ := HT1.out 0 (by decide)
    have e7 : (tab80.getD 0 []).length = 7 := rfl
    rw [e7] at c1
    have CC := Lib.hid (CP.out w1 a HB1.out hr1)
    clear hr1 e7
    go_wp2_with (first
      | (go_at_call 81; refine CC.out.mono ?_; rintro r w' ⟨rfl, rfl⟩)
      | (go_at_call 82; refine (C82.out _ HB1.out).mono ?_; intro r w' ht; obtain ⟨v, hrv, ht'⟩ := HK.out _ _ _ HB1.out ht; subst hrv; have HT := Lib.hid ht'; clear ht ht'))
    go_ret2
    exact HT.out
end Go.Proofs.YtalajbfpilhfgaaGreatDoor
