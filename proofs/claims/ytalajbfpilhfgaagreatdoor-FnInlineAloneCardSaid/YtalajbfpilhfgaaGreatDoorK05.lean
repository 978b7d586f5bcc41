/-
  FnInlineAlone: callbacks: emphasis, its first part.
-/
import Derived.Test.YtalajbfpilhfgaaGreatDoorK04
set_option linter.unusedVariables false
set_option linter.unusedSimpArgs false
namespace Go.Proofs.YtalajbfpilhfgaaGreatDoor
open Go.RowKit

/-- A part of a text. -/
def Ctx.sub (x : Ctx) (s a : Nat) : Ctx := { x with off := x.off + s, cap := x.cap - s, D := (x.D.drop s).take a }
theorem sub_len {x : Ctx} {s a : Nat} (h : s + a ≤ x.D.length) : (x.sub s a).D.length = a := by
  show ((x.D.drop s).take a).length = a
  simp; omega
theorem Ctx.inv.sub {x : Ctx} {k : Nat} {ins : Bool} {w : World} (h : x.inv k ins w) {s a : Nat} (hs : s + a ≤ x.D.length) : (x.sub s a).inv k ins w := by
  refine ⟨h.1, rdO_sub h.2.1 s a, h.2.2.1, ?_, ?_⟩
  · rw [sub_len hs]
    have := h.2.2.2.1
    show a ≤ x.cap - s ∧ a ≤ 140737488355328
    omega
  · have := h.2.2.2.2
    show x.cap - s ≤ _
    omega
theorem sub_get {x : Ctx} {s a j : Nat} (h : j < a) : (x.sub s a).D.getD j 0 = x.D.getD (s + j) 0 := by
  show ((x.D.drop s).take a).getD j 0 = _
  rw [List.getD_eq_getElem?_getD, List.getElem?_take, if_pos h, List.getElem?_drop, List.getD_eq_getElem?_getD]

/-- Nodes hung below a new node by the inline parser. -/
theorem made_kids {w w1 w' : World} {ty : Int} {f : F} {K : G} {a : Nat} (ha : a = w.heap.size) (h1 : Below w.heap.size w w1) (hz : a < w1.heap.size) (hk : Kids w' a ty nilP nilP nilP nilS nilS nilS f) (hf : f.abs = K) (hg : w1.grownBy w' (some a)) (hn : ∀ b ∈ f.blocks, w1.heap.size ≤ b) (hd : f.blocks.Nodup) :
    Below w.heap.size w w' ∧ Made w (G.one ty none none none K) a w' := by
  subst ha
  have hs := h1.size
  refine ⟨⟨hg.os.trans h1.os, hg.tape.trans h1.tape, hg.output.trans h1.output, Nat.le_trans hs hg.size, fun i hi => ?_⟩, ⟨ty, nilS, none, nilS, none, nilS, none⟩, f, ⟨hk.1, ⟨rfl, rfl, rfl⟩, hk.2⟩, ?_, ?_, ?_⟩
  · exact (hg.block i (by omega) (by simp; omega)).trans (h1.block i hi)
  · rw [List.nodup_cons]
    refine ⟨fun hm => ?_, hd⟩
    have := hn _ hm
    omega
  · intro b hb
    rcases List.mem_cons.1 hb with rfl | hb
    · exact Nat.le_refl _
    · have := hn b hb; omega
  · show G.cons ty none none none f.abs .nil = _
    rw [hf]; rfl

set_option maxRecDepth 100000 in
set_option maxHeartbeats 4000000 in
theorem find85 (x : Ctx) (k : Nat) (ins : Bool) (s p : Nat) (c : UInt8) (hp : s + p < x.D.length) (hp0 : 0 < p) (h1 : ∀ j, j < p → x.D.getD (s + j) 0 ≠ c ∧ x.D.getD (s + j) 0 ≠ 96 ∧ x.D.getD (s + j) 0 ≠ 91) (h2 : x.D.getD (s + p) 0 = c) (h3 : x.D.getD (s + p - 1) 0 ≠ 92) (w : World) (hi : x.inv k ins w) :
    Calls Tryz.prog 85 #[.slice (some ⟨x.g, x.off + s, none⟩) (x.D.length - s) (x.cap - s), .int .u8 c.toNat] w fun e w' => e = .returned (.int .i64 (p : Nat)) ∧ w = w' := by
  have hcap := hi.2.2.2.1
  have hcap2 := hi.2.2.2.2
  obtain ⟨n, hn⟩ : ∃ n, n = x.D.length := ⟨_, rfl⟩
  rw [← hn] at hp hcap ⊢
  have hc : ∀ j, s + j < n → w.cell? ⟨x.g, x.off + s + j, none⟩ = some (.int .u8 (x.D.getD (s + j) 0).toNat) := fun j hj => by
    rw [Nat.add_assoc]
    exact hi.byte (by omega)
  have hlast : w.cell? ⟨x.g, x.off + s + (p - 1), none⟩ = some (.int .u8 (x.D.getD (s + p - 1) 0).toNat) := by
    have := hc (p - 1) (by omega)
    rw [show s + (p - 1) = s + p - 1 by omega] at this
    exact this
  obtain ⟨z, hz⟩ : ∃ z, z = x.D.getD (s + p - 1) 0 := ⟨_, rfl⟩
  rw [← hz] at hlast h3
  have bz : ((z.toNat : Int) == 92) = false := beq_no (k := 92) h3
  have ez : (p : Int) - 1 = ((p - 1 : Nat) : Int) := by omega
  have b0 : ((p : Int) != 0) = true := by rw [bne_iff_ne]; omega
  have HC := Lib.hid hc
  have H1 := Lib.hid h1
  have H2 := Lib.hid h2
  have hd0 : decide (0 < n - s) = true := decide_eq_true (by omega)
  clear hc h1 h2 hn hi hz h3
  go_enter Tryz.func85, Tryz.ntmps85
  go_wp2
  go_loopg [5] 1 (fun q v5 wr => v5 = .int .i64 0 ∧ w = wr)
  case atStart => exact ⟨rfl, rfl⟩
  case round =>
    obtain ⟨rfl, rfl⟩ := hrel
    go_wp2
    go_loopg [5] (p + 1) (fun q v5 wr => ∃ j : Nat, v5 = .int .i64 (j : Nat) ∧ q + j = p + 1 ∧ j ≤ p ∧ w = wr)
    case atStart => exact ⟨0, rfl, by omega, by omega, rfl⟩
    case round =>
      obtain ⟨j, rfl, hq, hj, rfl⟩ := hrel
      have HQ := Lib.hid hq
      clear hq
      obtain ⟨y, hy⟩ : ∃ y, y = x.D.getD (s + j) 0 := ⟨_, rfl⟩
      have c1 := HC.out j (by omega)
      rw [← hy] at c1
      by_cases hjp : j < p
      · obtain ⟨q1, q2, q3⟩ := H1.out j hjp
        rw [← hy] at q1 q2 q3
        have b1 : ((y.toNat : Int) != (c.toNat : Int)) = true := bne_no q1
        have b2 : ((y.toNat : Int) != 96) = true := bne_no (k := 96) q2
        have b3 : ((y.toNat : Int) != 91) = true := bne_no (k := 91) q3
        clear hy q1 q2 q3
        go_wp2
        go_roundg (p - j)
        case measure => have := HQ.out; omega
        case rel => exact ⟨j + 1, by go_num, by omega, by omega, rfl⟩
      · obtain rfl : j = p := by omega
        have hyc := hy.trans H2.out
        have b1 : ((y.toNat : Int) != (c.toNat : Int)) = false := bne_yes hyc
        have b2 : ((y.toNat : Int) == (c.toNat : Int)) = true := beq_yes hyc
        clear hy hyc
        go_wp2
        go_ret
        exact ⟨rfl, rfl⟩

def pL : Bs := [33, 34, 35, 36, 37, 38, 39, 40, 41, 42, 43, 44, 45, 46, 47, 58, 59, 60, 61, 62, 63, 64, 91, 92, 93, 94, 95, 96, 123, 124, 125, 126]
def memF (c : UInt8) : Bs → Bool
  | [] => false
  | d :: r => if c = d then true else memF c r
set_option maxRecDepth 100000 in
set_option maxHeartbeats 2000000 in
theorem punct86 (c : UInt8) (w : World) : Calls Tryz.prog 86 #[.int .u8 c.toNat] w fun e w' => e = .returned (.bool (memF c pL)) ∧ Below w.heap.size w w' := by
  obtain ⟨r, hr⟩ : ∃ r, r = memF c pL := ⟨_, rfl⟩
  rw [← hr]
  have HR0 := Lib.hid hr
  clear hr
  have hcv : ∀ (w : World) (C : Array Value) (n c : Nat), (convert 34 34 (.slice (some ⟨w.heap.size, 0, none⟩) n c)).run Tryz.prog (w.alloc (.cells C 5)) = .ok (.slice (some ⟨w.heap.size, 0, none⟩) n c) (w.alloc (.cells C 5 (C.size, C.size + 1))) := fun w C n c => Lib.run_convert_bytes_const w 34 5 C n c Tryz.underlying34 Tryz.underlying5
  have hnew : ∀ fr, RdO (w.alloc (.cells (cellsB pL).toArray 5 fr)) w.heap.size 0 pL := fun fr => by
    obtain ⟨hb, g, C, fz, hv, hg, hh, hr⟩ := rd_const w pL fr
    injection hv with hv
    injection hv with hv
    injection hv with hv
    subst hv
    exact hr
  have HNW := Lib.hid hnew
  clear hnew
  go_enter Tryz.func86, Tryz.ntmps86
  go_wp2
  go_loopg [8] 32 (fun q i wr => ∃ k : Nat, i = .int .i64 k ∧ q + k = 32 ∧ k ≤ 32 ∧ Hid (RdO wr w.heap.size 0 pL ∧ Below w.heap.size w wr) ∧ Hid (r = memF c (pL.drop k)))
  case atStart => exact ⟨0, rfl, rfl, Nat.zero_le _, ⟨HNW.out (32, 33), (Below.refl _ w).alloc (Nat.le_refl _) _⟩, HR0.out⟩
  case round =>
    obtain ⟨k, rfl, hq, hk, HW, HR⟩ := hrel
    have HQ := Lib.hid hq
    clear hq
    by_cases hlt : k < 32
    · obtain ⟨d, hd⟩ : ∃ d, d = pL.getD k 0 := ⟨_, rfl⟩
      have hck : wr.cell? ⟨w.heap.size, k, none⟩ = some (.int .u8 d.toNat) := by
        have := HW.out.1 k hlt
        rw [Nat.zero_add, ← hd] at this
        exact this
      have hst : r = if c = d then true else memF c (pL.drop (k + 1)) := by rw [HR.out, getD_drop_cons pL k hlt, memF, hd]
      have HST := Lib.hid hst
      clear hst hd HR
      by_cases hcd : c = d
      · have hb : ((c.toNat : Int) == (d.toNat : Int)) = true := by rw [hcd]; simp
        have HR : Hid (r = true) := by show _ = _; rw [HST.out, if_pos hcd]
        clear hcd HST
        go_wp2_with fail
        go_ret
        rw [HR.out]
        exact ⟨rfl, HW.out.2⟩
      · have hb : ((c.toNat : Int) == (d.toNat : Int)) = false := beq_no hcd
        have HR : Hid (r = memF c (pL.drop (k + 1))) := by show _ = _; rw [HST.out, if_neg hcd]
        clear hcd HST
        go_wp2_with fail
        go_roundg (gk - 1)
        case measure => have := HQ.out; omega
        case rel => exact ⟨k + 1, by go_num, by have := HQ.out; omega, by omega, HW, HR⟩
    · have hd : pL.drop k = [] := List.drop_eq_nil_of_le (by show 32 ≤ k; omega)
      have HR1 : Hid (r = false) := by show _ = _; rw [HR.out, hd]; rfl
      clear hd HR
      go_wp2_with fail
      go_ret
      rw [HR1.out]
      exact ⟨rfl, HW.out.2⟩

/-- What may stand behind an emphasis that ends. -/
def endOk (y : UInt8) : Prop := isSp y = true ∨ y = 92
set_option maxRecDepth 100000 in
set_option maxHeartbeats 8000000 in
theorem emph60 (x : Ctx) (k : Nat) (ins : Bool) (s a : Nat) (c : UInt8) (sg : List Seg) (hk : k < 16) (hx : x.ext ≤ 131070) (ha : 0 < a) (hlen : s + a < x.D.length) (h1 : ∀ j, j < a → x.D.getD (s + j) 0 ≠ c ∧ x.D.getD (s + j) 0 ≠ 96 ∧ x.D.getD (s + j) 0 ≠ 91)
    (h2 : x.D.getD (s + a) 0 = c) (h3 : x.D.getD (s + a - 1) 0 ≠ 92 ∧ isSp (x.D.getD (s + a - 1) 0) = false ∧ x.D.getD (s + a - 1) 0 ≠ 10) (h4 : s + a + 1 < x.D.length → x.D.getD (s + a + 1) 0 ≠ c ∧ endOk (x.D.getD (s + a + 1) 0)) (hs : SegsOk (x.sub s a) (k + 1) ins sg 0) (w : World) (hi : x.inv k ins w) :
    Calls Tryz.prog 60 #[ptr x.M, .slice (some ⟨x.g, x.off + s, none⟩) (x.D.length - s) (x.cap - s), .int .u8 c.toNat] w (Took w (a + 1) (some (G.one 7 none none none (outG (x.sub s a).D sg 0 0)))) := by
  have hcap := hi.2.2.2.1
  have hcap2 := hi.2.2.2.2
  have hce := hi.ext'
  have cf := find85 x k ins s a c hlen ha h1 h2 h3.1 w hi
  obtain ⟨u, hu⟩ : ∃ u, u = bits .and .i64 (x.ext : Int) 2 := ⟨_, rfl⟩
  have hu2 : u = 0 ∨ u = 2 := by
    have hb := and_bit x.ext 1 hx (by omega)
    rw [hu]
    cases h : x.ext.testBit 1 with
    | true => rw [h, if_pos rfl] at hb; exact Or.inr hb
    | false => rw [h, if_neg (by decide)] at hb; exact Or.inl hb
  have hsl := sub_len (x := x) (s := s) (a := a) (by omega)
  have ci2 : ∀ w3, Below w.heap.size w w3 → ∀ w1, Below w3.heap.size w3 w1 → NodeIs w1 w3.heap.size (nodeArr 7 nilP nilP nilP nilP nilP nilS nilS nilS) → Calls Tryz.prog 40 #[ptr x.M, ptr w3.heap.size, .slice (some ⟨x.g, x.off + s, none⟩) a (x.cap - s)] w1 fun e w' => e = .returned (.tuple #[]) ∧ Took w (a + 1) (some (G.one 7 none none none (outG (x.sub s a).D sg 0 0))) (.returned (.tuple #[.int .i64 ((a + 1 : Nat) : Int), ptr w3.heap.size])) w' := fun w3 hb3 w1 hb hn => by
    have hi1 := ((hi.below hb3).below hb).sub (s := s) (a := a) (by omega)
    have := inline40 (x.sub s a) w3.heap.size 7 nilP nilP nilP nilS nilS nilS k ins sg w1 hk ⟨hn, trivial⟩ hi1 hs (by rw [hsl]; exact ha) (by
      rw [hsl, sub_get (by omega), show s + (a - 1) = s + a - 1 by omega]; exact h3.2.2)
    unfold Ctx.val at this
    rw [hsl] at this
    refine this.mono ?_
    rintro e w' ⟨rfl, f, q1, q2, q3, q4, q5⟩
    obtain ⟨r1, d, kf, r2, r3, r4, r5⟩ := made_kids rfl hb hn.lt q1 q2 q3 q4 q5
    exact ⟨rfl, hb3.trans (r1.mono hb3.size), _, rfl, d, kf, r2, r3, fun b hb => Nat.le_trans hb3.size (r4 b hb), r5⟩
  have ci := ci2 w (Below.refl _ w)
  obtain ⟨R, hR⟩ : ∃ R, R = G.one 7 none none none (outG (x.sub s a).D sg 0 0) := ⟨_, rfl⟩
  rw [← hR] at ci ⊢
  simp only [← hR] at ci2
  clear hR
  have CI2 := Lib.hid ci2
  clear ci2
  obtain ⟨n, hn⟩ : ∃ n, n = x.D.length := ⟨_, rfl⟩
  rw [← hn] at hlen hcap h4 cf ⊢
  have hc : ∀ j, s + j < n → w.cell? ⟨x.g, x.off + s + j, none⟩ = some (.int .u8 (x.D.getD (s + j) 0).toNat) := fun j hj => by
    rw [Nat.add_assoc]
    exact hi.byte (by omega)
  have c0 : w.cell? ⟨x.g, x.off + s, none⟩ = some (.int .u8 (x.D.getD (s + 0) 0).toNat) := hc 0 (by omega)
  have c1 := hc 1 (by omega)
  have cl : w.cell? ⟨x.g, x.off + s + (a - 1), none⟩ = some (.int .u8 (x.D.getD (s + a - 1) 0).toNat) := by
    have := hc (a - 1) (by omega)
    rw [show s + (a - 1) = s + a - 1 by omega] at this
    exact this
  have ca := hc a (by omega)
  rw [h2] at ca
  obtain ⟨y0, hy0⟩ : ∃ y, y = x.D.getD (s + 0) 0 := ⟨_, rfl⟩
  obtain ⟨y1, hy1⟩ : ∃ y, y = x.D.getD (s + 1) 0 := ⟨_, rfl⟩
  obtain ⟨z, hz⟩ : ∃ z, z = x.D.getD (s + a - 1) 0 := ⟨_, rfl⟩
  have b0 : ((y0.toNat : Int) == (c.toNat : Int)) = false := beq_no (by rw [hy0]; exact (h1 0 ha).1)
  rw [← hy0] at c0
  rw [← hy1] at c1
  rw [← hz] at cl h3
  have ez : (a : Int) - 1 = ((a - 1 : Nat) : Int) := by omega
  have ba0 : ((a : Int) == 0) = false := by rw [beq_eq_false_iff_ne]; omega
  have CS := Lib.hid (fun w => sp59 z w)
  rw [h3.2.1] at CS
  have bcc : ((c.toNat : Int) == (c.toNat : Int)) = true := by simp
  have CF := Lib.hid cf
  have CI := Lib.hid ci
  have CN := Lib.hid (fun w => new39 7 w)
  have h4' : s + a + 1 < n → ∃ v : UInt8, w.cell? ⟨x.g, x.off + s + (a + 1), none⟩ = some (.int .u8 v.toNat) ∧ ((v.toNat : Int) == (c.toNat : Int)) = false ∧ endOk v := fun h => ⟨_, hc (a + 1) (by omega), beq_no (h4 h).1, (h4 h).2⟩
  have H4 := Lib.hid h4'
  clear h1 h2 h3 h4 h4' hc hi hs hsl cf ci hy0 hy1 hz hn hx
  have tok : True := trivial
  have hd1 : decide (0 < n - s) = true := decide_eq_true (by omega)
  by_cases hend : s + a + 1 < n
  · obtain ⟨v, cv, bv, hv⟩ := H4.out hend
    have beq1 : ((a : Int) + 1 == ((n - s : Nat) : Int)) = false := by rw [beq_eq_false_iff_ne]; omega
    have CV := Lib.hid (fun w => sp59 v w)
    rcases hu2 with rfl | rfl
    · have hu3 : bits .and .i64 (x.ext : Int) 2 = 0 := hu.symm
      clear hu hv
      go_enter Tryz.func60, Tryz.ntmps60
      go_wp2
      go_loopg [8] 1 (fun q v8 wr => v8 = .int .i64 0 ∧ w = wr)
      case atStart => exact ⟨rfl, rfl⟩
      case round =>
        obtain ⟨rfl, rfl⟩ := hrel
        go_wp2_with (first
          | (clear tok; go_at_call 59; refine (CS.out _).mono ?_; rintro r w' ⟨rfl, rfl⟩)
          | (go_at_call 85; refine CF.out.mono ?_; rintro r w' ⟨rfl, rfl⟩)
          | (go_at_call 39; refine (CN.out _).mono ?_; rintro r w1 ⟨rfl, hn1, hb1, -⟩; have HN1 := Lib.hid hn1; have HB1 := Lib.hid hb1; clear hn1 hb1)
          | (go_at_call 40; refine (CI.out _ HB1.out HN1.out).mono ?_; rintro r w2 ⟨rfl, ht⟩; have HT := Lib.hid ht; clear ht))
        go_ret2
        exact HT.out
    · have hu3 : bits .and .i64 (x.ext : Int) 2 = 2 := hu.symm
      clear hu
      cases hsv : isSp v with
      | true =>
        rw [hsv] at CV
        clear hv hsv
        go_enter Tryz.func60, Tryz.ntmps60
        go_wp2
        go_loopg [8] 1 (fun q v8 wr => v8 = .int .i64 0 ∧ w = wr)
        case atStart => exact ⟨rfl, rfl⟩
        case round =>
          obtain ⟨rfl, rfl⟩ := hrel
          go_wp2_with (first
            | (clear tok; go_at_call 59; refine (CS.out _).mono ?_; rintro r w' ⟨rfl, rfl⟩)
            | (go_at_call 85; refine CF.out.mono ?_; rintro r w' ⟨rfl, rfl⟩)
            | (go_at_call 39; refine (CN.out _).mono ?_; rintro r w1 ⟨rfl, hn1, hb1, -⟩; have HN1 := Lib.hid hn1; have HB1 := Lib.hid hb1; clear hn1 hb1)
            | (go_at_call 59; refine (CV.out _).mono ?_; rintro r w' ⟨rfl, rfl⟩)
            | (go_at_call 40; refine (CI.out _ HB1.out HN1.out).mono ?_; rintro r w2 ⟨rfl, ht⟩; have HT := Lib.hid ht; clear ht))
          go_ret2
          exact HT.out
      | false =>
        rw [hsv] at CV
        have hv92 : v = 92 := by
          rcases hv with hv | hv
          · rw [hsv] at hv; cases hv
          · exact hv
        have CP : Hid (∀ w, Calls Tryz.prog 86 #[.int .u8 v.toNat] w fun e w' => e = .returned (.bool true) ∧ Below w.heap.size w w') := fun w => by
          have := punct86 v w
          rw [hv92, show memF 92 pL = true by decide] at this
          rw [hv92]
          exact this
        have C40 : Hid (∀ w3, Below w.heap.size w w3 → ∀ w1, Below w3.heap.size w3 w1 → NodeIs w1 w3.heap.size (nodeArr 7 nilP nilP nilP nilP nilP nilS nilS nilS) → Calls Tryz.prog 40 #[ptr x.M, ptr w3.heap.size, .slice (some ⟨x.g, x.off + s, none⟩) a (x.cap - s)] w1 fun e w' => e = .returned (.tuple #[]) ∧ Took w (a + 1) (some R) (.returned (.tuple #[.int .i64 ((a + 1 : Nat) : Int), ptr w3.heap.size])) w') := CI2.out
        clear hv hsv hv92
        go_enter Tryz.func60, Tryz.ntmps60
        go_wp2
        go_loopg [8] 1 (fun q v8 wr => v8 = .int .i64 0 ∧ w = wr)
        case atStart => exact ⟨rfl, rfl⟩
        case round =>
          obtain ⟨rfl, rfl⟩ := hrel
          go_wp2_with (first
            | (clear tok; go_at_call 59; refine (CS.out _).mono ?_; rintro r w' ⟨rfl, rfl⟩)
            | (go_at_call 85; refine CF.out.mono ?_; rintro r w' ⟨rfl, rfl⟩)
            | (go_at_call 39; refine (CN.out _).mono ?_; rintro r w1 ⟨rfl, hn1, hb1, -⟩; have HN1 := Lib.hid hn1; have HB1 := Lib.hid hb1; clear hn1 hb1)
            | (go_at_call 59; refine (CV.out _).mono ?_; rintro r w' ⟨rfl, rfl⟩)
            | (go_at_call 86; refine (CP.out _).mono ?_; rintro r w3 ⟨rfl, hb3⟩; have HB3 := Lib.hid hb3; clear hb3)
            | (go_at_call 40; refine (C40.out _ HB3.out _ HB1.out HN1.out).mono ?_; rintro r w2 ⟨rfl, ht⟩; have HT := Lib.hid ht; clear ht))
          go_ret2
          exact HT.out
  · have beq1 : ((a : Int) + 1 == ((n - s : Nat) : Int)) = true := by rw [beq_iff_eq]; omega
    rcases hu2 with rfl | rfl
    · have hu3 : bits .and .i64 (x.ext : Int) 2 = 0 := hu.symm
      clear hu
      go_enter Tryz.func60, Tryz.ntmps60
      go_wp2
      go_loopg [8] 1 (fun q v8 wr => v8 = .int .i64 0 ∧ w = wr)
      case atStart => exact ⟨rfl, rfl⟩
      case round =>
        obtain ⟨rfl, rfl⟩ := hrel
        go_wp2_with (first
          | (clear tok; go_at_call 59; refine (CS.out _).mono ?_; rintro r w' ⟨rfl, rfl⟩)
          | (go_at_call 85; refine CF.out.mono ?_; rintro r w' ⟨rfl, rfl⟩)
          | (go_at_call 39; refine (CN.out _).mono ?_; rintro r w1 ⟨rfl, hn1, hb1, -⟩; have HN1 := Lib.hid hn1; have HB1 := Lib.hid hb1; clear hn1 hb1)
          | (go_at_call 40; refine (CI.out _ HB1.out HN1.out).mono ?_; rintro r w2 ⟨rfl, ht⟩; have HT := Lib.hid ht; clear ht))
        go_ret2
        exact HT.out
    · have hu3 : bits .and .i64 (x.ext : Int) 2 = 2 := hu.symm
      clear hu
      go_enter Tryz.func60, Tryz.ntmps60
      go_wp2
      go_loopg [8] 1 (fun q v8 wr => v8 = .int .i64 0 ∧ w = wr)
      case atStart => exact ⟨rfl, rfl⟩
      case round =>
        obtain ⟨rfl, rfl⟩ := hrel
        go_wp2_with (first
          | (clear tok; go_at_call 59; refine (CS.out _).mono ?_; rintro r w' ⟨rfl, rfl⟩)
          | (go_at_call 85; refine CF.out.mono ?_; rintro r w' ⟨rfl, rfl⟩)
          | (go_at_call 39; refine (CN.out _).mono ?_; rintro r w1 ⟨rfl, hn1, hb1, -⟩; have HN1 := Lib.hid hn1; have HB1 := Lib.hid hb1; clear hn1 hb1)
          | (go_at_call 40; refine (CI.out _ HB1.out HN1.out).mono ?_; rintro r w2 ⟨rfl, ht⟩; have HT := Lib.hid ht; clear ht))
        go_ret2
        exact HT.out
end Go.Proofs.YtalajbfpilhfgaaGreatDoor
