/-
  FnInlineAlone: callbacks: emphasis, doubled and tripled.
  FnInlineAlone: callbacks: emphasis.
-/
import Derived.Test.YtalajbfpilhfgaaGreatDoorK05
set_option linter.unusedVariables false
set_option linter.unusedSimpArgs false
namespace Go.Proofs.YtalajbfpilhfgaaGreatDoor
open Go.RowKit

/-- The inline parser over a part of a text, below a node that has just been made. -/
theorem inner40 (x : Ctx) (k : Nat) (ins : Bool) (s a : Nat) (sg : List Seg) (ty : Int) (hk : k < 16) (ha : 0 < a) (hlen : s + a ≤ x.D.length) (hl : x.D.getD (s + a - 1) 0 ≠ 10) (hs : SegsOk (x.sub s a) (k + 1) ins sg 0) (w : World) (hi : x.inv k ins w) :
    ∀ w3, Below w.heap.size w w3 → ∀ w1, Below w3.heap.size w3 w1 → NodeIs w1 w3.heap.size (nodeArr ty nilP nilP nilP nilP nilP nilS nilS nilS) → Calls Tryz.prog 40 #[ptr x.M, ptr w3.heap.size, .slice (some ⟨x.g, x.off + s, none⟩) a (x.cap - s)] w1 fun e w' => e = .returned (.tuple #[]) ∧ Below w.heap.size w w' ∧ Made w (G.one ty none none none (outG (x.sub s a).D sg 0 0)) w3.heap.size w' := fun w3 hb3 w1 hb hn => by
  have hsl := sub_len (x := x) (s := s) (a := a) hlen
  have hi1 := ((hi.below hb3).below hb).sub (s := s) (a := a) hlen
  have := inline40 (x.sub s a) w3.heap.size ty nilP nilP nilP nilS nilS nilS k ins sg w1 hk ⟨hn, trivial⟩ hi1 hs (by rw [hsl]; exact ha) (by
    rw [hsl, sub_get (by omega), show s + (a - 1) = s + a - 1 by omega]; exact hl)
  unfold Ctx.val at this
  rw [hsl] at this
  refine this.mono ?_
  rintro e w' ⟨rfl, f, q1, q2, q3, q4, q5⟩
  obtain ⟨r1, d, kf, r2, r3, r4, r5⟩ := made_kids rfl hb hn.lt q1 q2 q3 q4 q5
  exact ⟨rfl, hb3.trans (r1.mono hb3.size), d, kf, r2, r3, fun b hb => Nat.le_trans hb3.size (r4 b hb), r5⟩

set_option maxRecDepth 100000 in
set_option maxHeartbeats 8000000 in
theorem dbl61 (x : Ctx) (k : Nat) (ins : Bool) (s a : Nat) (c : UInt8) (ty : Int) (hty : ty = if c = 126 then 9 else 8) (sg : List Seg) (hk : k < 16) (ha : 0 < a) (hlen : s + a + 1 < x.D.length) (h1 : ∀ j, j < a → x.D.getD (s + j) 0 ≠ c ∧ x.D.getD (s + j) 0 ≠ 96 ∧ x.D.getD (s + j) 0 ≠ 91)
    (h2 : x.D.getD (s + a) 0 = c) (h2' : x.D.getD (s + a + 1) 0 = c) (h3 : x.D.getD (s + a - 1) 0 ≠ 92 ∧ isSp (x.D.getD (s + a - 1) 0) = false ∧ x.D.getD (s + a - 1) 0 ≠ 10) (hs : SegsOk (x.sub s a) (k + 1) ins sg 0) (w : World) (hi : x.inv k ins w) :
    Calls Tryz.prog 61 #[ptr x.M, .slice (some ⟨x.g, x.off + s, none⟩) (x.D.length - s) (x.cap - s), .int .u8 c.toNat] w (Took w (a + 2) (some (G.one ty none none none (outG (x.sub s a).D sg 0 0)))) := by
  have hcap := hi.2.2.2.1
  have hcap2 := hi.2.2.2.2
  have cf := find85 x k ins s a c (by omega) ha h1 h2 h3.1 w hi
  have ci := inner40 x k ins s a sg ty hk ha (by omega) h3.2.2 hs w hi w (Below.refl _ _)
  obtain ⟨R, hR⟩ : ∃ R, R = G.one ty none none none (outG (x.sub s a).D sg 0 0) := ⟨_, rfl⟩
  rw [← hR] at ci ⊢
  clear hR
  obtain ⟨n, hn⟩ : ∃ n, n = x.D.length := ⟨_, rfl⟩
  rw [← hn] at hlen hcap cf ⊢
  have hc : ∀ j, s + j < n → w.cell? ⟨x.g, x.off + s + j, none⟩ = some (.int .u8 (x.D.getD (s + j) 0).toNat) := fun j hj => by
    rw [Nat.add_assoc]
    exact hi.byte (by omega)
  have cl : w.cell? ⟨x.g, x.off + s + (a - 1), none⟩ = some (.int .u8 (x.D.getD (s + a - 1) 0).toNat) := by
    have := hc (a - 1) (by omega)
    rw [show s + (a - 1) = s + a - 1 by omega] at this
    exact this
  have ca := hc a (by omega)
  rw [h2] at ca
  have cb := hc (a + 1) (by omega)
  rw [← Nat.add_assoc s a 1, h2'] at cb
  obtain ⟨z, hz⟩ : ∃ z, z = x.D.getD (s + a - 1) 0 := ⟨_, rfl⟩
  rw [← hz] at cl h3
  have ez : (a : Int) - 1 = ((a - 1 : Nat) : Int) := by omega
  have ba0 : ((a : Int) == 0) = false := by rw [beq_eq_false_iff_ne]; omega
  have CS := Lib.hid (fun w => sp59 z w)
  rw [h3.2.1] at CS
  have bcc : ((c.toNat : Int) == (c.toNat : Int)) = true := by simp
  have CF := Lib.hid cf
  have CI := Lib.hid ci
  have CN := Lib.hid (fun w => new39 ty w)
  have hd1 : decide (0 < n - s) = true := decide_eq_true (by omega)
  have had : 0 < (a : Int) := by omega
  clear h1 h2 h2' h3 hc hi hs cf ci hz hn
  by_cases hc126 : c = 126
  · have b126 : ((c.toNat : Int) == 126) = true := beq_yes (k := 126) hc126
    rw [if_pos hc126] at hty
    subst hty
    clear hc126
    go_enter Tryz.func61, Tryz.ntmps61
    go_wp2
    go_loopg [8] 1 (fun q v8 wr => v8 = .int .i64 0 ∧ w = wr)
    case atStart => exact ⟨rfl, rfl⟩
    case round =>
      obtain ⟨rfl, rfl⟩ := hrel
      go_wp2_with (first
        | (go_at_call 59; refine (CS.out _).mono ?_; rintro r w' ⟨rfl, rfl⟩)
        | (go_at_call 85; refine CF.out.mono ?_; rintro r w' ⟨rfl, rfl⟩)
        | (go_at_call 39; refine (CN.out _).mono ?_; rintro r w1 ⟨rfl, hn1, hb1, -⟩; have HN1 := Lib.hid hn1; have HB1 := Lib.hid hb1; clear hn1 hb1)
        | (go_at_call 40; refine (CI.out _ HB1.out HN1.out).mono ?_; rintro r w2 ⟨rfl, ht1, ht2⟩; have HT1 := Lib.hid ht1; have HT2 := Lib.hid ht2; clear ht1 ht2))
      go_ret2
      exact ⟨HT1.out, _, rfl, HT2.out⟩
  · have b126 : ((c.toNat : Int) == 126) = false := beq_no (k := 126) hc126
    rw [if_neg hc126] at hty
    subst hty
    clear hc126
    go_enter Tryz.func61, Tryz.ntmps61
    go_wp2
    go_loopg [8] 1 (fun q v8 wr => v8 = .int .i64 0 ∧ w = wr)
    case atStart => exact ⟨rfl, rfl⟩
    case round =>
      obtain ⟨rfl, rfl⟩ := hrel
      go_wp2_with (first
        | (go_at_call 59; refine (CS.out _).mono ?_; rintro r w' ⟨rfl, rfl⟩)
        | (go_at_call 85; refine CF.out.mono ?_; rintro r w' ⟨rfl, rfl⟩)
        | (go_at_call 39; refine (CN.out _).mono ?_; rintro r w1 ⟨rfl, hn1, hb1, -⟩; have HN1 := Lib.hid hn1; have HB1 := Lib.hid hb1; clear hn1 hb1)
        | (go_at_call 40; refine (CI.out _ HB1.out HN1.out).mono ?_; rintro r w2 ⟨rfl, ht1, ht2⟩; have HT1 := Lib.hid ht1; have HT2 := Lib.hid ht2; clear ht1 ht2))
      go_ret2
      exact ⟨HT1.out, _, rfl, HT2.out⟩

/-- Strong, with emphasis in it. -/
theorem strong_emph (x : Ctx) (k : Nat) (ins : Bool) (s a : Nat) (sg : List Seg) (hk : k < 16) (ha : 0 < a) (hlen : s + a ≤ x.D.length) (hl : x.D.getD (s + a - 1) 0 ≠ 10) (hs : SegsOk (x.sub s a) (k + 1) ins sg 0) (w : World) (hi : x.inv k ins w) :
    ∀ w1 w2 w3, Below w.heap.size w w1 → w1.heap.size = w.heap.size + 1 → NodeIs w1 w.heap.size (nodeArr 8 nilP nilP nilP nilP nilP nilS nilS nilS) → Below w1.heap.size w1 w2 → NodeIs w2 w1.heap.size (nodeArr 7 nilP nilP nilP nilP nilP nilS nilS nilS) →
      SameBut [w.heap.size, w1.heap.size] w2 w3 → NodeIs w3 w.heap.size (nodeArr 8 nilP (ptr w1.heap.size) (ptr w1.heap.size) nilP nilP nilS nilS nilS) → NodeIs w3 w1.heap.size (nodeArr 7 (ptr w.heap.size) nilP nilP nilP nilP nilS nilS nilS) →
      Calls Tryz.prog 40 #[ptr x.M, ptr w1.heap.size, .slice (some ⟨x.g, x.off + s, none⟩) a (x.cap - s)] w3 fun e w' => e = .returned (.tuple #[]) ∧ Below w.heap.size w w' ∧ Made w (G.one 8 none none none (G.one 7 none none none (outG (x.sub s a).D sg 0 0))) w.heap.size w' := by
  intro w1 w2 w3 hb1 hz1 hn1 hb2 hn2 hsb hn3 hn4
  have hsl := sub_len (x := x) (s := s) (a := a) hlen
  have hb2' := hb1.trans (hb2.mono hb1.size)
  have hz2 := hn2.lt
  have hb3 : Below w.heap.size w w3 := ⟨hsb.1.trans hb2'.os, hsb.2.1.trans hb2'.tape, hsb.2.2.1.trans hb2'.output, by rw [hsb.2.2.2.1]; exact hb2'.size, fun i hi => (hsb.2.2.2.2 i (by simp; omega)).trans (hb2'.block i hi)⟩
  have hi3 := (hi.below hb3).sub (s := s) (a := a) hlen
  have := inline40 (x.sub s a) w1.heap.size 7 (ptr w.heap.size) nilP nilP nilS nilS nilS k ins sg w3 hk ⟨hn4, trivial⟩ hi3 hs (by rw [hsl]; exact ha) (by
    rw [hsl, sub_get (by omega), show s + (a - 1) = s + a - 1 by omega]; exact hl)
  unfold Ctx.val at this
  rw [hsl] at this
  refine this.mono ?_
  rintro e w' ⟨rfl, f, q1, q2, q3, q4, q5⟩
  have hz3 := hsb.2.2.2.1
  have hlt3 := hn3.lt
  refine ⟨rfl, ⟨q3.os.trans hb3.os, q3.tape.trans hb3.tape, q3.output.trans hb3.output, Nat.le_trans hb3.size q3.size, fun i hi => (q3.block i (by have := hb3.size; omega) (by simp; omega)).trans (hb3.block i hi)⟩, ⟨8, nilS, none, nilS, none, nilS, none⟩, F.one w1.heap.size ⟨7, nilS, none, nilS, none, nilS, none⟩ f, ⟨?_, ⟨rfl, rfl, rfl⟩, ⟨_, _, q1.1⟩, ⟨rfl, rfl, rfl⟩, q1.2, trivial⟩, ?_, ?_, ?_⟩
  · exact hn3.same (q3.block _ hlt3 (by simp; omega))
  · simp only [F.one, F.blocks, List.append_nil, List.nodup_cons, List.mem_cons, not_or]
    refine ⟨⟨by omega, fun hm => ?_⟩, fun hm => ?_, q5⟩
    · have := q4 _ hm; omega
    · have := q4 _ hm; omega
  · intro b hb
    simp only [F.one, F.blocks, List.append_nil, List.mem_cons] at hb
    rcases hb with rfl | rfl | hb
    · exact Nat.le_refl _
    · omega
    · have := q4 b hb; have := hb3.size; omega
  · show G.cons 8 none none none (G.cons 7 none none none f.abs .nil) .nil = _
    rw [q2]; rfl

set_option maxRecDepth 100000 in
set_option maxHeartbeats 8000000 in
theorem tri62 (x : Ctx) (k : Nat) (ins : Bool) (s a : Nat) (c : UInt8) (sg : List Seg) (hk : k < 16) (ha : 0 < a) (hlen : s + 3 + a + 2 < x.D.length) (h1 : ∀ j, j < a → x.D.getD (s + 3 + j) 0 ≠ c ∧ x.D.getD (s + 3 + j) 0 ≠ 96 ∧ x.D.getD (s + 3 + j) 0 ≠ 91)
    (h2 : ∀ j, j < 3 → x.D.getD (s + 3 + a + j) 0 = c) (h3 : x.D.getD (s + 3 + a - 1) 0 ≠ 92 ∧ isSp (x.D.getD (s + 3 + a - 1) 0) = false ∧ x.D.getD (s + 3 + a - 1) 0 ≠ 10) (hs : SegsOk (x.sub (s + 3) a) (k + 1) ins sg 0) (w : World) (hi : x.inv k ins w) :
    Calls Tryz.prog 62 #[ptr x.M, .slice (some ⟨x.g, x.off + s, none⟩) (x.D.length - s) (x.cap - s), .int .i64 3, .int .u8 c.toNat] w (Took w (a + 3) (some (G.one 8 none none none (G.one 7 none none none (outG (x.sub (s + 3) a).D sg 0 0))))) := by
  have hcap := hi.2.2.2.1
  have hcap2 := hi.2.2.2.2
  have cf := find85 x k ins (s + 3) a c (by omega) ha h1 (h2 0 (by omega)) h3.1 w hi
  have ci := strong_emph x k ins (s + 3) a sg hk ha (by omega) h3.2.2 hs w hi
  obtain ⟨R, hR⟩ : ∃ R, R = G.one 8 none none none (G.one 7 none none none (outG (x.sub (s + 3) a).D sg 0 0)) := ⟨_, rfl⟩
  rw [← hR] at ci ⊢
  clear hR
  obtain ⟨n, hn⟩ : ∃ n, n = x.D.length := ⟨_, rfl⟩
  rw [← hn] at hlen hcap cf ⊢
  have hc : ∀ j, s + 3 + j < n → w.cell? ⟨x.g, x.off + s + 3 + j, none⟩ = some (.int .u8 (x.D.getD (s + 3 + j) 0).toNat) := fun j hj => by
    rw [Nat.add_assoc x.off s 3, Nat.add_assoc]
    exact hi.byte (by omega)
  have cl : w.cell? ⟨x.g, x.off + s + 3 + (a - 1), none⟩ = some (.int .u8 (x.D.getD (s + 3 + a - 1) 0).toNat) := by
    have := hc (a - 1) (by omega)
    rw [show s + 3 + (a - 1) = s + 3 + a - 1 by omega] at this
    exact this
  have ca := hc a (by omega)
  rw [show x.D.getD (s + 3 + a) 0 = c from h2 0 (by omega)] at ca
  have cb := hc (a + 1) (by omega)
  rw [← Nat.add_assoc (s + 3) a 1, h2 1 (by omega)] at cb
  have cc := hc (a + 2) (by omega)
  rw [← Nat.add_assoc (s + 3) a 2, h2 2 (by omega)] at cc
  obtain ⟨z, hz⟩ : ∃ z, z = x.D.getD (s + 3 + a - 1) 0 := ⟨_, rfl⟩
  rw [← hz] at cl h3
  have ez : (a : Int) - 1 = ((a - 1 : Nat) : Int) := by omega
  have ba0 : ((a : Int) == 0) = false := by rw [beq_eq_false_iff_ne]; omega
  have CS := Lib.hid (fun w => sp59 z w)
  rw [h3.2.1] at CS
  have bcc : ((c.toNat : Int) == (c.toNat : Int)) = true := by simp
  have bcn : ((c.toNat : Int) != (c.toNat : Int)) = false := by simp
  have CF : Hid (Calls Tryz.prog 85 #[.slice (some ⟨x.g, x.off + s + 3, none⟩) (n - s - 3) (x.cap - s - 3), .int .u8 c.toNat] w fun e w' => e = .returned (.int .i64 (a : Nat)) ∧ w = w') := cf
  have CI : Hid (∀ w1 w2 w3, Below w.heap.size w w1 → w1.heap.size = w.heap.size + 1 → NodeIs w1 w.heap.size (nodeArr 8 nilP nilP nilP nilP nilP nilS nilS nilS) → Below w1.heap.size w1 w2 → NodeIs w2 w1.heap.size (nodeArr 7 nilP nilP nilP nilP nilP nilS nilS nilS) →
      SameBut [w.heap.size, w1.heap.size] w2 w3 → NodeIs w3 w.heap.size (nodeArr 8 nilP (ptr w1.heap.size) (ptr w1.heap.size) nilP nilP nilS nilS nilS) → NodeIs w3 w1.heap.size (nodeArr 7 (ptr w.heap.size) nilP nilP nilP nilP nilS nilS nilS) →
      Calls Tryz.prog 40 #[ptr x.M, ptr w1.heap.size, .slice (some ⟨x.g, x.off + s + 3, none⟩) a (x.cap - s - 3)] w3 fun e w' => e = .returned (.tuple #[]) ∧ Below w.heap.size w w' ∧ Made w R w.heap.size w') := ci
  have CN8 := Lib.hid (fun w => new39 8 w)
  have CN7 := Lib.hid (fun w => new39 7 w)
  have hd1 : decide (0 < n - s - 3) = true := decide_eq_true (by omega)
  have had : 0 < (a : Int) := by omega
  have tok : True := trivial
  clear h1 h2 h3 hc hi hs cf ci hz hn
  go_enter Tryz.func62, Tryz.ntmps62
  go_wp2
  go_loopg [10] 1 (fun q v8 wr => v8 = .int .i64 0 ∧ w = wr)
  case atStart => exact ⟨rfl, rfl⟩
  case round =>
    obtain ⟨rfl, rfl⟩ := hrel
    go_wp2_with (first
      | (go_at_call 59; refine (CS.out _).mono ?_; rintro r w' ⟨rfl, rfl⟩)
      | (go_at_call 85; refine CF.out.mono ?_; rintro r w' ⟨rfl, rfl⟩)
      | (clear tok; go_at_call 39; refine (CN8.out _).mono ?_; rintro r w1 ⟨rfl, hn1, hb1, hz1⟩; have HN1 := Lib.hid hn1; have HB1 := Lib.hid hb1; have HZ1 := Lib.hid hz1; clear hn1 hb1 hz1)
      | (go_at_call 39; refine (CN7.out _).mono ?_; rintro r w2 ⟨rfl, hn2, hb2, -⟩; have HN2 := Lib.hid hn2; have HB2 := Lib.hid hb2; clear hn2 hb2)
      | (go_at_call 44; refine (append_first w.heap.size w1.heap.size 8 nilP nilP nilP nilS nilS nilS 7 nilP nilP nilS nilS nilS w2 (by have := HZ1.out; omega) (HN1.out.below HB2.out) HN2.out).mono ?_; rintro r w3 ⟨rfl, hsb, hn3, hn4⟩; have HSB := Lib.hid hsb; have HN3 := Lib.hid hn3; have HN4 := Lib.hid hn4; clear hsb hn3 hn4)
      | (go_at_call 40; refine (CI.out _ _ _ HB1.out HZ1.out HN1.out HB2.out HN2.out HSB.out HN3.out HN4.out).mono ?_; rintro r w4 ⟨rfl, ht1, ht2⟩; have HT1 := Lib.hid ht1; have HT2 := Lib.hid ht2; clear ht1 ht2))
    go_ret2
    exact ⟨HT1.out, _, rfl, HT2.out⟩

set_option maxRecDepth 100000 in
set_option maxHeartbeats 4000000 in
theorem em_quiet1 (x : Ctx) (k : Nat) (ins : Bool) (e : Nat) (c : UInt8) (h0 : x.D.getD e 0 = c) (hc : c ≠ 32) (he : e < x.D.length) (h1 : e + 1 < x.D.length → x.D.getD (e + 1) 0 = 32) (w : World) (hi : x.inv k ins w) :
    Calls Tryz.prog 47 #[ptr x.M, x.val, .int .i64 e] w fun r w' => (∃ v, r = .returned (.tuple #[.int .i64 0, v])) ∧ Below w.heap.size w w' := by
  have hcap := hi.2.2.2.1
  have hcap2 := hi.2.2.2.2
  have c0 := hi.byte he
  rw [h0] at c0
  unfold Ctx.val
  obtain ⟨n, hn⟩ : ∃ n, n = x.D.length := ⟨_, rfl⟩
  rw [← hn] at he h1 hcap ⊢
  have b1 : ((32 : Int) != (c.toNat : Int)) = true := by
    rw [bne_iff_ne]
    intro h
    exact hc (UInt8.toNat_inj.mp (by show c.toNat = 32; omega))
  have CS : Hid (∀ w, Calls Tryz.prog 59 #[.int .u8 32] w fun e w' => e = .returned (.bool true) ∧ w = w') := fun w => sp59 32 w
  have hd0 : decide (0 < n - e) = true := decide_eq_true (by omega)
  by_cases h2 : e + 1 < n
  · have c1 := hi.byte (j := e + 1) (by omega)
    rw [h1 h2, ← Nat.add_assoc] at c1
    have cc1 : w.cell? ⟨x.g, x.off + e + 1, none⟩ = some (.int .u8 32) := c1
    clear hi hn h1 h0 hc c1
    by_cases h3 : e + 2 < n
    · go_enter Tryz.func47, Tryz.ntmps47
      by_cases h126 : c = 126
      · have b126 : ((c.toNat : Int) == 126) = true := beq_yes (k := 126) h126
        clear h126
        go_wp2_with (go_at_call 59; refine (CS.out _).mono ?_; rintro r w' ⟨rfl, rfl⟩)
        go_ret2
        exact ⟨⟨_, rfl⟩, Below.refl _ _⟩
      · have b126 : ((c.toNat : Int) == 126) = false := beq_no (k := 126) h126
        clear h126
        go_wp2_with (go_at_call 59; refine (CS.out _).mono ?_; rintro r w' ⟨rfl, rfl⟩)
        go_ret2
        exact ⟨⟨_, rfl⟩, Below.refl _ _⟩
    · go_enter Tryz.func47, Tryz.ntmps47
      go_wp2
      go_ret2
      exact ⟨⟨_, rfl⟩, Below.refl _ _⟩
  · clear hi hn h1 h0 hc
    go_enter Tryz.func47, Tryz.ntmps47
    go_wp2
    go_ret2
    exact ⟨⟨_, rfl⟩, Below.refl _ _⟩

set_option maxRecDepth 100000 in
set_option maxHeartbeats 4000000 in
theorem em_quiet2 (x : Ctx) (k : Nat) (ins : Bool) (e : Nat) (c : UInt8) (h0 : x.D.getD e 0 = c) (hc : c ≠ 32) (he : e + 1 < x.D.length) (h1 : x.D.getD (e + 1) 0 = c) (h2 : e + 2 < x.D.length → x.D.getD (e + 2) 0 = 32) (w : World) (hi : x.inv k ins w) :
    Calls Tryz.prog 47 #[ptr x.M, x.val, .int .i64 e] w fun r w' => (∃ v, r = .returned (.tuple #[.int .i64 0, v])) ∧ Below w.heap.size w w' := by
  have hcap := hi.2.2.2.1
  have hcap2 := hi.2.2.2.2
  have c0 := hi.byte (j := e) (by omega)
  rw [h0] at c0
  have c1 := hi.byte he
  rw [h1, ← Nat.add_assoc] at c1
  unfold Ctx.val
  obtain ⟨n, hn⟩ : ∃ n, n = x.D.length := ⟨_, rfl⟩
  rw [← hn] at he h2 hcap ⊢
  have b1 : ((c.toNat : Int) != (c.toNat : Int)) = false := by simp
  have b1' : ((c.toNat : Int) == (c.toNat : Int)) = true := by simp
  have b2 : ((32 : Int) != (c.toNat : Int)) = true := by
    rw [bne_iff_ne]
    intro h
    exact hc (UInt8.toNat_inj.mp (by show c.toNat = 32; omega))
  have b2' : ((32 : Int) == (c.toNat : Int)) = false := by
    rw [beq_eq_false_iff_ne]
    intro h
    exact hc (UInt8.toNat_inj.mp (by show c.toNat = 32; omega))
  have CS : Hid (∀ w, Calls Tryz.prog 59 #[.int .u8 32] w fun e w' => e = .returned (.bool true) ∧ w = w') := fun w => sp59 32 w
  have hd0 : decide (0 < n - e) = true := decide_eq_true (by omega)
  by_cases h3 : e + 2 < n
  · have c2 := hi.byte (j := e + 2) (by omega)
    rw [h2 h3, ← Nat.add_assoc] at c2
    have cc2 : w.cell? ⟨x.g, x.off + e + 2, none⟩ = some (.int .u8 32) := c2
    clear hi hn h1 h0 hc c2 h2
    by_cases h4 : e + 3 < n
    · go_enter Tryz.func47, Tryz.ntmps47
      go_wp2_with (go_at_call 59; refine (CS.out _).mono ?_; rintro r w' ⟨rfl, rfl⟩)
      go_ret2
      exact ⟨⟨_, rfl⟩, Below.refl _ _⟩
    · go_enter Tryz.func47, Tryz.ntmps47
      go_wp2
      go_ret2
      exact ⟨⟨_, rfl⟩, Below.refl _ _⟩
  · clear hi hn h1 h0 hc h2
    go_enter Tryz.func47, Tryz.ntmps47
    go_wp2
    go_ret2
    exact ⟨⟨_, rfl⟩, Below.refl _ _⟩

set_option maxRecDepth 100000 in
set_option maxHeartbeats 4000000 in
theorem em1_takes (x : Ctx) (k : Nat) (ins : Bool) (e a : Nat) (c : UInt8) (sg : List Seg) (hcb : cbN x.ext c = some 47) (hc126 : c ≠ 126) (h0 : x.D.getD e 0 = c) (hk : k < 16) (hx : x.ext ≤ 131070) (ha : 0 < a) (hlen : e + 1 + a < x.D.length)
    (h1 : ∀ j, j < a → x.D.getD (e + 1 + j) 0 ≠ c ∧ x.D.getD (e + 1 + j) 0 ≠ 96 ∧ x.D.getD (e + 1 + j) 0 ≠ 91) (hsp : isSp (x.D.getD (e + 1) 0) = false)
    (h2 : x.D.getD (e + 1 + a) 0 = c) (h3 : x.D.getD (e + 1 + a - 1) 0 ≠ 92 ∧ isSp (x.D.getD (e + 1 + a - 1) 0) = false ∧ x.D.getD (e + 1 + a - 1) 0 ≠ 10) (h4 : e + 1 + a + 1 < x.D.length → x.D.getD (e + 1 + a + 1) 0 ≠ c ∧ endOk (x.D.getD (e + 1 + a + 1) 0)) (hs : SegsOk (x.sub (e + 1) a) (k + 1) ins sg 0) :
    Takes x k ins e (a + 2) (some (G.one 7 none none none (outG (x.sub (e + 1) a).D sg 0 0))) := by
  refine ⟨47, by rw [h0]; exact hcb, fun w hi => ?_⟩
  have hcap := hi.2.2.2.1
  have hcap2 := hi.2.2.2.2
  have ce := emph60 x k ins (e + 1) a c sg hk hx ha hlen h1 h2 h3 h4 hs w hi
  have c0 := hi.byte (j := e) (by omega)
  rw [h0] at c0
  have c1 := hi.byte (j := e + 1) (by omega)
  rw [← Nat.add_assoc] at c1
  obtain ⟨R, hR⟩ : ∃ R, R = G.one 7 none none none (outG (x.sub (e + 1) a).D sg 0 0) := ⟨_, rfl⟩
  rw [← hR] at ce ⊢
  clear hR
  unfold Ctx.val
  obtain ⟨n, hn⟩ : ∃ n, n = x.D.length := ⟨_, rfl⟩
  rw [← hn] at hlen hcap ce ⊢
  obtain ⟨y, hy⟩ : ∃ y, y = x.D.getD (e + 1) 0 := ⟨_, rfl⟩
  rw [← hy] at c1 hsp
  have b1 : ((y.toNat : Int) != (c.toNat : Int)) = true := bne_no (by rw [hy]; exact (h1 0 ha).1)
  have b126 : ((c.toNat : Int) == 126) = false := beq_no (k := 126) hc126
  have CS := Lib.hid (fun w => sp59 y w)
  rw [hsp] at CS
  unfold Took at ce
  have CE : Hid (Calls Tryz.prog 60 #[ptr x.M, .slice (some ⟨x.g, x.off + e + 1, none⟩) (n - e - 1) (x.cap - e - 1), .int .u8 c.toNat] w fun r w' => Below w.heap.size w w' ∧ ∃ b, r = .returned (.tuple #[.int .i64 ((a + 1 : Nat) : Int), ptr b]) ∧ Made w R b w') := ce
  have hd0 : decide (0 < n - e) = true := decide_eq_true (by omega)
  clear ce h0 h1 h2 h3 h4 hs hsp hi hn hy hc126 hcb
  go_enter Tryz.func47, Tryz.ntmps47
  go_wp2_with (first
    | (go_at_call 59; refine (CS.out _).mono ?_; rintro r w' ⟨rfl, rfl⟩)
    | (go_at_call 60; refine CE.out.mono ?_; rintro r w' ⟨hb, b, rfl, hm⟩; have HB := Lib.hid hb; have HM := Lib.hid hm; clear hb hm))
  go_ret2
  exact ⟨HB.out, b, tup2 (by omega), HM.out⟩

set_option maxRecDepth 100000 in
set_option maxHeartbeats 4000000 in
theorem em2_takes (x : Ctx) (k : Nat) (ins : Bool) (e a : Nat) (c : UInt8) (ty : Int) (hty : ty = if c = 126 then 9 else 8) (sg : List Seg) (hcb : cbN x.ext c = some 47) (h0 : x.D.getD e 0 = c) (h0' : x.D.getD (e + 1) 0 = c) (hk : k < 16) (ha : 0 < a) (hlen : e + 2 + a + 1 < x.D.length)
    (h1 : ∀ j, j < a → x.D.getD (e + 2 + j) 0 ≠ c ∧ x.D.getD (e + 2 + j) 0 ≠ 96 ∧ x.D.getD (e + 2 + j) 0 ≠ 91) (hsp : isSp (x.D.getD (e + 2) 0) = false)
    (h2 : x.D.getD (e + 2 + a) 0 = c) (h2' : x.D.getD (e + 2 + a + 1) 0 = c) (h3 : x.D.getD (e + 2 + a - 1) 0 ≠ 92 ∧ isSp (x.D.getD (e + 2 + a - 1) 0) = false ∧ x.D.getD (e + 2 + a - 1) 0 ≠ 10) (hs : SegsOk (x.sub (e + 2) a) (k + 1) ins sg 0) :
    Takes x k ins e (a + 4) (some (G.one ty none none none (outG (x.sub (e + 2) a).D sg 0 0))) := by
  refine ⟨47, by rw [h0]; exact hcb, fun w hi => ?_⟩
  have hcap := hi.2.2.2.1
  have hcap2 := hi.2.2.2.2
  have ce := dbl61 x k ins (e + 2) a c ty hty sg hk ha hlen h1 h2 h2' h3 hs w hi
  have c0 := hi.byte (j := e) (by omega)
  rw [h0] at c0
  have c1 := hi.byte (j := e + 1) (by omega)
  rw [h0', ← Nat.add_assoc] at c1
  have c2 := hi.byte (j := e + 2) (by omega)
  rw [← Nat.add_assoc] at c2
  obtain ⟨R, hR⟩ : ∃ R, R = G.one ty none none none (outG (x.sub (e + 2) a).D sg 0 0) := ⟨_, rfl⟩
  rw [← hR] at ce ⊢
  clear hR
  unfold Ctx.val
  obtain ⟨n, hn⟩ : ∃ n, n = x.D.length := ⟨_, rfl⟩
  rw [← hn] at hlen hcap ce ⊢
  obtain ⟨y, hy⟩ : ∃ y, y = x.D.getD (e + 2) 0 := ⟨_, rfl⟩
  rw [← hy] at c2 hsp
  have b1 : ((y.toNat : Int) != (c.toNat : Int)) = true := bne_no (by rw [hy]; exact (h1 0 ha).1)
  have b1' : ((y.toNat : Int) == (c.toNat : Int)) = false := beq_no (by rw [hy]; exact (h1 0 ha).1)
  have bcc : ((c.toNat : Int) == (c.toNat : Int)) = true := by simp
  have bcn : ((c.toNat : Int) != (c.toNat : Int)) = false := by simp
  have CS := Lib.hid (fun w => sp59 y w)
  rw [hsp] at CS
  unfold Took at ce
  have CE : Hid (Calls Tryz.prog 61 #[ptr x.M, .slice (some ⟨x.g, x.off + e + 2, none⟩) (n - e - 2) (x.cap - e - 2), .int .u8 c.toNat] w fun r w' => Below w.heap.size w w' ∧ ∃ b, r = .returned (.tuple #[.int .i64 ((a + 2 : Nat) : Int), ptr b]) ∧ Made w R b w') := ce
  have hd0 : decide (0 < n - e) = true := decide_eq_true (by omega)
  clear ce h0 h0' h1 h2 h2' h3 hs hsp hi hn hy hcb hty
  go_enter Tryz.func47, Tryz.ntmps47
  go_wp2_with (first
    | (go_at_call 59; refine (CS.out _).mono ?_; rintro r w' ⟨rfl, rfl⟩)
    | (go_at_call 61; refine CE.out.mono ?_; rintro r w' ⟨hb, b, rfl, hm⟩; have HB := Lib.hid hb; have HM := Lib.hid hm; clear hb hm))
  go_ret2
  exact ⟨HB.out, b, tup2 (by omega), HM.out⟩

set_option maxRecDepth 100000 in
set_option maxHeartbeats 4000000 in
theorem em3_takes (x : Ctx) (k : Nat) (ins : Bool) (e a : Nat) (c : UInt8) (sg : List Seg) (hcb : cbN x.ext c = some 47) (hc126 : c ≠ 126) (h0 : ∀ j, j < 3 → x.D.getD (e + j) 0 = c) (hk : k < 16) (ha : 0 < a) (hlen : e + 3 + a + 2 < x.D.length)
    (h1 : ∀ j, j < a → x.D.getD (e + 3 + j) 0 ≠ c ∧ x.D.getD (e + 3 + j) 0 ≠ 96 ∧ x.D.getD (e + 3 + j) 0 ≠ 91) (hsp : isSp (x.D.getD (e + 3) 0) = false)
    (h2 : ∀ j, j < 3 → x.D.getD (e + 3 + a + j) 0 = c) (h3 : x.D.getD (e + 3 + a - 1) 0 ≠ 92 ∧ isSp (x.D.getD (e + 3 + a - 1) 0) = false ∧ x.D.getD (e + 3 + a - 1) 0 ≠ 10) (hs : SegsOk (x.sub (e + 3) a) (k + 1) ins sg 0) :
    Takes x k ins e (a + 6) (some (G.one 8 none none none (G.one 7 none none none (outG (x.sub (e + 3) a).D sg 0 0)))) := by
  refine ⟨47, by rw [show x.D.getD e 0 = c from h0 0 (by omega)]; exact hcb, fun w hi => ?_⟩
  have hcap := hi.2.2.2.1
  have hcap2 := hi.2.2.2.2
  have ce := tri62 x k ins e a c sg hk ha hlen h1 h2 h3 hs w hi
  have c0 := hi.byte (j := e) (by omega)
  rw [show x.D.getD e 0 = c from h0 0 (by omega)] at c0
  have c1 := hi.byte (j := e + 1) (by omega)
  rw [h0 1 (by omega), ← Nat.add_assoc] at c1
  have c2 := hi.byte (j := e + 2) (by omega)
  rw [h0 2 (by omega), ← Nat.add_assoc] at c2
  have c3 := hi.byte (j := e + 3) (by omega)
  rw [← Nat.add_assoc] at c3
  obtain ⟨R, hR⟩ : ∃ R, R = G.one 8 none none none (G.one 7 none none none (outG (x.sub (e + 3) a).D sg 0 0)) := ⟨_, rfl⟩
  rw [← hR] at ce ⊢
  clear hR
  unfold Ctx.val
  obtain ⟨n, hn⟩ : ∃ n, n = x.D.length := ⟨_, rfl⟩
  rw [← hn] at hlen hcap ce ⊢
  obtain ⟨y, hy⟩ : ∃ y, y = x.D.getD (e + 3) 0 := ⟨_, rfl⟩
  rw [← hy] at c3 hsp
  have b1 : ((y.toNat : Int) != (c.toNat : Int)) = true := bne_no (by rw [hy]; exact (h1 0 ha).1)
  have bcc : ((c.toNat : Int) == (c.toNat : Int)) = true := by simp
  have bcn : ((c.toNat : Int) != (c.toNat : Int)) = false := by simp
  have b126 : ((c.toNat : Int) == 126) = false := beq_no (k := 126) hc126
  have CS := Lib.hid (fun w => sp59 y w)
  rw [hsp] at CS
  unfold Took at ce
  have CE : Hid (Calls Tryz.prog 62 #[ptr x.M, .slice (some ⟨x.g, x.off + e, none⟩) (n - e) (x.cap - e), .int .i64 3, .int .u8 c.toNat] w fun r w' => Below w.heap.size w w' ∧ ∃ b, r = .returned (.tuple #[.int .i64 ((a + 3 : Nat) : Int), ptr b]) ∧ Made w R b w') := ce
  have hd0 : decide (0 < n - e) = true := decide_eq_true (by omega)
  clear ce h0 h1 h2 h3 hs hsp hi hn hy hcb hc126
  go_enter Tryz.func47, Tryz.ntmps47
  go_wp2_with (first
    | (go_at_call 59; refine (CS.out _).mono ?_; rintro r w' ⟨rfl, rfl⟩)
    | (go_at_call 62; refine CE.out.mono ?_; rintro r w' ⟨hb, b, rfl, hm⟩; have HB := Lib.hid hb; have HM := Lib.hid hm; clear hb hm))
  go_ret2
  exact ⟨HB.out, b, tup2 (by omega), HM.out⟩
end Go.Proofs.YtalajbfpilhfgaaGreatDoor
