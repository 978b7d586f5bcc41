/- EncodeRune writes a rune's bytes into a buffer of the call's own. -/
import Derived.Test.YtkogokjlpgnmlaaR1
import Derived.Test.YtkogokjlpgnmlaaT1
namespace Go.Proofs.Ytkogokjlpgnmlaa
open Go.RowKit



/-- Block g holds these bytes from its begin on, none frozen. -/
def Buf (w : World) (g : Nat) (l : Bs) : Prop :=
  ∀ i, i < l.length → w.cell? ⟨g, i, none⟩ = some (.int .u8 (l.getD i 0).toNat) ∧ w.frozen? ⟨g, i, none⟩ = false
def cellsB (o : Bs) : List Value := o.map fun b => .int .u8 b.toNat
/-- The bytes o laid over l from off on. -/
def putB (l : Bs) (off : Nat) (o : Bs) : Bs := l.take off ++ (o ++ l.drop (off + o.length))
/-- A rune's bytes. -/
def encB (r : Int) : Bs := (Lib.encodeRuneZ r).map fun x => UInt8.ofNat x.toNat

theorem putB_length (l : Bs) (off : Nat) (o : Bs) (h : off + o.length ≤ l.length) : (putB l off o).length = l.length := by
  simp [putB]; omega
theorem putB_get (l : Bs) (off : Nat) (o : Bs) (h : off + o.length ≤ l.length) (i : Nat) :
    (putB l off o).getD i 0 = if off ≤ i ∧ i < off + o.length then o.getD (i - off) 0 else l.getD i 0 := by
  unfold putB
  simp only [List.getD_eq_getElem?_getD]
  rw [List.getElem?_append, List.length_take, Nat.min_eq_left (by omega)]
  by_cases h1 : i < off
  · rw [if_pos h1, if_neg (by omega), List.getElem?_take, if_pos h1]
  · rw [if_neg h1, List.getElem?_append]
    by_cases h2 : i < off + o.length
    · rw [if_pos (by omega), if_pos ⟨by omega, h2⟩]
    · rw [if_neg (by omega), if_neg (by omega), List.getElem?_drop]
      congr 2
      omega
theorem cellsB_length (o : Bs) : (cellsB o).length = o.length := by simp [cellsB]
theorem cellsB_get (o : Bs) (j : Nat) (h : j < o.length) : (cellsB o)[j]? = some (.int .u8 (o.getD j 0).toNat) := by
  simp [cellsB, List.getD_eq_getElem?_getD, h]
theorem Buf.put {w : World} {g : Nat} {l : Bs} (h : Buf w g l) (off : Nat) (o : Bs) (hfit : off + o.length ≤ l.length) :
    Buf (w.setCells g off (cellsB o)) g (putB l off o) := by
  intro i hi
  rw [putB_length l off o hfit] at hi
  rw [World.frozen?_setCells, putB_get l off o hfit]
  refine ⟨?_, (h i hi).2⟩
  split
  · rename_i hin
    have := World.cell?_setCells_in g (cellsB o) off w (fun j hj => by rw [cellsB_length] at hj; rw [(h (off + j) (by omega)).1]; rfl) (i - off) (by rw [cellsB_length]; omega)
    rw [show off + (i - off) = i by omega] at this
    rw [this]
    have hg := cellsB_get o (i - off) (by omega)
    rw [List.getElem?_eq_getElem (by rw [cellsB_length]; omega)] at hg
    exact hg
  · rename_i hout
    rw [World.cell?_setCells_out g (cellsB o) off w ⟨g, i, none⟩ (fun _ _ => by rw [cellsB_length]; show i < off ∨ _ ≤ i; omega)]
    exact (h i hi).1
theorem grownBy_setCell1 (W : World) (b o : Nat) (v : Value) : W.grownBy (W.setCell ⟨b, o, none⟩ v) (some b) :=
  ⟨rfl, rfl, rfl, by simp [World.setCell], fun k _ hne => Below.heap_setCell _ _ _ _ (fun e => hne (by rw [e]))⟩
theorem grownBy_trans {a b c : World} {r : Option Nat} (h : a.grownBy b r) (k : b.grownBy c r) : a.grownBy c r :=
  ⟨k.os.trans h.os, k.tape.trans h.tape, k.output.trans h.output, Nat.le_trans h.size k.size, fun i hi hne => (k.block i (Nat.lt_of_lt_of_le hi h.size) hne).trans (h.block i hi hne)⟩
theorem grownBy_setCells (b : Nat) : ∀ (vs : List Value) (o : Nat) (W : World), W.grownBy (W.setCells b o vs) (some b)
  | [], _, W => World.grownBy.refl W _
  | v :: r, o, W => grownBy_trans (grownBy_setCell1 W b o v) (grownBy_setCells b r (o + 1) _)
theorem grownBy_drewN (W : World) (n : Nat) (r : Option Nat) : W.grownBy (W.drewN n) r := ⟨rfl, rfl, rfl, Nat.le_refl _, fun _ _ _ => rfl⟩
theorem Buf.drewN {w : World} {g : Nat} {l : Bs} (h : Buf w g l) (n : Nat) : Buf (w.drewN n) g l := h
theorem Buf.kept {w w' : World} {g : Nat} {l : Bs} {r : Option Nat} (h : Buf w g l) (hg : w.grownBy w' r) (hne : some g ≠ r) (hlt : g < w.heap.size) : Buf w' g l := by
  intro i hi
  have hb := hg.block g hlt hne
  rw [World.cell?_of_block (w := w) (a := ⟨g, i, none⟩) hb, World.frozen?_of_block (w := w) (a := ⟨g, i, none⟩) hb]
  exact h i hi

theorem runeCells_encB (r : Int) : Lib.runeCells r = cellsB (encB r) := by
  rw [Lib.runeCells, cellsB, encB, List.map_map]
  apply List.map_congr_left
  intro x hx
  have := Lib.encodeRuneZ_byte r x hx
  simp only [Function.comp]
  congr 1
  rw [UInt8.toNat_ofNat_of_lt' (by simp; omega)]
  omega
theorem encB_length (r : Int) : 1 ≤ (encB r).length ∧ (encB r).length ≤ 4 := by
  have := Lib.encodeRuneZ_length r
  simpa [encB] using this

theorem encN_any (b off len cap : Nat) (r : Int) (hlo : -2147483648 ≤ r) (hhi : r ≤ 2147483647) (hna : r < 0 ∨ 128 ≤ r) (w : World) (hl : (Lib.runeCells r).length ≤ len)
    (hc : ∀ j, j < (Lib.runeCells r).length → (w.cell? ⟨b, off + j, none⟩).isSome = true) (hf : ∀ j, j < (Lib.runeCells r).length → w.frozen? ⟨b, off + j, none⟩ = false) :
    Calls Try.prog 54 #[.slice (some ⟨b, off, none⟩) len cap, .int .i32 r] w fun e w' => e = .returned (.int .i64 (Lib.runeCells r).length) ∧ w' = w.setCells b off (Lib.runeCells r) := by
  by_cases n0 : r < 0
  · have e := runeCells_of (Lib.encodeRuneZ_bad (Or.inl n0)); rw [e] at hl hc hf ⊢
    exact encN_neg b off len cap r hlo n0 w hl hc hf
  by_cases n1 : r ≤ 2047
  · have e := runeCells_of (Lib.encodeRuneZ_two (r := r) (by omega) n1); rw [e] at hl hc hf ⊢
    exact encN_two b off len cap r (by omega) n1 w hl hc hf
  by_cases n2 : r < 55296
  · have e := runeCells_of (Lib.encodeRuneZ_three (Or.inl ⟨by omega, n2⟩)); rw [e] at hl hc hf ⊢
    exact encN_three_lo b off len cap r (by omega) n2 w hl hc hf
  by_cases n3 : r ≤ 57343
  · have e := runeCells_of (Lib.encodeRuneZ_bad (Or.inr (Or.inl ⟨by omega, n3⟩))); rw [e] at hl hc hf ⊢
    exact encN_sur b off len cap r (by omega) n3 w hl hc hf
  by_cases n4 : r ≤ 65535
  · have e := runeCells_of (Lib.encodeRuneZ_three (Or.inr ⟨by omega, n4⟩)); rw [e] at hl hc hf ⊢
    exact encN_three_hi b off len cap r (by omega) n4 w hl hc hf
  by_cases n5 : r ≤ 1114111
  · have e := runeCells_of (Lib.encodeRuneZ_four (by omega) n5); rw [e] at hl hc hf ⊢
    exact encN_four b off len cap r (by omega) n5 w hl hc hf
  · have e := runeCells_of (Lib.encodeRuneZ_bad (r := r) (Or.inr (Or.inr (by omega)))); rw [e] at hl hc hf ⊢
    exact encN_big b off len cap r (by omega) hhi w hl hc hf

set_option maxHeartbeats 400000 in
theorem enc_ascii (b off len cap : Nat) (r : Int) (ha0 : 0 ≤ r) (ha1 : r ≤ 127) (w : World) (hl : 1 ≤ len) (c0 : Value)
    (hc0 : w.cell? ⟨b, off, none⟩ = some c0) (hf0 : w.frozen? ⟨b, off, none⟩ = false) :
    Calls Try.prog 48 #[.slice (some ⟨b, off, none⟩) len cap, .int .i32 r] w fun e w' => e = .returned (.int .i64 1) ∧ w' = w.setCells b off [.int .u8 r] := by
  go_enter Try.func48, Try.ntmps48
  go_wp2
  go_ret
  exact ⟨rfl, rfl⟩
set_option maxHeartbeats 400000 in
theorem enc_on (p : Value) (r : Int) (hlo : -2147483648 ≤ r) (hhi : r ≤ 2147483647) (hna : r < 0 ∨ 128 ≤ r) (w : World) (k : Int) (W' : World)
    (cN : Calls Try.prog 54 #[p, .int .i32 r] w fun e w' => e = .returned (.int .i64 k) ∧ w' = W') :
    Calls Try.prog 48 #[p, .int .i32 r] w fun e w' => e = .returned (.int .i64 k) ∧ w' = W' := by
  go_enter Try.func48, Try.ntmps48
  rcases hna with hn | hn
  · go_wp2_with (go_at_call 54; refine cN.mono ?_; rintro e w' ⟨rfl, rfl⟩)
    go_ret
    exact ⟨rfl, rfl⟩
  · go_wp2_with (go_at_call 54; refine cN.mono ?_; rintro e w' ⟨rfl, rfl⟩)
    go_ret
    exact ⟨rfl, rfl⟩
/-- EncodeRune into a buffer with room. -/
theorem enc_buf (g off len cap : Nat) (r : Int) (hlo : -2147483648 ≤ r) (hhi : r ≤ 2147483647) (w : World) (l : Bs) (hB : Buf w g l) (hl : (encB r).length ≤ len) (hfit : off + (encB r).length ≤ l.length) :
    Calls Try.prog 48 #[.slice (some ⟨g, off, none⟩) len cap, .int .i32 r] w fun e w' => e = .returned (.int .i64 (encB r).length) ∧ Buf w' g (putB l off (encB r)) ∧ w.grownBy w' (some g) := by
  have hlen : (Lib.runeCells r).length = (encB r).length := by rw [runeCells_encB, cellsB_length]
  have hc : ∀ j, j < (Lib.runeCells r).length → (w.cell? ⟨g, off + j, none⟩).isSome = true := fun j hj => by
    rw [(hB (off + j) (by omega)).1]; rfl
  have hf : ∀ j, j < (Lib.runeCells r).length → w.frozen? ⟨g, off + j, none⟩ = false := fun j hj => (hB (off + j) (by omega)).2
  have key : Calls Try.prog 48 #[.slice (some ⟨g, off, none⟩) len cap, .int .i32 r] w fun e w' => e = .returned (.int .i64 (Lib.runeCells r).length) ∧ w' = w.setCells g off (Lib.runeCells r) := by
    by_cases ha : 0 ≤ r ∧ r ≤ 127
    · have e : Lib.runeCells r = [.int .u8 r] := runeCells_of (Lib.encodeRuneZ_one ha.1 ha.2)
      have hl1 := (encB_length r).1
      obtain ⟨c0, hc0⟩ := Option.isSome_iff_exists.1 (hc 0 (by omega))
      have hf0 := hf 0 (by omega)
      rw [e]
      exact enc_ascii g off len cap r ha.1 ha.2 w (by omega) c0 hc0 hf0
    · exact enc_on _ r hlo hhi (by omega) w _ _ (encN_any g off len cap r hlo hhi (by omega) w (by omega) hc hf)
  refine key.mono fun e w' ⟨he, hw⟩ => ?_
  subst hw
  rw [runeCells_encB]
  exact ⟨by rw [he, hlen], hB.put off (encB r) hfit, grownBy_setCells g _ off w⟩
end Go.Proofs.Ytkogokjlpgnmlaa
