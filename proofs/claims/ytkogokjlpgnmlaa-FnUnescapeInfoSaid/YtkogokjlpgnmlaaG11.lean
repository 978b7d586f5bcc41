/- escLink: unescaped first, then escaped. -/
import Derived.Test.YtkogokjlpgnmlaaL3
set_option linter.unusedVariables false
set_option linter.unusedSimpArgs false
namespace Go.Proofs.Ytkogokjlpgnmlaa
open Go.RowKit

theorem unescape_len : ∀ (n : Nat) (l : Bs), l.length ≤ n → (unescape l).length ≤ l.length
  | _, [], _ => by rw [unescape_nil]; exact Nat.le_refl _
  | 0, c :: r, h => by simp at h
  | n + 1, c :: r, h => by
    simp at h
    by_cases hc : c = 38
    · subst hc
      have hle := ent_le (38 :: r) (by simp)
      have hlen : (38 :: r : Bs).length = r.length + 1 := rfl
      have hd : ((38 :: r).drop (ent (38 :: r)).2).length = r.length + 1 - (ent (38 :: r)).2 := by rw [List.length_drop, hlen]
      have := unescape_len n ((38 :: r).drop (ent (38 :: r)).2) (by rw [hd]; omega)
      rw [unescape_amp, List.length_append, hlen]
      rw [hd] at this
      rw [hlen] at hle
      omega
    · have := unescape_len n r h
      rw [unescape_cons c r hc]
      simp
      exact this

theorem slB_of_buf {w : World} {g c n : Nat} {l : Bs} (hn : n = l.length) (hB : Buf w g l) (h1 : n ≤ c) (h2 : c ≤ maxLen) (h3 : g < w.heap.size) : SlB w (.slice (some ⟨g, 0, none⟩) n c) l := by
  subst hn
  refine Or.inr ⟨g, c, rfl, h1, h2, h3, fun j x hj => ?_⟩
  obtain ⟨hj1, rfl⟩ := cellsB_some hj
  rw [(hB j hj1).1, List.getD_eq_getElem?_getD, List.getElem?_eq_getElem hj1]
  rfl

set_option maxRecDepth 100000 in
set_option maxHeartbeats 2000000 in
theorem escLink_any (w : World) (v2 : Value) (w2 : World) (l : Bs) (hs : SlB w2 v2 l) (hl : l.length ≤ 2000) (hb : Below (withBuf w).heap.size (withBuf w) w2) :
    Calls Try.prog 38 #[.iface 45 (.pointer (some ⟨w.heap.size, 0, none⟩)), v2] w2 fun e w' => e = .returned (.tuple #[]) ∧ (Below (w.heap.size) w w' ∧ ∃ w3, BufIn w3 w.heap.size (esc true (unescape l) 0) w') := by
  have hul := unescape_len l.length l (Nat.le_refl _)
  obtain ⟨LB, hLB⟩ : ∃ LB : ByteArray, LB = ⟨l.toArray⟩ := ⟨_, rfl⟩
  obtain ⟨UB, hUB⟩ : ∃ UB : ByteArray, UB = ⟨(unescape l).toArray⟩ := ⟨_, rfl⟩
  have hcv : (convert 29 9 v2).run Try.prog w2 = .ok (.string LB) w2 := by rw [hLB]; exact conv_sl hs
  have c1 : Calls Try.prog 36 #[.string LB] w2 fun e w' => e = .returned (.string UB) ∧ ∃ (w1 : World) (c : Nat), (convert 9 29 (.string UB)).run Try.prog w' = .ok (.slice (some ⟨w'.heap.size, 0, none⟩) UB.size c) w1 ∧ Hid (SlB w1 (.slice (some ⟨w'.heap.size, 0, none⟩) UB.size c) (unescape l) ∧ Below (withBuf w).heap.size (withBuf w) w1 ∧ (withBuf w).heap.size ≤ w'.heap.size) := by
    refine (ustr_any LB w2 (by rw [hLB]; simp [ByteArray.size]; omega)).mono ?_
    rintro e w' ⟨rfl, hb'⟩
    have e1 : LB.data.toList = l := by rw [hLB]
    rw [e1, ← hUB]
    have e2 : UB.size = (unescape l).length := by rw [hUB]; rfl
    obtain ⟨w1, c, hc, h1, h2, hB, hbel, hsz⟩ := bytes_buf w' UB (by omega)
    have e3 : UB.data.toList = unescape l := by rw [hUB]
    rw [e3] at hB
    have hbw := hb.trans (hb'.mono hb.size)
    exact ⟨rfl, w1, c, hc, slB_of_buf e2 hB h1 (by unfold maxLen; omega) (by omega), hbw.trans (hbel.mono hbw.size), hbw.size⟩
  have c2 : ∀ v3 w3, SlB w3 v3 (unescape l) → Below (withBuf w).heap.size (withBuf w) w3 → v3.ownBlock ≠ some w.heap.size → Calls Try.prog 39 #[.iface 45 (.pointer (some ⟨w.heap.size, 0, none⟩)), v3] w3 fun e w' => e = .returned (.tuple #[]) ∧ (Below (w.heap.size) w w' ∧ ∃ w3, BufIn w3 w.heap.size (esc true (unescape l) 0) w') := fun v3 w3 h1 h2 h3 =>
    wrap39 _ _ w3 _ ((escE_sl true w.heap.size v3 (unescape l) w3 h1 h3 (bufIn_fresh w w3 h2) (by
      have := esc_len true (unescape l) (unescape l).length 0 (by omega)
      omega)).mono fun e w' h => ⟨h.1, fill_end w w3 w' _ h2 h.2⟩)
  have hz := withBuf_size w
  have C1 := Lib.hid c1
  have C2 := Lib.hid c2
  clear c1 c2 hLB hUB hs hb hul hl
  go_enter Try.func38, Try.ntmps38
  go_wp2_with (first
    | (go_at_call 36; refine C1.out.mono ?_; rintro e w3 ⟨rfl, w4, c, hc4, H4⟩)
    | (go_at_call 39; refine (C2.out _ _ H4.out.1 H4.out.2.1 (by have := H4.out.2.2; simp [Value.ownBlock]; omega)).mono ?_; rintro e w5 ⟨rfl, h5⟩; have H5 := Lib.hid h5; clear h5))
  go_end0
  exact ⟨rfl, H5.out⟩
theorem fills27 (w : World) (l : Bs) (hl : l.length ≤ 2000) : Fills 27 w l (esc true (unescape l) 0) := fun v2 w2 hs hb hv => wrap27 _ _ w2 _ (escLink_any w v2 w2 l hs hl hb)
end Go.Proofs.Ytkogokjlpgnmlaa
