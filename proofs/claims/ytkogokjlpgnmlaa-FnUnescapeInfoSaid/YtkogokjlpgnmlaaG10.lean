/- impl.EscapeAll, impl.Escape, impl.EscapeLink, walked. -/
import Derived.Test.YtkogokjlpgnmlaaG9
import Derived.Test.YtkogokjlpgnmlaaU7
set_option linter.unusedVariables false
set_option linter.unusedSimpArgs false
namespace Go.Proofs.Ytkogokjlpgnmlaa
open Go.RowKit

/-- The world with a new buffer. -/
abbrev withBuf (w : World) : World := w.alloc (.cells #[.slice none 0 0, .int .i64 0, .int .i8 0] 43)
theorem withBuf_size (w : World) : (withBuf w).heap.size = w.heap.size + 1 := by show (w.heap.push _).size = _; simp
theorem bufIn_fresh (w w2 : World) (h : Below (withBuf w).heap.size (withBuf w) w2) : BufIn w2 w.heap.size [] w2 := by
  refine ⟨.slice none 0 0, ⟨0, ?_, Or.inl ⟨rfl, rfl⟩⟩, ⟨rfl, rfl, rfl, Nat.le_refl _, fun _ _ _ => rfl⟩, fun g hg => by simp [Value.ownBlock] at hg⟩
  rw [h.block w.heap.size (by rw [withBuf_size]; omega)]
  exact heap_alloc_new w _

/-- What the middle call does: from the buffer empty to the buffer with o. -/
def Fills (f : Nat) (w : World) (l o : Bs) : Prop :=
  ∀ v2 w2, SlB w2 v2 l → Below (withBuf w).heap.size (withBuf w) w2 → v2.ownBlock ≠ some w.heap.size → Calls Try.prog f #[.iface 45 (.pointer (some ⟨w.heap.size, 0, none⟩)), v2] w2 fun e w' => e = .returned (.tuple #[]) ∧ (Below (w.heap.size) w w' ∧ ∃ w3, BufIn w3 w.heap.size o w')
theorem fill_end (w w2 w' : World) (o : Bs) (h : Below (withBuf w).heap.size (withBuf w) w2) (hb : BufIn w2 w.heap.size o w') : Below (w.heap.size) w w' ∧ ∃ w3, BufIn w3 w.heap.size o w' := by
  refine ⟨?_, w2, hb⟩
  have hz := withBuf_size w
  have h1 : Below w.heap.size w (withBuf w) := (Below.refl _ w).alloc (Nat.le_refl _) _
  have h2 := h1.trans (h.mono (B' := w.heap.size) (by omega))
  obtain ⟨v, _, hg, _⟩ := hb
  exact h2.trans (below_grown hg (Nat.le_refl _) h2.size)
theorem fills24 (w : World) (l : Bs) (hL : (esc false l 0).length ≤ 140737488355328) : Fills 24 w l (esc false l 0) := fun v2 w2 hs hb hv =>
  wrap24 _ _ w2 _ (wrap37 _ _ w2 _ ((escE_sl false w.heap.size v2 l w2 hs hv (bufIn_fresh w w2 hb) hL).mono fun e w' h => ⟨h.1, fill_end w w2 w' _ hb h.2⟩))
theorem fills28 (w : World) (l : Bs) (hL : (esc true l 0).length ≤ 140737488355328) : Fills 28 w l (esc true l 0) := fun v2 w2 hs hb hv =>
  wrap28 _ _ w2 _ (wrap39 _ _ w2 _ ((escE_sl true w.heap.size v2 l w2 hs hv (bufIn_fresh w w2 hb) hL).mono fun e w' h => ⟨h.1, fill_end w w2 w' _ hb h.2⟩))

set_option maxRecDepth 100000 in
set_option maxHeartbeats 2000000 in
theorem impl10 (v : Value) (l o : Bs) (w : World) (h : SlB w v l) (hl : l.length ≤ 140737488355328) (ho : o.length ≤ 140737488355328) (hf : Fills 24 w l o) :
    Calls Try.prog 10 #[v] w fun e w' => ∃ v', e = .returned v' ∧ NewB w o v' w' := by
  have ca := own_any v l (withBuf w) (slB_below h ((Below.refl _ w).alloc (Nat.le_refl _) _)) hl
  have CA := Lib.hid ca
  have CF := Lib.hid hf
  have CB := Lib.hid (fun v w h => own_any v o w h ho)
  have tok : True := trivial
  clear ca hf h hl ho
  go_enter Try.func10, Try.ntmps10
  go_wp2_with (first
    | (clear tok; go_at_call 25; refine CA.out.mono ?_; rintro e w2 ⟨v2, rfl, hs2⟩; have HS2 := Lib.hid hs2; clear hs2)
    | (go_at_call 24; refine (CF.out _ _ HS2.out.1 HS2.out.2.1 (fun hq => by have h1 := HS2.out.2.2 _ hq; rw [withBuf_size] at h1; omega)).mono ?_; rintro e w3 ⟨rfl, hb3⟩; have HB3 := Lib.hid hb3; clear hb3)
    | (go_at_call 26; refine (bytes_any _ _ _ _ HB3.out.2.choose_spec).mono ?_; rintro e w4 ⟨v4, rfl, hs4⟩; have HS4 := Lib.hid hs4; clear hs4)
    | (go_at_call 25; refine (CB.out _ _ HS4.out.1).mono ?_; rintro e w5 ⟨v5, rfl, hs5⟩; have HS5 := Lib.hid hs5; clear hs5))
  go_ret
  obtain ⟨hb3, -⟩ := HB3.out
  obtain ⟨-, nq, rfl⟩ := HS4.out
  obtain ⟨q1, q2, q3⟩ := HS5.out
  have hz : (w3.drewN nq).heap.size = w3.heap.size := rfl
  have hle := hb3.size
  have hb4 : Below w.heap.size w (w3.drewN nq) := ⟨hb3.os, hb3.tape, hb3.output, hb3.size, hb3.block⟩
  exact ⟨v5, rfl, q1, hb4.trans (q2.mono (by omega)), fun g hg => by have := q3 g hg; omega⟩

set_option maxRecDepth 100000 in
set_option maxHeartbeats 2000000 in
theorem impl14 (v : Value) (l o : Bs) (w : World) (h : SlB w v l) (hl : l.length ≤ 140737488355328) (ho : o.length ≤ 140737488355328) (hf : Fills 28 w l o) :
    Calls Try.prog 14 #[v] w fun e w' => ∃ v', e = .returned v' ∧ NewB w o v' w' := by
  have ca := own_any v l (withBuf w) (slB_below h ((Below.refl _ w).alloc (Nat.le_refl _) _)) hl
  have CA := Lib.hid ca
  have CF := Lib.hid hf
  have CB := Lib.hid (fun v w h => own_any v o w h ho)
  have tok : True := trivial
  clear ca hf h hl ho
  go_enter Try.func14, Try.ntmps14
  go_wp2_with (first
    | (clear tok; go_at_call 25; refine CA.out.mono ?_; rintro e w2 ⟨v2, rfl, hs2⟩; have HS2 := Lib.hid hs2; clear hs2)
    | (go_at_call 28; refine (CF.out _ _ HS2.out.1 HS2.out.2.1 (fun hq => by have h1 := HS2.out.2.2 _ hq; rw [withBuf_size] at h1; omega)).mono ?_; rintro e w3 ⟨rfl, hb3⟩; have HB3 := Lib.hid hb3; clear hb3)
    | (go_at_call 26; refine (bytes_any _ _ _ _ HB3.out.2.choose_spec).mono ?_; rintro e w4 ⟨v4, rfl, hs4⟩; have HS4 := Lib.hid hs4; clear hs4)
    | (go_at_call 25; refine (CB.out _ _ HS4.out.1).mono ?_; rintro e w5 ⟨v5, rfl, hs5⟩; have HS5 := Lib.hid hs5; clear hs5))
  go_ret
  obtain ⟨hb3, -⟩ := HB3.out
  obtain ⟨-, nq, rfl⟩ := HS4.out
  obtain ⟨q1, q2, q3⟩ := HS5.out
  have hz : (w3.drewN nq).heap.size = w3.heap.size := rfl
  have hle := hb3.size
  have hb4 : Below w.heap.size w (w3.drewN nq) := ⟨hb3.os, hb3.tape, hb3.output, hb3.size, hb3.block⟩
  exact ⟨v5, rfl, q1, hb4.trans (q2.mono (by omega)), fun g hg => by have := q3 g hg; omega⟩

set_option maxRecDepth 100000 in
set_option maxHeartbeats 2000000 in
theorem impl13 (v : Value) (l o : Bs) (w : World) (h : SlB w v l) (hl : l.length ≤ 140737488355328) (ho : o.length ≤ 140737488355328) (hf : Fills 27 w l o) :
    Calls Try.prog 13 #[v] w fun e w' => ∃ v', e = .returned v' ∧ NewB w o v' w' := by
  have ca := own_any v l (withBuf w) (slB_below h ((Below.refl _ w).alloc (Nat.le_refl _) _)) hl
  have CA := Lib.hid ca
  have CF := Lib.hid hf
  have CB := Lib.hid (fun v w h => own_any v o w h ho)
  have tok : True := trivial
  clear ca hf h hl ho
  go_enter Try.func13, Try.ntmps13
  go_wp2_with (first
    | (clear tok; go_at_call 25; refine CA.out.mono ?_; rintro e w2 ⟨v2, rfl, hs2⟩; have HS2 := Lib.hid hs2; clear hs2)
    | (go_at_call 27; refine (CF.out _ _ HS2.out.1 HS2.out.2.1 (fun hq => by have h1 := HS2.out.2.2 _ hq; rw [withBuf_size] at h1; omega)).mono ?_; rintro e w3 ⟨rfl, hb3⟩; have HB3 := Lib.hid hb3; clear hb3)
    | (go_at_call 26; refine (bytes_any _ _ _ _ HB3.out.2.choose_spec).mono ?_; rintro e w4 ⟨v4, rfl, hs4⟩; have HS4 := Lib.hid hs4; clear hs4)
    | (go_at_call 25; refine (CB.out _ _ HS4.out.1).mono ?_; rintro e w5 ⟨v5, rfl, hs5⟩; have HS5 := Lib.hid hs5; clear hs5))
  go_ret
  obtain ⟨hb3, -⟩ := HB3.out
  obtain ⟨-, nq, rfl⟩ := HS4.out
  obtain ⟨q1, q2, q3⟩ := HS5.out
  have hz : (w3.drewN nq).heap.size = w3.heap.size := rfl
  have hle := hb3.size
  have hb4 : Below w.heap.size w (w3.drewN nq) := ⟨hb3.os, hb3.tape, hb3.output, hb3.size, hb3.block⟩
  exact ⟨v5, rfl, q1, hb4.trans (q2.mono (by omega)), fun g hg => by have := q3 g hg; omega⟩
end Go.Proofs.Ytkogokjlpgnmlaa
