/- zzUnescapeString: its text, entity by entity. -/
import Derived.Test.YtkogokjlpgnmlaaU5
import Derived.Test.YtkogokjlpgnmlaaA1
set_option linter.unusedVariables false
set_option linter.unusedSimpArgs false
namespace Go.Proofs.Ytkogokjlpgnmlaa
open Go.RowKit

/-- A text, each entity in it unescaped: f bounds how many steps there are. -/
noncomputable def unesc : Nat → Bs → Bs
  | 0, _ => []
  | _ + 1, [] => []
  | f + 1, c :: r => if c = 38 then (ent (c :: r)).1 ++ unesc f ((c :: r).drop (ent (c :: r)).2) else c :: unesc f r
/-- A text, each entity in it unescaped. -/
noncomputable def unescape (s : Bs) : Bs := unesc s.length s

theorem unesc_fuel : ∀ (f g : Nat) (s : Bs), s.length ≤ f → s.length ≤ g → unesc f s = unesc g s
  | 0, 0, _, _, _ => rfl
  | 0, g + 1, [], _, _ => rfl
  | f + 1, 0, [], _, _ => rfl
  | 0, g + 1, _ :: _, h, _ => by simp at h
  | f + 1, 0, _ :: _, _, h => by simp at h
  | f + 1, g + 1, [], _, _ => rfl
  | f + 1, g + 1, c :: r, h1, h2 => by
    simp only [List.length_cons] at h1 h2
    have hle := ent_le (c :: r) (by simp)
    rw [unesc, unesc, unesc_fuel f g ((c :: r).drop (ent (c :: r)).2) (by rw [List.length_drop, List.length_cons]; omega) (by rw [List.length_drop, List.length_cons]; omega), unesc_fuel f g r (by omega) (by omega)]
theorem unescape_nil : unescape [] = [] := rfl
theorem unescape_cons (c : UInt8) (r : Bs) (h : c ≠ 38) : unescape (c :: r) = c :: unescape r := by
  unfold unescape
  rw [List.length_cons, unesc, if_neg h]
theorem unescape_amp (r : Bs) : unescape (38 :: r) = (ent (38 :: r)).1 ++ unescape ((38 :: r).drop (ent (38 :: r)).2) := by
  have hle := ent_le (38 :: r) (by simp)
  have e : unescape (38 :: r) = (ent (38 :: r)).1 ++ unesc r.length ((38 :: r).drop (ent (38 :: r)).2) := by
    unfold unescape
    rw [List.length_cons, unesc, if_pos rfl]
  rw [e, unescape, unesc_fuel r.length _ _ (by rw [List.length_drop, List.length_cons]; omega) (Nat.le_refl _)]
theorem unescape_plain : ∀ (a b : Bs), (∀ c ∈ a, c ≠ 38) → unescape (a ++ b) = a ++ unescape b
  | [], b, _ => rfl
  | c :: a, b, h => by
    rw [List.cons_append, unescape_cons c _ (h c (by simp)), unescape_plain a b (fun d hd => h d (by simp [hd])), List.cons_append]
theorem unescape_same (s : Bs) (h : ∀ c ∈ s, c ≠ 38) : unescape s = s := by
  have := unescape_plain s [] h
  rw [List.append_nil, unescape_nil, List.append_nil] at this
  exact this
/-- One round: plain bytes up to an ampersand, then an entity. -/
theorem unescape_round (s : Bs) (i : Nat) (hi : i < s.length) (ha : s.getD i 0 = 38) (hp : ∀ c ∈ s.take i, c ≠ 38) :
    unescape s = s.take i ++ ((ent (s.drop i)).1 ++ unescape (s.drop (i + (ent (s.drop i)).2))) := by
  have e : s.drop i = 38 :: s.drop (i + 1) := by rw [getD_drop_cons s i hi, ha]
  have h1 := unescape_plain (s.take i) (s.drop i) hp
  rw [List.take_append_drop] at h1
  rw [h1]
  congr 1
  conv => lhs; rw [e]
  rw [unescape_amp, ← e, List.drop_drop]

/-- '[]byte(s)': a new buffer. -/
theorem bytes_buf (w : World) (s : ByteArray) (hs : s.size ≤ 9223372036854775807) : ∃ (w1 : World) (c : Nat), (convert 9 29 (.string s)).run Try.prog w = .ok (.slice (some ⟨w.heap.size, 0, none⟩) s.size c) w1 ∧ s.size ≤ c ∧ c ≤ 9223372036854775807 ∧
    Buf w1 w.heap.size s.data.toList ∧ Below w.heap.size w w1 ∧ w1.heap.size = w.heap.size + 1 := by
  refine ⟨_, _, run_bytes_of_string (P := Try.prog) w 9 29 5 s Try.underlying9 Try.underlying29 Try.underlying5, grownCap_ge _ _ _ _, grownCap_le_maxLen _ _ _ _ hs, ?_, ?_, ?_⟩
  · intro i hi
    have hi' : i < s.size := by simpa using hi
    have hge := grownCap_ge w s.size 0 5
    constructor
    · have := World.cell?_alloc_mark w.drew (bytesRow s (grownCap w s.size 0 5)) 5 ((bytesRow s (grownCap w s.size 0 5)).size, (bytesRow s (grownCap w s.size 0 5)).size + 1) i
      refine Eq.trans this ?_
      unfold bytesRow
      rw [Array.getElem?_append_left (by simpa using hi')]
      simp [List.getD_eq_getElem?_getD, hi']
    · have := World.frozen?_alloc_mark w.drew (bytesRow s (grownCap w s.size 0 5)) 5 (bytesRow s (grownCap w s.size 0 5)).size ((bytesRow s (grownCap w s.size 0 5)).size + 1) i
      refine Eq.trans this ?_
      rw [decide_eq_false (by unfold bytesRow; simp; omega)]
      rfl
  · exact (Below.refl _ _).drew.alloc (Nat.le_refl _) _
  · simp
end Go.Proofs.Ytkogokjlpgnmlaa
