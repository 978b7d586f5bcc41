/- zzUnescapeEntity, whole: what it writes and how far it reads. -/
import Derived.Test.YtkogokjlpgnmlaaU3
import Derived.Test.YtkogokjlpgnmlaaU4
set_option linter.unusedVariables false
set_option linter.unusedSimpArgs false
namespace Go.Proofs.Ytkogokjlpgnmlaa
open Go.RowKit

/-- The value and the end of a number reference that begins with "&#". -/
def numOf (s : Bs) : Int × Nat := if s.getD 2 0 = 120 ∨ s.getD 2 0 = 88 then numLoop true (s.drop 3) 0 3 else numLoop false (s.drop 2) 0 2
/-- What a text that begins with an ampersand is turned into, and how many of its bytes that takes. -/
noncomputable def ent (s : Bs) : Bs × Nat :=
  if s.length ≤ 1 then (s.take 1, 1)
  else if s.getD 1 0 = 35 then
    if s.length ≤ 3 then (s.take 1, 1)
    else if (numOf s).2 ≤ 3 then (s.take 1, 1) else (encB (fixR (numOf s).1), (numOf s).2)
  else nameOut s (nameLoop (s.drop 1) 1)

theorem numLoop_ge (hex : Bool) : ∀ (l : Bs) (z : Int) (i : Nat), i ≤ (numLoop hex l z i).2 ∧ (numLoop hex l z i).2 ≤ i + l.length
  | [], z, i => by simp [numLoop]
  | c :: r, z, i => by
    unfold numLoop
    simp only [List.length_cons]
    split
    · have := numLoop_ge hex r (wrap32 (wrap32 (wrap32 ((if hex then 16 else 10) * z) + (c.toNat : Int)) - 48)) (i + 1); omega
    · split
      · have := numLoop_ge hex r (wrap32 (wrap32 (wrap32 (wrap32 (16 * z) + (c.toNat : Int)) - 97) + 10)) (i + 1); omega
      · split
        · have := numLoop_ge hex r (wrap32 (wrap32 (wrap32 (wrap32 (16 * z) + (c.toNat : Int)) - 65) + 10)) (i + 1); omega
        · split
          · exact ⟨Nat.le_refl _, by omega⟩
          · exact ⟨by omega, by omega⟩
theorem prefLoop_le (nm : Bs) : ∀ (J : Nat) (x : Int) (j : Nat), prefLoop nm J = some (x, j) → 2 ≤ j ∧ j ≤ J ∧ (encB x).length ≤ j + 1
  | 0, x, j, h => by simp [prefLoop] at h
  | J + 1, x, j, h => by
    rw [prefLoop] at h
    split at h
    · exact absurd h (by simp)
    · split at h
      · rename_i h1 h2
        obtain ⟨rfl, rfl⟩ : (entity (nm.take (J + 1))).1 = x ∧ J + 1 = j := by simpa using h
        have := entity_le _ h2.1
        rw [if_pos h2.2] at this
        have hl : (nm.take (J + 1)).length ≤ J + 1 := List.length_take_le _ _
        exact ⟨by omega, Nat.le_refl _, by omega⟩
      · obtain ⟨h1, h2, h3⟩ := prefLoop_le nm J x j h
        exact ⟨h1, by omega, h3⟩
theorem ent_le (s : Bs) (hs : 1 ≤ s.length) : (ent s).1.length ≤ (ent s).2 ∧ 1 ≤ (ent s).2 ∧ (ent s).2 ≤ s.length := by
  have h1 : (s.take 1).length ≤ 1 := List.length_take_le _ _
  unfold ent
  split
  · exact ⟨h1, Nat.le_refl _, hs⟩
  split
  · split
    · exact ⟨h1, Nat.le_refl _, hs⟩
    split
    · exact ⟨h1, Nat.le_refl _, hs⟩
    · rename_i h3 hn
      have hb : (numOf s).2 ≤ s.length := by
        unfold numOf
        split
        · have := numLoop_ge true (s.drop 3) 0 3; simp only [List.length_drop] at this; omega
        · have := numLoop_ge false (s.drop 2) 0 2; simp only [List.length_drop] at this; omega
      have := encB_length (fixR (numOf s).1)
      exact ⟨by show (encB _).length ≤ (numOf s).2; omega, by show 1 ≤ (numOf s).2; omega, hb⟩
  · rename_i hlen _
    have hge := nameLoop_ge (s.drop 1) 1
    simp only [List.length_drop] at hge
    generalize hi : nameLoop (s.drop 1) 1 = i at hge
    unfold nameOut
    have hti : (s.take i).length ≤ i := List.length_take_le _ _
    have hnm : ((s.drop 1).take (i - 1)).length ≤ i - 1 := List.length_take_le _ _
    split
    · exact ⟨hti, by show 1 ≤ i; omega, by show i ≤ _; omega⟩
    split
    · rename_i h
      have := entity_le _ h.1
      rw [if_pos h.2] at this
      exact ⟨by show (encB _).length ≤ i; omega, by show 1 ≤ i; omega, by show i ≤ _; omega⟩
    split
    · rename_i h0 h
      have := entity_le _ h
      rw [if_neg (fun e => h0 ⟨h, e⟩)] at this
      exact ⟨by show (encB _ ++ encB _).length ≤ i; rw [List.length_append]; omega, by show 1 ≤ i; omega, by show i ≤ _; omega⟩
    split
    · rename_i x j hp
      obtain ⟨h1, h2, h3⟩ := prefLoop_le _ _ _ _ hp
      exact ⟨h3, by show 1 ≤ j + 1; omega, by show j + 1 ≤ _; omega⟩
    · exact ⟨hti, by show 1 ≤ i; omega, by show i ≤ _; omega⟩

theorem take1 (bs : Bs) (src : Nat) (h : src < bs.length) : (bs.drop src).take 1 = [bs.getD src 0] := by
  rw [getD_drop_cons bs src h]; rfl
theorem getD_drop' (bs : Bs) (src j : Nat) : (bs.drop src).getD j 0 = bs.getD (src + j) 0 := by
  simp [List.getD_eq_getElem?_getD]

theorem uent_any (g n c dst src : Nat) (bs : Bs) (w : World) (hn : bs.length = n) (hnc : n ≤ c) (hc : c ≤ 9223372036854775807) (hsrc : src < n) (hdst : dst ≤ src) (hB : Buf w g bs) :
    Calls Try.prog 42 #[.slice (some ⟨g, 0, none⟩) n c, .int .i64 dst, .int .i64 src] w (UPost w g bs dst src (ent (bs.drop src)).1 (ent (bs.drop src)).2) := by
  have hl : (bs.drop src).length = n - src := by rw [List.length_drop, hn]
  unfold ent
  rw [hl, take1 bs src (by omega), getD_drop']
  by_cases h1 : n - src ≤ 1
  · rw [if_pos h1]
    exact uent_short g n c dst src bs w hn hnc hc hsrc hdst hB h1
  rw [if_neg h1]
  by_cases hx : bs.getD (src + 1) 0 = 35
  · rw [if_pos hx]
    by_cases h3 : n - src ≤ 3
    · rw [if_pos h3]
      exact uent_num3 g n c dst src bs w hn hnc hc hsrc hdst hB (by omega) h3 hx
    rw [if_neg h3]
    by_cases hh : bs.getD (src + 2) 0 = 120 ∨ bs.getD (src + 2) 0 = 88
    · have hnum : numOf (bs.drop src) = numLoop true (bs.drop (src + 3)) 0 3 := by
        rw [numOf, getD_drop', if_pos hh, List.drop_drop]
      have := uent_hex g n c dst src bs w hn hnc hc hsrc hdst hB (by omega) hx hh (numOf (bs.drop src)).1 (numOf (bs.drop src)).2 (by rw [hnum])
      split
      · rename_i hk; rw [if_pos hk, if_pos hk] at this; exact this
      · rename_i hk; rw [if_neg hk, if_neg hk] at this; exact this
    · have hnum : numOf (bs.drop src) = numLoop false (bs.drop (src + 2)) 0 2 := by
        rw [numOf, getD_drop', if_neg hh, List.drop_drop]
      have := uent_dec g n c dst src bs w hn hnc hc hsrc hdst hB (by omega) hx (fun h => hh (Or.inl h)) (fun h => hh (Or.inr h)) (numOf (bs.drop src)).1 (numOf (bs.drop src)).2 (by rw [hnum])
      split
      · rename_i hk; rw [if_pos hk, if_pos hk] at this; exact this
      · rename_i hk; rw [if_neg hk, if_neg hk] at this; exact this
  · rw [if_neg hx]
    exact uent_name g n c dst src bs w hn hnc hc hsrc hdst hB (by omega) hx _ (by rw [List.drop_drop]) _ _ rfl
end Go.Proofs.Ytkogokjlpgnmlaa
