/- FnUnescapeInfo: unescapeString, blackfriday.UnescapeInfo, impl.UnescapeInfo. -/
import Derived.Test.YtkogokjlpgnmlaaI12
set_option linter.unusedVariables false
set_option linter.unusedSimpArgs false
namespace Go.Proofs.Ytkogokjlpgnmlaa
open Go.RowKit

/-- What an info string is unescaped to. -/
noncomputable def infoR (l : Bs) : Bs := if memF 38 l = true then infoW l l.length 0 else l

theorem infoW_len (l : Bs) : ∀ (f i : Nat), (infoW l f i).length ≤ l.length - i
  | 0, i => by rw [infoW]; simp
  | f + 1, i => by
    rw [infoW]
    split
    · split
      · rename_i h
        have := infoW_len l f (i + 2)
        have := h.2.1
        simp
        omega
      · split
        · rename_i h
          obtain ⟨e1, e2, e3⟩ := infoE_le h
          have := infoW_len l f (infoE l i)
          have h2 := unescape_len ((l.drop i).take (infoE l i - i)).length ((l.drop i).take (infoE l i - i)) (Nat.le_refl _)
          rw [List.length_append]
          simp only [List.length_take, List.length_drop] at h2
          omega
        · have := infoW_len l f (i + 1)
          simp
          omega
    · simp
theorem infoR_len (l : Bs) : (infoR l).length ≤ l.length := by
  unfold infoR
  split
  · have := infoW_len l l.length 0
    omega
  · exact Nat.le_refl _

theorem slB_of_own {B : Nat} {v : Value} {l : Bs} {W0 w : World} (h : Lib.OwnBuf B 5 v l.length (cellsB l) W0 w) : SlB w v l := by
  obtain ⟨⟨hl, ⟨rfl, h0⟩ | ⟨g, cap, cur, fz, rfl, hB, hg, hfz, hnc, hcm, hcs, htk⟩⟩, -, -⟩ := h
  · exact Or.inl ⟨rfl, List.eq_nil_of_length_eq_zero (by omega)⟩
  · refine Or.inr ⟨g, cap, rfl, hnc, hcm, Lib.lt_of_heap hg, fun j x hj => ?_⟩
    obtain ⟨hj1, rfl⟩ := cellsB_some hj
    have : cur[j]? = some (.int .u8 (l[j]).toNat) := by
      rw [← htk, List.getElem?_take] at hj
      rw [if_pos (by omega), Array.getElem?_toList] at hj
      exact hj
    rw [Lib.cell_of_heap hg]
    exact this

theorem rdO_of_slB {w : World} {g cap : Nat} {l : Bs} (h4 : ∀ j x, (cellsB l)[j]? = some x → w.cell? ⟨g, j, none⟩ = some x) : RdO w g 0 l := by
  intro i hi
  rw [Nat.zero_add, h4 i _ (cellsB_get l i hi)]

set_option maxRecDepth 100000 in
set_option maxHeartbeats 2000000 in
theorem info40 (v : Value) (l : Bs) (w : World) (h : SlB w v l) (hl : l.length ≤ 140737488355328) (hp : PlainL l) :
    Calls Try.prog 40 #[v] w fun e w' => ∃ v', e = .returned v' ∧ SlB w' v' (infoR l) ∧ Below w.heap.size w w' := by
  rcases h with ⟨rfl, rfl⟩ | ⟨g, cap, rfl, h1, h2, h3, h4⟩
  · have ca := amp44 none 0 0 0 0 [] w (fun h => absurd h (by omega)) rfl (by omega) (fun i hi => absurd hi (by simp))
    have CA : Hid (Calls Try.prog 44 #[.slice none 0 0] w fun e w' => e = .returned (.bool false) ∧ w = w') := ca
    clear ca
    go_enter Try.func40, Try.ntmps40
    go_wp2_with (go_at_call 44; refine CA.out.mono ?_; rintro e w' ⟨rfl, rfl⟩)
    go_ret
    exact ⟨_, rfl, Or.inl ⟨rfl, rfl⟩, Below.refl _ _⟩
  · have hR := rdO_of_slB (cap := cap) h4
    have ca := amp44 (some ⟨g, 0, none⟩) g 0 l.length cap l w (fun _ => rfl) rfl (by omega) hR
    have cr := repl45 g 0 l.length cap l w rfl hl h1 hR hp h3
    obtain ⟨R, hRR⟩ : ∃ R, R = infoR l := ⟨_, rfl⟩
    rw [← hRR]
    unfold infoR at hRR
    have hself : SlB w (.slice (some ⟨g, 0, none⟩) l.length cap) l := Or.inr ⟨g, cap, rfl, h1, h2, h3, h4⟩
    have HS := Lib.hid hself
    clear hself hR h4
    obtain ⟨n, hn⟩ : ∃ n, n = l.length := ⟨_, rfl⟩
    rw [← hn] at ca
    obtain ⟨m, hm⟩ : ∃ m, m = memF 38 l := ⟨_, rfl⟩
    rw [← hm] at ca hRR
    cases m with
    | true =>
      rw [if_pos rfl] at hRR
      have cr2 : Calls Try.prog 45 #[.slice (some ⟨g, 0, none⟩) n cap, .func (.func 46) #[] #[]] w fun e w' => ∃ v', e = .returned v' ∧ SlB w' v' R ∧ Below w.heap.size w w' := by
        rw [hn]
        refine cr.mono ?_
        rintro e w' ⟨v', rfl, ho⟩
        rw [← hRR] at ho
        exact ⟨v', rfl, slB_of_own ho, ho.2.1⟩
      have CA := Lib.hid ca
      have CR := Lib.hid cr2
      rw [← hn]
      clear ca cr cr2 hRR hn hm h1 hl hp HS
      go_enter Try.func40, Try.ntmps40
      go_wp2_with (first
        | (go_at_call 44; refine CA.out.mono ?_; rintro e w' ⟨rfl, rfl⟩)
        | (go_at_call 45; refine CR.out.mono ?_; rintro e w' ⟨v', rfl, hs⟩; have HS := Lib.hid hs; clear hs))
      go_ret
      exact ⟨_, rfl, HS.out⟩
    | false =>
      rw [if_neg (by decide)] at hRR
      have CA := Lib.hid ca
      have HS2 : Hid (SlB w (.slice (some ⟨g, 0, none⟩) n cap) R) := by rw [hRR, hn]; exact HS.out
      rw [← hn]
      clear ca cr hRR hn hm h1 hl hp HS
      go_enter Try.func40, Try.ntmps40
      go_wp2_with (go_at_call 44; refine CA.out.mono ?_; rintro e w' ⟨rfl, rfl⟩)
      go_ret
      exact ⟨_, rfl, HS2.out, Below.refl _ _⟩

set_option maxHeartbeats 1000000 in
theorem info35 (v : Value) (l : Bs) (w : World) (h : SlB w v l) (hl : l.length ≤ 140737488355328) (hp : PlainL l) :
    Calls Try.prog 35 #[v] w fun e w' => ∃ v', e = .returned v' ∧ SlB w' v' (infoR l) ∧ Below w.heap.size w w' := by
  have C := Lib.hid (info40 v l w h hl hp)
  clear h hl hp
  go_enter Try.func35, Try.ntmps35
  go_wp2_with (go_at_call 40; refine C.out.mono ?_; rintro e w' ⟨v', rfl, hs⟩; have HS := Lib.hid hs; clear hs)
  go_ret
  exact ⟨_, rfl, HS.out⟩

set_option maxHeartbeats 1000000 in
theorem info19 (v : Value) (l : Bs) (w : World) (h : SlB w v l) (hl : l.length ≤ 140737488355328) (hp : PlainL l) :
    Calls Try.prog 19 #[v] w fun e w' => ∃ v', e = .returned v' ∧ NewB w (infoR l) v' w' := by
  have hlen := infoR_len l
  have CA := Lib.hid (own_any v l w h hl)
  have CI := Lib.hid (fun v w h => info35 v l w h hl hp)
  have CB := Lib.hid (fun v w h => own_any v (infoR l) w h (by omega))
  have tok : True := trivial
  clear h hl hp hlen
  go_enter Try.func19, Try.ntmps19
  go_wp2_with (first
    | (clear tok; go_at_call 25; refine CA.out.mono ?_; rintro e w1 ⟨v1, rfl, hs1⟩; have HS1 := Lib.hid hs1; clear hs1)
    | (go_at_call 35; refine (CI.out _ _ HS1.out.1).mono ?_; rintro e w2 ⟨v2, rfl, hs2⟩; have HS2 := Lib.hid hs2; clear hs2)
    | (go_at_call 25; refine (CB.out _ _ HS2.out.1).mono ?_; rintro e w3 ⟨v3, rfl, hs3⟩; have HS3 := Lib.hid hs3; clear hs3))
  go_ret
  obtain ⟨-, a1, -⟩ := HS1.out
  obtain ⟨-, a2⟩ := HS2.out
  obtain ⟨a3, a4, a5⟩ := HS3.out
  have z1 := a1.size
  have z2 := a2.size
  exact ⟨v3, rfl, a3, (a1.trans (a2.mono z1)).trans (a4.mono (by omega)), fun g hg => by have := a5 g hg; omega⟩

theorem info_lt : infoR [38, 108, 116, 59] = [60] := by
  unfold infoR
  rw [if_pos (by decide)]
  have e : infoE [38, 108, 116, 59] 0 = 4 := by decide +kernel
  show infoW [38, 108, 116, 59] (3 + 1) 0 = [60]
  rw [infoW_ent (by decide) (by decide) (by rw [e]; decide), e, infoW_end (by decide)]
  show unescape [38, 108, 116, 59] ++ [] = [60]
  rw [unesc_lt]; rfl
end Go.Proofs.Ytkogokjlpgnmlaa
