/-
  FnInlineAlone: a line of right pieces runs to what the pieces mean.
  FnInlineAlone: the inline parser over a line of right pieces finds what the pieces mean.
  FnInlineAlone: how long lines of right pieces are, and what they mean.
  FnInlineAlone: rows of a tree and its nodes, flat: their depths by their parents; what kinds and sizes they have.
-/
import Derived.Test.YtalajbfpilhfgaaGreatDoorK44
set_option linter.unusedVariables false
set_option linter.unusedSimpArgs false
namespace Go.Proofs.YtalajbfpilhfgaaGreatDoor
open Go.RowKit

def Nq (l : Bs) : Prop := ∀ j, l.getD j 0 = 34 → 1 ≤ j ∧ (l.getD (j - 1) 0 = 61 → 2 ≤ j ∧ l.getD (j - 2) 0 ≠ 102)
theorem nq_app {a b : Bs} (ha : Nq a) (hb : Nq b) : Nq (a ++ b) := by
  intro j hj
  by_cases j1 : j < a.length
  · rw [getD_app_l j1] at hj
    obtain ⟨h1, h2⟩ := ha j hj
    refine ⟨h1, fun h => ?_⟩
    rw [getD_app_l (by omega)] at h
    obtain ⟨h3, h4⟩ := h2 h
    exact ⟨h3, by rw [getD_app_l (by omega)]; exact h4⟩
  · obtain ⟨i, rfl⟩ : ∃ i, j = a.length + i := ⟨j - a.length, by omega⟩
    rw [getD_app_r] at hj
    obtain ⟨h1, h2⟩ := hb i hj
    refine ⟨by omega, fun h => ?_⟩
    rw [show a.length + i - 1 = a.length + (i - 1) from by omega, getD_app_r] at h
    obtain ⟨h3, h4⟩ := h2 h
    exact ⟨by omega, by rw [show a.length + i - 2 = a.length + (i - 2) from by omega, getD_app_r]; exact h4⟩
theorem nq_no {l : Bs} (h : ∀ c ∈ l, c ≠ 34) : Nq l := by
  intro j hj
  by_cases j1 : j < l.length
  · exact absurd hj (h _ (mem_at j1))
  · rw [getD_end (by omega)] at hj; cases hj
theorem nq_cons {c : UInt8} {l : Bs} (hc : c ≠ 34) (h : Nq l) : Nq (c :: l) := nq_app (a := [c]) (nq_no (by simpa using hc)) h
theorem nq_title {c t : Bs} (hc : Words c) (ht : ∀ y ∈ t, y ≠ 34) : Nq (32 :: 34 :: (c ++ (34 :: t))) := by
  refine nq_app (a := [32, 34]) (b := c ++ (34 :: t)) ?_ ?_
  · intro j hj
    match j with
    | 0 => cases hj
    | 1 => exact ⟨by omega, fun h => by cases h⟩
    | n + 2 => cases hj
  · intro j hj
    by_cases j1 : j < c.length
    · rw [getD_app_l j1] at hj
      exact absurd hj (wd_ne (hc.wd _ (mem_at j1)) rfl)
    · obtain ⟨i, rfl⟩ : ∃ i, j = c.length + i := ⟨j - c.length, by omega⟩
      rw [getD_app_r] at hj
      cases i with
      | zero =>
        have hp := hc.pos
        refine ⟨by omega, fun h => ?_⟩
        rw [Nat.add_zero, getD_app_l (by omega)] at h
        exact absurd h (let_ne hc.last rfl)
      | succ i =>
        rw [List.getD_cons_succ] at hj
        exact absurd hj (by
          by_cases i1 : i < t.length
          · exact ht _ (mem_at i1)
          · rw [getD_end (by omega)]; decide)
theorem nq_dec {l : Bs} (h : ∀ j, j < l.length → l.getD j 0 = 34 → 1 ≤ j ∧ (l.getD (j - 1) 0 = 61 → 2 ≤ j ∧ l.getD (j - 2) 0 ≠ 102)) : Nq l := by
  intro j hj
  by_cases j1 : j < l.length
  · exact h j j1 hj
  · rw [getD_end (by omega)] at hj; cases hj
/-- What holds of a piece's bytes, of where it begins, and of the marks in it. -/
structure Fine (l : Bs) : Prop where
  pos : 0 < l.length
  head : l.getD 0 0 ≠ 32 ∧ l.getD 0 0 ≠ 10
  all : ∀ y ∈ l, y ≠ 10
  nq : Nq l
theorem Words.n34 {a : Bs} (h : Words a) : ∀ y ∈ a, y ≠ 34 := fun y hy => wd_ne (h.wd y hy) rfl
theorem Words.n10 {a : Bs} (h : Words a) : ∀ y ∈ a, y ≠ 10 := fun y hy => wd_ne (h.wd y hy) rfl
theorem Target.n34 {a : Bs} (h : Target a) : ∀ y ∈ a, y ≠ 34 := fun y hy => tok_ne (h.all y hy) (by decide)
theorem Target.n10 {a : Bs} (h : Target a) : ∀ y ∈ a, y ≠ 10 := fun y hy => tok_ne (h.all y hy) (by decide)
theorem fine_words {a : Bs} (h : Words a) : Fine a := ⟨h.pos, ⟨let_ne h.first rfl, let_ne h.first rfl⟩, h.n10, nq_no h.n34⟩
theorem fine_app {a b : Bs} (ha : Fine a) (hb : ∀ y ∈ b, y ≠ 10) (hq : Nq b) : Fine (a ++ b) where
  pos := by have := ha.pos; rw [List.length_append]; omega
  head := by rw [getD_app_l ha.pos]; exact ha.head
  all := fun y hy => by
    rcases List.mem_append.1 hy with h | h
    · exact ha.all y h
    · exact hb y h
  nq := nq_app ha.nq hq
theorem fine_cons {c : UInt8} {b : Bs} (hc : c ≠ 32 ∧ c ≠ 10 ∧ c ≠ 34) (hb : ∀ y ∈ b, y ≠ 10) (hq : Nq b) : Fine (c :: b) :=
  fine_app (a := [c]) ⟨by simp, ⟨hc.1, hc.2.1⟩, by simpa using hc.2.1, nq_no (by simpa using hc.2.2)⟩ hb hq
theorem fine_dec {l : Bs} (h : 0 < l.length ∧ (l.getD 0 0 ≠ 32 ∧ l.getD 0 0 ≠ 10) ∧ (∀ y ∈ l, y ≠ 10) ∧ ∀ j, j < l.length → l.getD j 0 = 34 → 1 ≤ j ∧ (l.getD (j - 1) 0 = 61 → 2 ≤ j ∧ l.getD (j - 2) 0 ≠ 102)) : Fine l := ⟨h.1, h.2.1, h.2.2.1, nq_dec h.2.2.2⟩
theorem fine_no {c : UInt8} {b : Bs} (hc : c ≠ 32 ∧ c ≠ 10 ∧ c ≠ 34) (hb : ∀ y ∈ b, y ≠ 10 ∧ y ≠ 34) : Fine (c :: b) := fine_cons hc (fun y hy => (hb y hy).1) (nq_no fun y hy => (hb y hy).2)
theorem Words.nn {a : Bs} (h : Words a) : ∀ y ∈ a, y ≠ 10 ∧ y ≠ 34 := fun y hy => ⟨h.n10 y hy, h.n34 y hy⟩
theorem Target.nn {a : Bs} (h : Target a) : ∀ y ∈ a, y ≠ 10 ∧ y ≠ 34 := fun y hy => ⟨h.n10 y hy, h.n34 y hy⟩
theorem nn_app {a b : Bs} (ha : ∀ y ∈ a, y ≠ 10 ∧ y ≠ 34) (hb : ∀ y ∈ b, y ≠ 10 ∧ y ≠ 34) : ∀ y ∈ a ++ b, y ≠ 10 ∧ y ≠ 34 := fun y hy => (List.mem_append.1 hy).elim (ha y) (hb y)
theorem nn_cons {c : UInt8} {b : Bs} (hc : c ≠ 10 ∧ c ≠ 34) (hb : ∀ y ∈ b, y ≠ 10 ∧ y ≠ 34) : ∀ y ∈ c :: b, y ≠ 10 ∧ y ≠ 34 := nn_app (a := [c]) (by simpa using hc) hb
theorem nn_nil : ∀ y ∈ ([] : Bs), y ≠ 10 ∧ y ≠ 34 := fun y hy => by cases hy
theorem fine_lk {a b c : Bs} (ha : Words a) (hb : Target b) (hc : Words c) (v : Nat) (hv : v < 5) : Fine (lkW a b c v) := by
  match v, hv with
  | 0, _ =>
    exact fine_no (by decide) (nn_app ha.nn (nn_cons (by decide) (nn_cons (by decide) (nn_app hb.nn (by decide)))))
  | 1, _ =>
    have hA : ∀ y ∈ 32 :: 34 :: (c ++ [34, 41]), y ≠ 10 := by
      simp only [List.forall_mem_cons, List.forall_mem_append]
      exact ⟨by decide, by decide, hc.n10, by decide⟩
    have hq := nq_title hc (t := [41]) (by decide)
    refine fine_cons (by decide) ?_ ?_
    · simp only [List.forall_mem_cons, List.forall_mem_append] at hA ⊢
      exact ⟨ha.n10, by decide, by decide, hb.n10, hA⟩
    · exact nq_app (nq_no ha.n34) (nq_cons (by decide) (nq_cons (by decide) (nq_app (nq_no hb.n34) hq)))
  | 2, _ =>
    exact fine_no (by decide) (nn_app ha.nn (nn_cons (by decide) (nn_cons (by decide) (nn_app hb.nn (nn_cons (by decide) (nn_cons (by decide) (nn_app hc.nn (by decide))))))))
  | 3, _ =>
    have hA : ∀ y ∈ 32 :: 34 :: (c ++ [34, 41]), y ≠ 10 := by
      simp only [List.forall_mem_cons, List.forall_mem_append]
      exact ⟨by decide, by decide, hc.n10, by decide⟩
    have hq := nq_title hc (t := [41]) (by decide)
    refine fine_cons (by decide) ?_ ?_
    · simp only [List.forall_mem_cons, List.forall_mem_append] at hA ⊢
      exact ⟨ha.n10, by decide, by decide, by decide, hb.n10, by decide, hA⟩
    · exact nq_app (nq_no ha.n34) (nq_cons (by decide) (nq_cons (by decide) (nq_cons (by decide) (nq_app (nq_no hb.n34) (nq_cons (by decide) hq)))))
  | 4, _ =>
    exact fine_no (by decide) (nn_app ha.nn (nn_cons (by decide) (nn_cons (by decide) (nn_cons (by decide) (nn_app hb.nn (by decide))))))
theorem nn_bare {a b : Bs} (ha : One a) (hb : One b) : ∀ y ∈ bareW a b, y ≠ 10 ∧ y ≠ 34 :=
  nn_app (by decide) (nn_app ha.1.nn (nn_app (by decide) hb.1.nn))
theorem nn_mail {a b : Bs} (ha : One a) (hb : One b) : ∀ y ∈ mailW a b, y ≠ 10 ∧ y ≠ 34 :=
  nn_app ha.1.nn (nn_cons (by decide) (nn_app hb.1.nn (by decide)))
theorem nn_auto {a b : Bs} (ha : One a) (hb : One b) (v : Nat) (hv : v < 5) : ∀ y ∈ autoW a b v, y ≠ 10 ∧ y ≠ 34 := by
  match v, hv with
  | 0, _ => exact nn_bare ha hb
  | 1, _ => exact nn_app (by decide) (nn_app ha.1.nn (nn_app (by decide) (nn_app hb.1.nn (by decide))))
  | 2, _ => exact nn_app (by decide) (nn_app ha.1.nn (by decide))
  | 3, _ => exact nn_app (by decide) (nn_mail ha hb)
  | 4, _ => exact nn_mail ha hb
theorem opt_nn {a : Bs} (h : a = [] ∨ One a) : ∀ y ∈ a, y ≠ 10 ∧ y ≠ 34 := by
  rcases h with rfl | h
  · exact nn_nil
  · exact h.1.nn
theorem esc_nn : ∀ v : Nat, v < 21 → escL.getD v 0 ≠ 10 ∧ escL.getD v 0 ≠ 34 := by decide
theorem fine_piece {p : Pc} {bg : Bool} (h : Right p bg) : Fine (wr p) := by
  obtain ⟨kind, ch, var, sep, a, b, c⟩ := p
  obtain ⟨h1, h2, h3, h4, h5, hK⟩ := h
  simp only [RightK] at *
  have ho : oneC ch = 42 ∨ oneC ch = 95 := by unfold oneC; split <;> simp
  have hz : oddC ch = 42 ∨ oddC ch = 95 := by unfold oddC; split <;> simp
  simp only [wr]
  generalize oneC ch = o at *
  generalize oddC ch = z at *
  have go : o ≠ 10 ∧ o ≠ 34 := by rcases ho with rfl | rfl <;> decide
  have gz : z ≠ 10 ∧ z ≠ 34 := by rcases hz with rfl | rfl <;> decide
  have fo : o ≠ 32 ∧ o ≠ 10 ∧ o ≠ 34 := by rcases ho with rfl | rfl <;> decide
  obtain ⟨v, hv⟩ : ∃ v, v = var.toNat := ⟨_, rfl⟩
  rw [← hv]
  rcases hK with ⟨hk, ha⟩ | ⟨hk, hv5, ha, hb⟩ | ⟨hk, hv5, ha, hb, hc⟩ | ⟨hk, hv5, ha, hb⟩ | ⟨hk, ha, hb⟩ | ⟨hk, hv5, ha, hb⟩ | ⟨hk, hv5⟩ | ⟨hk, hv5, hbg⟩ | ⟨hk, hv5, hbg, hs⟩ | ⟨hk, ha, hb, hc⟩ | ⟨hk, ha, hb, hc⟩ | ⟨hk, ha, hb, hc⟩
  · rcases hk with hk | hk | hk | hk | hk <;> subst hk
    · exact fine_words ha
    · exact fine_no fo (nn_app ha.nn (nn_cons go nn_nil))
    · exact fine_no fo (nn_cons go (nn_app ha.nn (nn_cons go (nn_cons go nn_nil))))
    · exact fine_no fo (nn_cons go (nn_cons go (nn_app ha.nn (nn_cons go (nn_cons go (nn_cons go nn_nil))))))
    · exact fine_no (by decide) (nn_cons (by decide) (nn_app ha.nn (by decide)))
  · subst hk
    have hv6 : v < 4 := by omega
    match v, hv6 with
    | 0, _ => exact fine_no (by decide) (nn_app ha.nn (by decide))
    | 1, _ => exact fine_no (by decide) (nn_cons (by decide) (nn_app ha.nn (by decide)))
    | 2, _ => exact fine_no (by decide) (nn_cons (by decide) (nn_app ha.nn (by decide)))
    | 3, _ => exact fine_no (by decide) (nn_cons (by decide) (nn_cons (by decide) (nn_app ha.nn (nn_cons (by decide) (nn_app hb.nn (by decide))))))
  · have hl := fine_lk ha hb hc v (by omega)
    rcases hk with hk | hk <;> subst hk
    · exact hl
    · exact fine_cons (by decide) hl.all hl.nq
  · subst hk
    exact fine_no (by decide) (nn_app (nn_auto ha hb v (by omega)) (by decide))
  · subst hk
    exact fine_no (by decide) (nn_app (a := [116, 116, 112, 58, 47, 47]) (by decide) (nn_app ha.1.nn (nn_app (by decide) hb.1.nn)))
  · subst hk
    have hr := nn_cons (esc_nn v (by omega)) (opt_nn hb)
    have h92 : Fine (92 :: escL.getD v 0 :: b) := fine_no (by decide) hr
    rcases ha with rfl | ha
    · exact h92
    · exact fine_app (fine_words ha.1) h92.all h92.nq
  · subst hk
    have hv6 : v < 5 := by omega
    match v, hv6 with
    | 0, _ => exact (show Fine (entW 0) from fine_dec (by decide))
    | 1, _ => exact (show Fine (entW 1) from fine_dec (by decide))
    | 2, _ => exact (show Fine (entW 2) from fine_dec (by decide))
    | 3, _ => exact (show Fine (entW 3) from fine_dec (by decide))
    | 4, _ => exact (show Fine (entW 4) from fine_dec (by decide))
  · subst hk
    have hv6 : v < 5 := by omega
    match v, hv6 with
    | 0, _ => exact (show Fine (tagW 0) from fine_dec (by decide))
    | 1, _ => exact (show Fine (tagW 1) from fine_dec (by decide))
    | 2, _ => exact (show Fine (tagW 2) from fine_dec (by decide))
    | 3, _ => exact (show Fine (tagW 3) from fine_dec (by decide))
    | 4, _ => exact (show Fine (tagW 4) from fine_dec (by decide))
  · subst hk
    have hv6 : v < 7 := by omega
    match v, hv6 with
    | 0, _ => exact (show Fine (loneW 0) from fine_dec (by decide))
    | 1, _ => exact (show Fine (loneW 1) from fine_dec (by decide))
    | 2, _ => exact (show Fine (loneW 2) from fine_dec (by decide))
    | 3, _ => exact (show Fine (loneW 3) from fine_dec (by decide))
    | 4, _ => exact (show Fine (loneW 4) from fine_dec (by decide))
    | 5, _ => exact (show Fine (loneW 5) from fine_dec (by decide))
    | 6, _ => exact (show Fine (loneW 6) from fine_dec (by decide))
  · rcases hk with hk | hk | hk | hk <;> subst hk
    · exact fine_no fo (nn_cons go (nn_app ha.nn (nn_cons (by decide) (nn_cons gz (nn_app hb.nn (nn_cons gz (nn_cons (by decide) (nn_app hc.nn (nn_cons go (nn_cons go nn_nil))))))))))
    · exact fine_no fo (nn_app ha.nn (nn_cons (by decide) (nn_cons gz (nn_cons gz (nn_app hb.nn (nn_cons gz (nn_cons gz (nn_cons (by decide) (nn_app hc.nn (nn_cons go nn_nil))))))))))
    · exact fine_no (by decide) (nn_cons (by decide) (nn_app ha.nn (nn_cons (by decide) (nn_cons go (nn_app hb.nn (nn_cons go (nn_cons (by decide) (nn_app hc.nn (by decide)))))))))
    · exact fine_no fo (nn_app ha.nn (nn_cons (by decide) (nn_cons (by decide) (nn_cons (by decide) (nn_app hb.nn (nn_cons (by decide) (nn_cons (by decide) (nn_cons (by decide) (nn_app hc.nn (nn_cons go nn_nil))))))))))
  · rcases hk with hk | hk <;> subst hk
    · exact fine_no (by decide) (nn_app ha.nn (nn_cons (by decide) (nn_cons go (nn_app hb.nn (nn_cons go (nn_cons (by decide) (nn_cons (by decide) (nn_app hc.nn (by decide)))))))))
    · exact fine_no (by decide) (nn_app ha.nn (nn_cons (by decide) (nn_cons (by decide) (nn_app hb.nn (nn_cons (by decide) (nn_cons (by decide) (nn_cons (by decide) (nn_app hc.nn (by decide)))))))))
  · subst hk
    exact fine_no (by decide) (nn_cons (by decide) (nn_cons (by decide) (nn_app ha.nn (nn_cons (by decide) (nn_cons (by decide) (nn_app hb.nn (nn_cons (by decide) (nn_cons (by decide) (nn_cons (by decide) (nn_app hc.nn (by decide)))))))))))

theorem pc_runs {x : Ctx} {e f : Nat} {p : Pc} {bg : Bool} (hx : x.ext ≤ 131070) (hR : Right p bg) (h : At x.D e (wr p)) (hf : f = e + (wr p).length) (hn : Nxt x.D f) (h13 : p.kind = 13 → f < x.D.length → x.D.getD f 0 = 32) (h9 : p.kind = 9 → f < x.D.length → x.D.getD f 0 = 32 ∨ x.D.getD f 0 = 10)
    (hprev : 0 < e → isLet (x.D.getD (e - 1) 0) = false) (hA : ∀ s, ¬ (x.D.getD (s + 6) 0 = 102 ∧ x.D.getD (s + 7) 0 = 61 ∧ x.D.getD (s + 8) 0 = 34)) : Runs x 1 false 0 e f (me x.ext p) := by
  subst hf
  obtain ⟨kind, ch, var, sep, a, b, c⟩ := p
  obtain ⟨h1, h2, h3, h4, h5, hK⟩ := hR
  simp only [RightK] at *
  have ho : (oneC ch = 42 ∧ oddC ch = 95) ∨ (oneC ch = 95 ∧ oddC ch = 42) := by
    unfold oneC oddC
    by_cases hc : ch = 0
    · rw [if_pos hc, if_pos hc]; exact .inl ⟨rfl, rfl⟩
    · rw [if_neg hc, if_neg hc]; exact .inr ⟨rfl, rfl⟩
  simp only [wr, me] at *
  generalize oneC ch = o at *
  generalize oddC ch = z at *
  have ho1 : o = 42 ∨ o = 95 := ho.imp And.left And.left
  generalize hv : var.toNat = v at *
  rcases hK with ⟨hk, ha⟩ | ⟨hk, hv5, ha, hb⟩ | ⟨hk, hv5, ha, hb, hc⟩ | ⟨hk, hv5, ha, hb⟩ | ⟨hk, ha, hb⟩ | ⟨hk, hv5, ha, hb⟩ | ⟨hk, hv5⟩ | ⟨hk, hv5, hbg⟩ | ⟨hk, hv5, hbg, hs⟩ | ⟨hk, ha, hb, hc⟩ | ⟨hk, ha, hb, hc⟩ | ⟨hk, ha, hb, hc⟩
  · rcases hk with hk | hk | hk | hk | hk <;> subst hk
    · exact pk_0 ha h hn
    · exact pk_1 hx ho1 ha h hn
    · exact pk_2 ho1 ha h
    · exact pk_3 ho1 ha h
    · exact pk_4 ha h hn
  · subst hk
    exact pk_5 (by omega) ha hb h
  · rcases hk with hk | hk <;> subst hk
    · exact pk_6 (by omega) hx ha hb hc h
    · exact pk_7 (by omega) hx ha hb hc h
  · subst hk
    exact pk_8 (by omega) ha hb h
  · subst hk
    exact pk_9 ha hb h (h9 rfl) hprev hA
  · subst hk
    exact pk_10 hx (by omega) ha hb h hn
  · subst hk
    exact pk_11 (by omega) h
  · subst hk
    exact pk_12 (by omega) h
  · subst hk
    exact pk_13 (by omega) h (h13 rfl)
  · rcases hk with hk | hk | hk | hk <;> subst hk
    · exact pk_14 hx ho ha hb hc h
    · exact pk_15 hx ho ha hb hc h hn
    · exact pk_18 hx ho1 ha hb hc h
    · exact pk_19 hx ho1 ha hb hc h hn
  · rcases hk with hk | hk <;> subst hk
    · exact pk_16 hx ho1 ha hb hc h
    · exact pk_17 hx ha hb hc h
  · subst hk
    exact pk_20 hx ha hb hc h
theorem runs_sep {x : Ctx} {e s : Nat} (hx : x.ext ≤ 131070) (hs : s < 4) (h8 : s = 3 → x.ext.testBit 8 = true → x.ext.testBit 15 = true) (h : At x.D e (sepW s)) (hn : e + (sepW s).length < x.D.length → x.D.getD (e + (sepW s).length) 0 ≠ 32 ∧ x.D.getD (e + (sepW s).length) 0 ≠ 10) :
    Runs x 1 false 0 e (e + (sepW s).length) (sepM x.ext s) := by
  match s, hs with
  | 0, _ => exact runs_blank h hn
  | 1, _ =>
    by_cases hb : x.ext.testBit 8 = true
    · rw [show sepM x.ext 1 = [inO 0 16] from if_pos (.inr (.inl ⟨rfl, hb⟩))]
      have := Runs.take (d := 0) (by omega) (nl_takes x 1 false e hx hb (At.head (l := []) h)) (by simp [gw_one, gw_nil])
      rw [Option.getD_some, flatG_one] at this
      exact this
    · rw [show sepM x.ext 1 = [inT 0 (sepW 1)] from if_neg (by rintro (h | ⟨_, h⟩ | ⟨h, _⟩) <;> first | cases h | exact hb h)]
      exact runs_quiet1 (c := 10) h (quiet_of (At.head (l := []) h) (by simp [cbN]) (fun w hi => nl_quiet x 1 false e hx (by simpa using hb) w hi))
  | 2, _ =>
    have hA : At x.D e (32 :: 32 :: [10]) := h
    rw [show sepM x.ext 2 = [inO 0 16] from if_pos (.inl rfl)]
    have := Runs.take (d := 0) (by omega) (brk_takes x 1 false e hA.2 hA.head hA.tail.head hA.tail.tail.head) (by simp [gw_one, gw_nil])
    rw [Option.getD_some, flatG_one] at this
    exact this
  | 3, _ =>
    have hA : At x.D e (92 :: [10]) := h
    by_cases hb : x.ext.testBit 15 = true
    · rw [show sepM x.ext 3 = [inO 0 16] from if_pos (.inr (.inr ⟨rfl, hb⟩))]
      have := Runs.take (d := 0) (by omega) (bs_takes x 1 false e hx hb hA.head hA.2 hA.tail.head) (by simp [gw_one, gw_nil])
      rw [Option.getD_some, flatG_one] at this
      exact this
    · rw [show sepM x.ext 3 = [inT 0 (sepW 3)] from if_neg (by rintro (h | ⟨h, _⟩ | ⟨_, h⟩) <;> first | cases h | exact hb h)]
      have hb8 : x.ext.testBit 8 = false := by
        cases hc : x.ext.testBit 8 with
        | false => rfl
        | true => exact absurd (h8 rfl hc) hb
      have g1 := runs_quiet1 (k := 1) (ins := false) (d := 0) (at_one hA) (quiet_of hA.head (by simp [cbN]) (fun w hi => bs_quiet x 1 false e hx (by simpa using hb) hA.2 hA.tail.head w hi))
      have g2 := runs_quiet1 (k := 1) (ins := false) (d := 0) hA.tail (quiet_of hA.tail.head (by simp [cbN]) (fun w hi => nl_quiet x 1 false (e + 1) hx hb8 w hi))
      exact (g1.app g2).eqv (eqv_app 0 [92] [10])
theorem sep_head : ∀ s : Nat, s < 4 → 0 < (sepW s).length ∧ ((sepW s).getD 0 0 = 32 ∨ (sepW s).getD 0 0 = 10 ∨ (sepW s).getD 0 0 = 92) ∧ (s = 0 → (sepW s).getD 0 0 = 32) ∧ (s ≠ 3 → (sepW s).getD 0 0 = 32 ∨ (sepW s).getD 0 0 = 10) ∧ isLet ((sepW s).getD ((sepW s).length - 1) 0) = false ∧ (∀ y ∈ sepW s, y ≠ 34) := by
  intro s hs
  match s, hs with
  | 0, _ => decide
  | 1, _ => decide
  | 2, _ => decide
  | 3, _ => decide
theorem line_head {ext : Nat} {bg : Bool} {q : Pc} {r : List Pc} (h : AllRight ext bg (q :: r)) : ∃ t, lineW (q :: r) = wr q ++ t := by
  cases r with
  | nil => exact ⟨[], by rw [lineW, List.append_nil]⟩
  | cons p r => exact ⟨_, rfl⟩
theorem line_nq {ext : Nat} : ∀ (l : List Pc) (bg : Bool), AllRight ext bg l → Nq (lineW l)
  | [], _, _ => nq_no fun y hy => by cases hy
  | [p], bg, h => (fine_piece h.1).nq
  | p :: q :: r, bg, h => by
    have hs := h.1
    rw [lineW]
    refine nq_app (fine_piece h.1).nq (nq_app (nq_no ?_) (line_nq (q :: r) _ h.2.2))
    have := (sep_head p.sep.toNat (by have := h.1.2.2.2.1; have := h.1.2.2.2.2.1; omega)).2.2.2.2.2
    exact this
theorem line_last {ext : Nat} : ∀ (l : List Pc) (bg : Bool), AllRight ext bg l → l ≠ [] → 0 < (lineW l).length ∧ (lineW l).getD ((lineW l).length - 1) 0 ≠ 10
  | [], _, _, h => absurd rfl h
  | [p], bg, h, _ => ⟨(fine_piece h.1).pos, (fine_piece h.1).all _ (mem_at (by have := (fine_piece h.1).pos; show (wr p).length - 1 < (wr p).length; omega))⟩
  | p :: q :: r, bg, h, _ => by
    obtain ⟨h1, h2⟩ := line_last (q :: r) _ h.2.2 (by simp)
    rw [lineW, ← List.append_assoc]
    exact ⟨by rw [List.length_append]; omega, by rw [getD_last h1]; exact h2⟩
theorem line_runs {x : Ctx} (hx : x.ext ≤ 131070) (hA : ∀ s, ¬ (x.D.getD (s + 6) 0 = 102 ∧ x.D.getD (s + 7) 0 = 61 ∧ x.D.getD (s + 8) 0 = 34)) : ∀ (l : List Pc) (bg : Bool) (e : Nat), AllRight x.ext bg l → At x.D e (lineW l) → e + (lineW l).length = x.D.length → (0 < e → isLet (x.D.getD (e - 1) 0) = false) → Runs x 1 false 0 e x.D.length (lineM x.ext l)
  | [], bg, e, h, hW, he, hp => by
    have : e = x.D.length := he
    rw [← this]; exact Runs.nil x 1 false 0 e
  | [p], bg, e, h, hW, he, hp => by
    rw [lineW] at hW he
    exact pc_runs hx h.1 hW he.symm (fun h => absurd h (Nat.lt_irrefl _)) (fun _ h => absurd h (Nat.lt_irrefl _)) (fun _ h => absurd h (Nat.lt_irrefl _)) hp hA
  | p :: q :: r, bg, e, h, hW, he, hp => by
    rw [lineW] at hW he
    rw [lineM]
    have hs0 := h.1.2.2.2.1
    have hs4 := h.1.2.2.2.2.1
    obtain ⟨s, hs⟩ : ∃ s, s = p.sep.toNat := ⟨_, rfl⟩
    rw [← hs] at hW he ⊢
    have hsi : p.sep = (s : Int) := by omega
    obtain ⟨f1, f2, f3, f4, f5, f6⟩ := sep_head s (by omega)
    have hS := hW.right.left
    have hQ := hW.right.right
    have g0 := hS.1 0 f1
    rw [Nat.add_zero] at g0
    obtain ⟨t, ht⟩ := line_head h.2.2
    have hfq := fine_piece h.2.2.1
    have hq0 : x.D.getD (e + (wr p).length + (sepW s).length) 0 = (wr q).getD 0 0 := by
      have hQ' := hQ
      rw [ht] at hQ'
      have := hQ'.left.1 0 hfq.pos
      rwa [Nat.add_zero] at this
    have hsok := h.2.1
    have k9 : p.kind = 9 → s ≠ 3 := fun hk h3 => (hsok (by omega)).1 hk
    have k13 : p.kind = 13 → s = 0 := fun hk => by
      have hK := h.1.2.2.2.2.2
      rw [RightK] at hK
      rcases hK with ⟨h', _⟩ | ⟨h', _⟩ | ⟨h', _⟩ | ⟨h', _⟩ | ⟨h', _⟩ | ⟨h', _⟩ | ⟨h', _⟩ | ⟨h', _⟩ | ⟨h', _, _, hs⟩ | ⟨h', _⟩ | ⟨h', _⟩ | ⟨h', _⟩ <;> omega
    have r1 := pc_runs hx h.1 hW.left rfl (fun _ => by rw [g0]; exact f2) (fun hk _ => by rw [g0]; exact f3 (k13 hk)) (fun hk _ => by rw [g0]; exact f4 (k9 hk)) hp hA
    have r2 := runs_sep hx (by omega) (fun h3 h8 => (hsok (by omega)).2 h8) hS (fun _ => by rw [hq0]; exact hfq.head)
    have r3 := line_runs hx hA (q :: r) _ _ h.2.2 hQ (by rw [← he, List.length_append, List.length_append]; omega) (fun _ => by
      have := hS.1 ((sepW s).length - 1) (by omega)
      rw [show e + (wr p).length + (sepW s).length - 1 = e + (wr p).length + ((sepW s).length - 1) from by omega, this]
      exact f5)
    have := (r1.app r2).app r3
    rwa [List.append_assoc] at this
theorem line_segs {x : Ctx} {l : List Pc} {bg : Bool} (hx : x.ext ≤ 131070) (h : AllRight x.ext bg l) (hD : x.D = lineW l) : ∃ sg, SegsOk x 1 false sg 0 ∧ joined (flatG 0 (outG x.D sg 0 0)) = joined (lineM x.ext l) ∧ gw (outG x.D sg 0 0) ≤ 4 * x.D.length + 1 := by
  have hq := line_nq l bg h
  rw [← hD] at hq
  have hA : ∀ s, ¬ (x.D.getD (s + 6) 0 = 102 ∧ x.D.getD (s + 7) 0 = 61 ∧ x.D.getD (s + 8) 0 = 34) := by
    rintro s ⟨h1, h2, h3⟩
    exact ((hq (s + 8) h3).2 h2).2 h1
  have := line_runs hx hA l bg 0 h (by rw [hD]; exact at_full _) (by rw [hD]; omega) (fun h => absurd h (Nat.lt_irrefl _))
  obtain ⟨sg, h1, h2, h3⟩ := Runs.done this
  exact ⟨sg, h1, h2.joined, h3⟩

theorem litSum_nil : litSum [] = 0 := rfl
theorem litSum_app (a b : List InN) : litSum (a ++ b) = litSum a + litSum b := by
  unfold litSum
  rw [List.map_append, List.sum_append]
theorem entW_len : ∀ v : Nat, v < 5 → (entW v).length ≤ 10 ∧ (entT v).length ≤ 10 := by
  intro v hv
  match v, hv with
  | 0, _ => decide
  | 1, _ => decide
  | 2, _ => decide
  | 3, _ => decide
  | 4, _ => decide
theorem tagW_len : ∀ v : Nat, v < 5 → (tagW v).length ≤ 20 := by
  intro v hv
  match v, hv with
  | 0, _ => decide
  | 1, _ => decide
  | 2, _ => decide
  | 3, _ => decide
  | 4, _ => decide
theorem loneW_len : ∀ v : Nat, v < 7 → (loneW v).length ≤ 20 := by
  intro v hv
  match v, hv with
  | 0, _ => decide
  | 1, _ => decide
  | 2, _ => decide
  | 3, _ => decide
  | 4, _ => decide
  | 5, _ => decide
  | 6, _ => decide
theorem lkW_len (a b c : Bs) (v : Nat) (ha : a.length ≤ 60) (hb : b.length ≤ 60) (hc : c.length ≤ 60) : (lkW a b c v).length ≤ 250 := by
  unfold lkW
  split <;> (simp; omega)
theorem autoW_len2 (a b : Bs) (v : Nat) (ha : a.length ≤ 60) (hb : b.length ≤ 60) : (autoW a b v).length ≤ 250 := by
  unfold autoW
  split <;> (simp [bareW, mailW, m7L]; omega)
theorem right_lens {p : Pc} {bg : Bool} (h : Right p bg) (v : Nat) (hv : v = p.var.toNat) (o z : UInt8) (del auto : Bool) : (wrK o z p.a p.b p.c p.kind.toNat v).length ≤ 400 ∧ (meK del auto o z p.a p.b p.c p.kind.toNat v).length ≤ 5 ∧ litSum (meK del auto o z p.a p.b p.c p.kind.toNat v) ≤ 400 := by
  obtain ⟨kind, ch, var, sep, a, b, c⟩ := p
  obtain ⟨h1, h2, h3, h4, h5, hK⟩ := h
  simp only [RightK] at *
  rcases hK with ⟨hk, ha⟩ | ⟨hk, hv5, ha, hb⟩ | ⟨hk, hv5, ha, hb, hc⟩ | ⟨hk, hv5, ha, hb⟩ | ⟨hk, ha, hb⟩ | ⟨hk, hv5, ha, hb⟩ | ⟨hk, hv5⟩ | ⟨hk, hv5, hbg⟩ | ⟨hk, hv5, hbg, hs⟩ | ⟨hk, ha, hb, hc⟩ | ⟨hk, ha, hb, hc⟩ | ⟨hk, ha, hb, hc⟩
  · have la := ha.len
    rcases hk with hk | hk | hk | hk | hk <;> subst hk
    · refine ⟨?_, ?_, ?_⟩ <;> simp [wrK, meK, litSum_cons, litSum_nil, inT, inO] <;> omega
    · refine ⟨?_, ?_, ?_⟩ <;> simp [wrK, meK, litSum_cons, litSum_nil, inT, inO] <;> omega
    · refine ⟨?_, ?_, ?_⟩ <;> simp [wrK, meK, litSum_cons, litSum_nil, inT, inO] <;> omega
    · refine ⟨?_, ?_, ?_⟩ <;> simp [wrK, meK, litSum_cons, litSum_nil, inT, inO] <;> omega
    · cases del <;> (refine ⟨?_, ?_, ?_⟩ <;> simp [wrK, meK, litSum_cons, litSum_nil, inT, inO] <;> omega)
  · subst hk
    have la := ha.len
    have lb := hb.len
    have hv6 : v < 4 := by omega
    match v, hv6 with
    | 0, _ => refine ⟨?_, ?_, ?_⟩ <;> simp [wrK, meK, litSum_cons, litSum_nil, inT, inO] <;> omega
    | 1, _ => refine ⟨?_, ?_, ?_⟩ <;> simp [wrK, meK, litSum_cons, litSum_nil, inT, inO] <;> omega
    | 2, _ => refine ⟨?_, ?_, ?_⟩ <;> simp [wrK, meK, litSum_cons, litSum_nil, inT, inO] <;> omega
    | 3, _ => refine ⟨?_, ?_, ?_⟩ <;> simp [wrK, meK, litSum_cons, litSum_nil, inT, inO] <;> omega
  · have la := ha.len
    have lb := hb.len
    have lc := hc.len
    have ll := lkW_len a b c v la (by omega) lc
    have hlk : ∀ t, (lkM t a b c v).length = 2 ∧ litSum (lkM t a b c v) = a.length := fun t => by
      unfold lkM
      split <;> simp [litSum_cons, litSum_nil, inT]
    rcases hk with hk | hk <;> subst hk
    · refine ⟨?_, ?_, ?_⟩
      · show (lkW a b c v).length ≤ 400
        omega
      · show (lkM 10 a b c v).length ≤ 5
        rw [(hlk 10).1]; omega
      · show litSum (lkM 10 a b c v) ≤ 400
        rw [(hlk 10).2]; omega
    · refine ⟨?_, ?_, ?_⟩
      · show (33 :: lkW a b c v).length ≤ 400
        rw [List.length_cons]; omega
      · show (lkM 11 a b c v).length ≤ 5
        rw [(hlk 11).1]; omega
      · show litSum (lkM 11 a b c v) ≤ 400
        rw [(hlk 11).2]; omega
  · subst hk
    have la := ha.1.len
    have lb := hb.1.len
    have ll := autoW_len2 a b v la lb
    refine ⟨?_, ?_, ?_⟩
    · show (60 :: (autoW a b v ++ [62])).length ≤ 400
      simp; omega
    · show 2 ≤ 5
      omega
    · show litSum [inL 10 (autoTo a b v), inT 1 (if v = 3 then (autoW a b v).drop 7 else autoW a b v)] ≤ 400
      rw [litSum_cons, litSum_cons, litSum_nil]
      have : (if v = 3 then (autoW a b v).drop 7 else autoW a b v).length ≤ 250 := by
        split
        · rw [List.length_drop]; omega
        · exact ll
      simp only [inL, inT, List.length_nil]
      omega
  · subst hk
    have la := ha.1.len
    have lb := hb.1.len
    cases auto <;> (refine ⟨?_, ?_, ?_⟩ <;> simp [wrK, meK, litSum_cons, litSum_nil, inT, inO, inL, bareW] <;> omega)
  · subst hk
    have la : a.length ≤ 60 := by
      rcases ha with rfl | ha
      · decide
      · exact ha.1.len
    have lb : b.length ≤ 60 := by
      rcases hb with rfl | hb
      · decide
      · exact hb.1.len
    refine ⟨?_, ?_, ?_⟩ <;> simp [wrK, meK, litSum_cons, litSum_nil, inT, inO] <;> omega
  · subst hk
    have := entW_len v (by omega)
    refine ⟨?_, ?_, ?_⟩
    · show (entW v).length ≤ 400
      omega
    · show 1 ≤ 5
      omega
    · show (entT v).length + 0 ≤ 400
      omega
  · subst hk
    have := tagW_len v (by omega)
    refine ⟨?_, ?_, ?_⟩
    · show (tagW v).length ≤ 400
      omega
    · show 1 ≤ 5
      omega
    · show (tagW v).length + 0 ≤ 400
      omega
  · subst hk
    have := loneW_len v (by omega)
    refine ⟨?_, ?_, ?_⟩
    · show (loneW v).length ≤ 400
      omega
    · show 1 ≤ 5
      omega
    · show (loneW v).length + 0 ≤ 400
      omega
  · have la := ha.len
    have lb := hb.len
    have lc := hc.len
    rcases hk with hk | hk | hk | hk <;> subst hk
    · refine ⟨?_, ?_, ?_⟩ <;> simp [wrK, meK, litSum_cons, litSum_nil, inT, inO] <;> omega
    · refine ⟨?_, ?_, ?_⟩ <;> simp [wrK, meK, litSum_cons, litSum_nil, inT, inO] <;> omega
    · cases del <;> (refine ⟨?_, ?_, ?_⟩ <;> simp [wrK, meK, litSum_cons, litSum_nil, inT, inO] <;> omega)
    · cases del <;> (refine ⟨?_, ?_, ?_⟩ <;> simp [wrK, meK, litSum_cons, litSum_nil, inT, inO] <;> omega)
  · have la := ha.len
    have lb := hb.len
    have lc := hc.len
    rcases hk with hk | hk <;> subst hk <;> (refine ⟨?_, ?_, ?_⟩ <;> simp [wrK, meK, litSum_cons, litSum_nil, inT, inO, inL] <;> omega)
  · subst hk
    have la := ha.len
    have lb := hb.len
    have lc := hc.len
    refine ⟨?_, ?_, ?_⟩ <;> simp [wrK, meK, litSum_cons, litSum_nil, inT, inO, inL] <;> omega
theorem wr_len {p : Pc} {bg : Bool} (h : Right p bg) : (wr p).length ≤ 400 := (right_lens h _ rfl _ _ false false).1
theorem me_len {p : Pc} {bg : Bool} (h : Right p bg) (e : Nat) : (me e p).length ≤ 5 := (right_lens h _ rfl _ _ _ _).2.1
theorem me_lit {p : Pc} {bg : Bool} (h : Right p bg) (e : Nat) : litSum (me e p) ≤ 400 := (right_lens h _ rfl _ _ _ _).2.2
theorem meK_pos (del auto : Bool) (o z : UInt8) (a b c : Bs) (k v : Nat) : 0 < (meK del auto o z a b c k v).length := by
  unfold meK
  split <;> first | (simp; done) | (split <;> simp; done) | (unfold lkM; split <;> simp)
theorem me_pos (e : Nat) (p : Pc) : 0 < (me e p).length := meK_pos _ _ _ _ _ _ _ _ _
theorem sepW_len (s : Nat) : (sepW s).length ≤ 3 := by
  unfold sepW
  split <;> decide
theorem sepM_len (e s : Nat) : (sepM e s).length = 1 := by
  unfold sepM
  split <;> rfl
theorem sepM_lit (e s : Nat) : litSum (sepM e s) ≤ 3 := by
  unfold sepM
  split
  · decide
  · rw [litSum_cons, litSum_nil]
    exact sepW_len s
theorem line_len {ext : Nat} : ∀ (l : List Pc) (bg : Bool), AllRight ext bg l → (lineW l).length ≤ 403 * l.length
  | [], _, _ => by rw [lineW]; exact Nat.zero_le _
  | [p], bg, h => by
    have := wr_len h.1
    rw [lineW, List.length_singleton]; omega
  | p :: q :: r, bg, h => by
    have h1 := wr_len h.1
    have h2 := line_len (q :: r) _ h.2.2
    have h3 := sepW_len p.sep.toNat
    rw [lineW, List.length_append, List.length_append, List.length_cons]
    omega

theorem flat_len : ∀ (f : F) (d : Int), (flatG d f.abs).length = f.blocks.length
  | .nil, _ => rfl
  | .cons a x k r, d => by
    rw [F.abs, flatG, F.blocks, List.length_cons, List.length_cons, List.length_append, List.length_append, flat_len k, flat_len r]
def RelAt (i : Nat) (p d : Int) (N : List InN) (j : Nat) (s : RS) (m : InN) : Prop :=
  m.ty = s.ty ∧ m.lit = s.lb.getD [] ∧ m.dst = s.db.getD [] ∧ m.ttl = s.tb.getD [] ∧ m.has = s.tb.isSome ∧ ((s.p = p ∧ m.dep = d) ∨ ∃ k m', s.p = ((i + k : Nat) : Int) ∧ k < j ∧ N[k]? = some m' ∧ m.dep = m'.dep + 1)
theorem flat_rel : ∀ (f : F) (p : Int) (i : Nat) (d : Int) (j : Nat) (s : RS) (m : InN), (flatF f p i)[j]? = some s → (flatG d f.abs)[j]? = some m → RelAt i p d (flatG d f.abs) j s m
  | .nil, p, i, d, j, s, m, h, _ => by simp [flatF] at h
  | .cons a x k r, p, i, d, 0, s, m, hs, hm => by
    simp only [F.abs, flatF, flatG, List.getElem?_cons_zero, Option.some.injEq] at hs hm
    subst hs hm
    exact ⟨rfl, rfl, rfl, rfl, rfl, .inl ⟨rfl, rfl⟩⟩
  | .cons a x k r, p, i, d, j + 1, s, m, hs, hm => by
    simp only [F.abs, flatF, flatG, List.getElem?_cons_succ] at hs hm
    have l1 := flatF_length k i (i + 1)
    have l2 := flat_len k (d + 1)
    by_cases hj : j < k.blocks.length
    · rw [List.getElem?_append_left (by omega)] at hs hm
      obtain ⟨h1, h2, h3, h4, h5, h6⟩ := flat_rel k i (i + 1) (d + 1) j s m hs hm
      refine ⟨h1, h2, h3, h4, h5, .inr ?_⟩
      rcases h6 with ⟨h7, h8⟩ | ⟨c, m', h7, h8, h9, h10⟩
      · exact ⟨0, _, by rw [h7]; simp, by omega, rfl, h8⟩
      · refine ⟨c + 1, m', by rw [h7]; congr 1; omega, by omega, ?_, h10⟩
        simp only [F.abs, flatG, List.getElem?_cons_succ]
        rw [List.getElem?_append_left (by omega)]
        exact h9
    · rw [List.getElem?_append_right (by omega), l1] at hs
      rw [List.getElem?_append_right (by omega), l2] at hm
      obtain ⟨h1, h2, h3, h4, h5, h6⟩ := flat_rel r p (i + 1 + k.blocks.length) d (j - k.blocks.length) s m hs hm
      refine ⟨h1, h2, h3, h4, h5, ?_⟩
      rcases h6 with h7 | ⟨c, m', h7, h8, h9, h10⟩
      · exact .inl h7
      · refine .inr ⟨c + k.blocks.length + 1, m', by rw [h7]; congr 1; omega, by omega, ?_, h10⟩
        simp only [F.abs, flatG, List.getElem?_cons_succ]
        rw [List.getElem?_append_right (by omega), l2, Nat.add_sub_cancel]
        exact h9
/-- The rows of the nodes below a root, and the nodes. -/
structure RowsOf (R : List RS) (N : List InN) : Prop where
  len : R.length = N.length
  rel : ∀ j s m, R[j]? = some s → N[j]? = some m → RelAt 1 0 0 N j s m
theorem rowsOf_flat (f : F) : RowsOf (flatF f 0 1) (flatG 0 f.abs) := ⟨by rw [flatF_length, flat_len], fun j s m => flat_rel f 0 1 0 j s m⟩
theorem RowsOf.dep {R : List RS} {N : List InN} (h : RowsOf R N) : ∀ (j : Nat) (m : InN), N[j]? = some m → 0 ≤ m.dep ∧ m.dep ≤ j := by
  intro j
  induction j using Nat.strongRecOn with
  | ind j ih =>
    intro m hm
    have hj : j < R.length := by rw [h.len]; exact (List.getElem?_eq_some_iff.1 hm).1
    obtain ⟨_, _, _, _, _, h6⟩ := h.rel j _ m (List.getElem?_eq_getElem hj) hm
    rcases h6 with ⟨_, h8⟩ | ⟨c, m', _, h8, h9, h10⟩
    · omega
    · have := ih c h8 m' h9
      omega
def inlTy (t : Int) : Prop := (7 ≤ t ∧ t ≤ 12) ∨ (15 ≤ t ∧ t ≤ 18)
theorem joinStep_ty {out : List InN} {n : InN} : ∀ m ∈ joinStep out n, (∃ x ∈ out, x.ty = m.ty) ∨ n.ty = m.ty := by
  intro m hm
  unfold joinStep at hm
  split at hm
  · split at hm
    · exact .inl ⟨m, hm, rfl⟩
    · split at hm
      · rcases List.mem_append.1 hm with h | h
        · exact .inl ⟨m, h, rfl⟩
        · rw [List.mem_singleton.1 h]; exact .inr rfl
      · rename_i p hp
        split at hm
        · rcases List.mem_append.1 hm with h | h
          · exact .inl ⟨m, List.dropLast_subset _ h, rfl⟩
          · rw [List.mem_singleton.1 h]
            exact .inl ⟨p, List.mem_of_getLast? hp, rfl⟩
        · rcases List.mem_append.1 hm with h | h
          · exact .inl ⟨m, h, rfl⟩
          · rw [List.mem_singleton.1 h]; exact .inr rfl
  · rcases List.mem_append.1 hm with h | h
    · exact .inl ⟨m, h, rfl⟩
    · rw [List.mem_singleton.1 h]; exact .inr rfl
theorem foldl_ty : ∀ (l out : List InN), ∀ m ∈ l.foldl joinStep out, ∃ x ∈ out ++ l, x.ty = m.ty
  | [], out, m, hm => ⟨m, by simpa using hm, rfl⟩
  | n :: l, out, m, hm => by
    obtain ⟨x, hx, hxt⟩ := foldl_ty l _ m hm
    rcases List.mem_append.1 hx with h | h
    · rcases joinStep_ty x h with ⟨y, hy, hyt⟩ | hyt
      · exact ⟨y, by simp [hy], hyt.trans hxt⟩
      · exact ⟨n, by simp, hyt.trans hxt⟩
    · exact ⟨x, by simp [h], hxt⟩
theorem joinStep_keep {out : List InN} {n x : InN} (hx : x ∈ out) (ht : x.ty ≠ 12) : x ∈ joinStep out n := by
  unfold joinStep
  split
  · split
    · exact hx
    · split
      · exact List.mem_append.2 (.inl hx)
      · rename_i p hp
        split
        · rename_i hpt
          refine List.mem_append.2 (.inl ?_)
          have hne : out ≠ [] := by rintro rfl; cases hx
          have hl : out = out.dropLast ++ [p] := by
            have h1 := List.dropLast_concat_getLast hne
            rw [List.getLast?_eq_some_getLast hne] at hp
            injection hp with hp
            rw [hp] at h1
            exact h1.symm
          rw [hl] at hx
          rcases List.mem_append.1 hx with h | h
          · exact h
          · rw [List.mem_singleton.1 h] at ht
            exact absurd hpt.1 ht
        · exact List.mem_append.2 (.inl hx)
  · exact List.mem_append.2 (.inl hx)
theorem foldl_keep : ∀ (l out : List InN) (x : InN), x ∈ out → x.ty ≠ 12 → x ∈ l.foldl joinStep out
  | [], out, x, hx, _ => hx
  | n :: l, out, x, hx, ht => foldl_keep l _ x (joinStep_keep hx ht) ht
theorem mem_joined : ∀ (l out : List InN) (x : InN), x ∈ l → x.ty ≠ 12 → x ∈ l.foldl joinStep out
  | n :: l, out, x, hx, ht => by
    rcases List.mem_cons.1 hx with h | h
    · subst h
      exact foldl_keep l _ x (by rw [joinStep_other ht]; simp) ht
    · exact mem_joined l _ x h ht
theorem inl_of_joined {l l' : List InN} (h : joined l = joined l') (hl : ∀ x ∈ l', inlTy x.ty) : ∀ x ∈ l, inlTy x.ty := by
  intro x hx
  by_cases ht : x.ty = 12
  · rw [ht]; exact .inl ⟨by decide, by decide⟩
  · have h1 : x ∈ joined l := mem_joined l [] x hx ht
    rw [h] at h1
    obtain ⟨y, hy, hyt⟩ := foldl_ty l' [] x h1
    rw [← hyt]
    exact hl y (by simpa using hy)
theorem meK_ty (del auto : Bool) (o z : UInt8) (a b c : Bs) (k v : Nat) : ∀ x ∈ meK del auto o z a b c k v, inlTy x.ty := by
  unfold meK
  split <;> first | (simp [inlTy, inT, inO, inL]; done) | (split <;> simp [inlTy, inT, inO, inL]; done) | (unfold lkM; split <;> simp [inlTy, inT])
theorem sepM_ty (e s : Nat) : ∀ x ∈ sepM e s, inlTy x.ty := by
  unfold sepM
  split <;> simp [inlTy, inT, inO]
theorem lineM_ty (e : Nat) : ∀ (l : List Pc), ∀ x ∈ lineM e l, inlTy x.ty
  | [], x, hx => by cases hx
  | [p], x, hx => meK_ty _ _ _ _ _ _ _ _ _ x hx
  | p :: q :: r, x, hx => by
    rw [lineM] at hx
    rcases List.mem_append.1 hx with h | h
    · exact meK_ty _ _ _ _ _ _ _ _ _ x h
    · rcases List.mem_append.1 h with h | h
      · exact sepM_ty _ _ x h
      · exact lineM_ty e (q :: r) x h
theorem flatG_gw : ∀ (g : G) (d : Int), (flatG d g).length + litSum (flatG d g) ≤ gw g
  | .nil, d => by rw [flatG, gw]; exact Nat.le_refl _
  | .cons ty lb db tb k r, d => by
    have h1 := flatG_gw k (d + 1)
    have h2 := flatG_gw r d
    rw [flatG, gw, List.length_cons, litSum_cons, List.length_append, litSum_app]
    simp only
    omega
theorem small_gw : ∀ (f : F), gw f.abs ≤ 140737488355328 → f.small
  | .nil, _ => trivial
  | .cons a x k r, h => by
    rw [F.abs, gw] at h
    refine ⟨fun l hl => ?_, small_gw k (by omega), small_gw r (by omega)⟩
    rcases hl with hl | hl | hl <;> (rw [hl] at h; simp only [Option.getD_some] at h; omega)
end Go.Proofs.YtalajbfpilhfgaaGreatDoor
