/-
  FnInlineAlone: escapes, entities, tags, lone characters and code as pieces of a line.
  FnInlineAlone: automatic links, bare ones too, as pieces of a line.
-/
import Derived.Test.YtalajbfpilhfgaaGreatDoorK10
import Derived.Test.YtalajbfpilhfgaaGreatDoorK42
set_option linter.unusedVariables false
set_option linter.unusedSimpArgs false
namespace Go.Proofs.YtalajbfpilhfgaaGreatDoor
open Go.RowKit

theorem runs_opt {x : Ctx} {k : Nat} {ins : Bool} {d : Int} {e : Nat} {a : Bs} (hw : a = [] ∨ One a) (h : At x.D e a) (ha : Aft x.D (e + a.length)) : Runs x k ins d e (e + a.length) [inT d a] := by
  rcases hw with rfl | hw
  · exact (Runs.nil x k ins d e).eqv (eqv_nil d).symm
  · exact runs_words hw.1 h ha
theorem esc_facts : ∀ v : Nat, v < 21 → escL.getD v 0 ≠ 10 ∧ 0 ≤ Lib.indexByte escL (escL.getD v 0) := by decide
theorem pk_10 {x : Ctx} {e v : Nat} {del auto : Bool} {o z : UInt8} {a b c : Bs} (hx : x.ext ≤ 131070) (hv : v < 21) (ha : a = [] ∨ One a) (hb : b = [] ∨ One b) (h : At x.D e (wrK o z a b c 10 v)) (hn : Nxt x.D (e + (wrK o z a b c 10 v).length)) : Runs x 1 false 0 e (e + (wrK o z a b c 10 v).length) (meK del auto o z a b c 10 v) := by
  simp only [wrK, meK] at *
  have hl : (a ++ (92 :: escL.getD v 0 :: b)).length = a.length + b.length + 2 := by simp; omega
  rw [hl] at hn ⊢
  have hR := h.right
  have h1 := runs_opt (k := 1) (ins := false) (d := 0) ha h.left (aft_of hR.head (by decide))
  have h2 := h.2
  rw [hl] at h2
  obtain ⟨f1, f2⟩ := esc_facts v hv
  have hT := esc_takes x 1 false (e + a.length) hx hR.head (escL.getD v 0) (by omega) hR.tail.head f1 f2
  have h3 := Runs.take (d := 0) (by omega) hT (by simp [gw_text])
  rw [Option.getD_some, flatG_text] at h3
  have h4 := runs_opt (k := 1) (ins := false) (d := 0) hb hR.tail.tail (by rw [show e + a.length + 1 + 1 + b.length = e + (a.length + b.length + 2) from by omega]; exact hn.aft)
  refine (((h1.app h3).app h4).to (by omega)).eqv ?_
  have := (Eqv.app (eqv_app 0 a [escL.getD v 0]) (Eqv.refl [inT 0 b])).trans (eqv_app 0 _ _)
  simpa using this
theorem ent_facts : ∀ v : Nat, v < 5 → (entW v).length = (entW v).length - 2 + 2 ∧ 0 < (entW v).length - 2 ∧ (entW v).getD 0 0 = 38 ∧ (∀ j, j < (entW v).length - 2 → isAln ((entW v).getD (1 + j) 0) = true) ∧ (entW v).getD (1 + ((entW v).length - 2)) 0 = 59 ∧ (if entW v = ampL then [38] else entW v) = entT v := by
  intro v hv
  match v, hv with
  | 0, _ => decide
  | 1, _ => decide
  | 2, _ => decide
  | 3, _ => decide
  | 4, _ => decide
theorem pk_11 {x : Ctx} {e v : Nat} {del auto : Bool} {o z : UInt8} {a b c : Bs} (hv : v < 5) (h : At x.D e (wrK o z a b c 11 v)) : Runs x 1 false 0 e (e + (wrK o z a b c 11 v).length) (meK del auto o z a b c 11 v) := by
  simp only [wrK, meK] at *
  obtain ⟨f1, f2, f3, f4, f5, f6⟩ := ent_facts v hv
  obtain ⟨m, hm⟩ : ∃ m, m = (entW v).length - 2 := ⟨_, rfl⟩
  rw [← hm] at f1 f2 f4 f5
  have h2 := h.2
  have hT := ent_takes x 1 false e m (entW v) (by rw [← f1]; exact h.text) (by omega) (by have := h.1 0 (by omega); rw [Nat.add_zero] at this; rw [this]; exact f3) f2
    (fun j hj => by rw [Nat.add_assoc, h.1 (1 + j) (by omega)]; exact f4 j hj) (by rw [Nat.add_assoc, h.1 (1 + m) (by omega)]; exact f5)
  have h3 := Runs.take (d := 0) (by omega) hT (by rw [Option.getD_some, gw_text]; have : (if entW v = ampL then ([38] : Bs) else entW v).length ≤ m + 2 := (by split; exact (by show 1 ≤ m + 2; omega); omega); omega)
  rw [Option.getD_some, flatG_text, f6] at h3
  exact h3.to (by omega)
def tagN : Nat → Nat × Nat × Nat
  | 0 => (1, 1, 2)
  | 1 => (2, 1, 3)
  | 2 => (1, 1, 12)
  | _ => (1, 4, 6)
theorem tag_facts : ∀ v : Nat, v < 4 → (tagW v).length = (tagN v).2.2 + 1 ∧ 2 ≤ (tagN v).2.2 ∧ (((tagN v).1 = 1 ∧ (tagW v).getD 1 0 ≠ 47) ∨ ((tagN v).1 = 2 ∧ (tagW v).getD 1 0 = 47)) ∧ 0 < (tagN v).2.1 ∧ (tagN v).1 + (tagN v).2.1 ≤ (tagN v).2.2 ∧ (tagW v).getD 0 0 = 60 ∧ (tagW v).getD 1 0 ≠ 33 ∧
    (∀ j, j < (tagN v).2.1 → isAln ((tagW v).getD ((tagN v).1 + j) 0) = true) ∧
    (isAln ((tagW v).getD ((tagN v).1 + (tagN v).2.1) 0) = false ∧ (tagW v).getD ((tagN v).1 + (tagN v).2.1) 0 ≠ 46 ∧ (tagW v).getD ((tagN v).1 + (tagN v).2.1) 0 ≠ 43 ∧ (tagW v).getD ((tagN v).1 + (tagN v).2.1) 0 ≠ 45 ∧ (tagW v).getD ((tagN v).1 + (tagN v).2.1) 0 ≠ 64 ∧ (tagW v).getD ((tagN v).1 + (tagN v).2.1) 0 ≠ 58) ∧
    (∀ j, j < (tagN v).2.2 → (tagW v).getD j 0 ≠ 62) ∧ (tagW v).getD (tagN v).2.2 0 = 62 := by
  intro v hv
  match v, hv with
  | 0, _ => decide
  | 1, _ => decide
  | 2, _ => decide
  | 3, _ => decide
theorem pk_12 {x : Ctx} {e v : Nat} {del auto : Bool} {o z : UInt8} {a b c : Bs} (hv : v < 5) (h : At x.D e (wrK o z a b c 12 v)) : Runs x 1 false 0 e (e + (wrK o z a b c 12 v).length) (meK del auto o z a b c 12 v) := by
  simp only [wrK, meK] at *
  have h2 := h.2
  have hT : 0 < (tagW v).length ∧ Takes x 1 false e (tagW v).length (some (G.one 18 (some (tagW v)) none none .nil)) := by
    by_cases h4 : v = 4
    · subst h4
      have hl : (tagW 4).length = 10 := rfl
      rw [hl] at h2
      refine ⟨by rw [hl]; omega, ?_⟩
      rw [hl]
      exact lt_span x 1 false e 10 0 10 (tagW 4) (by omega) (.inr ⟨rfl, rfl⟩) (by omega) (At.head (l := [33, 45, 45, 32, 97, 32, 45, 45, 62]) h) h.text
        (fun w hi => tag_no x 1 false e (by omega) (At.head (l := [33, 45, 45, 32, 97, 32, 45, 45, 62]) h) (fun _ => by rw [h.1 1 (by rw [hl]; omega)]; decide) w hi)
        (fun w hi => com_yes x 1 false e (by omega) (fun j hj => h.1 j (by rw [hl]; exact hj)) w hi)
    · obtain ⟨f1, f2, f3, f4, f5, f6, f7, f8, f9, f10, f11⟩ := tag_facts v (by omega)
      generalize (tagN v).1 = q at *
      generalize (tagN v).2.1 = m at *
      generalize (tagN v).2.2 = p at *
      have hg : ∀ j, j ≤ p → x.D.getD (e + j) 0 = (tagW v).getD j 0 := fun j hj => h.1 j (by omega)
      have h0 : x.D.getD e 0 = 60 := by have := hg 0 (by omega); rw [Nat.add_zero] at this; rw [this]; exact f6
      refine ⟨by omega, ?_⟩
      rw [f1]
      exact lt_span x 1 false e (p + 1) (p + 1) 0 (tagW v) (by omega) (.inl ⟨rfl, rfl⟩) (by omega) h0 (by rw [← f1]; exact h.text)
        (fun w hi => tag_tag x 1 false e q m p (by rw [hg 1 (by omega)]; exact f3) f4 f5 (by omega) h0 (fun j hj => by rw [Nat.add_assoc, hg (q + j) (by omega)]; exact f8 j hj) (by rw [hg (q + m) (by omega)]; exact f9) (fun j h1 h2 => by rw [hg j (by omega)]; exact f10 j h2) (by rw [hg p (by omega)]; exact f11) w hi)
        (fun w hi => com_no x 1 false e (by omega) h0 (fun _ => by rw [hg 1 (by omega)]; exact f7) w hi)
  have h3 := Runs.take (d := 0) hT.1 hT.2 (by have := hT.1; simp [gw_one, gw_nil]; omega)
  rw [Option.getD_some, flatG_one] at h3
  exact h3
theorem quiet_of {x : Ctx} {k : Nat} {ins : Bool} {e : Nat} {c : UInt8} {n : Nat} (hc : x.D.getD e 0 = c) (hn : cbN x.ext c = some n) (h : ∀ w, x.inv k ins w → Calls Tryz.prog n #[ptr x.M, x.val, .int .i64 e] w fun r w' => (∃ v, r = .returned (.tuple #[.int .i64 0, v])) ∧ Below w.heap.size w w') : Quiet x k ins e := by
  intro f hf w hi
  rw [hc, hn] at hf
  injection hf with hf
  subst hf
  exact h w hi
theorem pk_13 {x : Ctx} {e v : Nat} {del auto : Bool} {o z : UInt8} {a b c : Bs} (hv : v < 7) (h : At x.D e (wrK o z a b c 13 v)) (hn : e + (wrK o z a b c 13 v).length < x.D.length → x.D.getD (e + (wrK o z a b c 13 v).length) 0 = 32) : Runs x 1 false 0 e (e + (wrK o z a b c 13 v).length) (meK del auto o z a b c 13 v) := by
  simp only [wrK, meK] at *
  match v, hv with
  | 0, _ => exact runs_quiet1 h (quiet_of h.head (by simp [cbN]) (fun w hi => em_quiet1 x 1 false e 42 h.head (by decide) h.2 hn w hi))
  | 1, _ => exact runs_quiet1 h (quiet_of h.head (by simp [cbN]) (fun w hi => em_quiet1 x 1 false e 95 h.head (by decide) h.2 hn w hi))
  | 2, _ =>
    have hA : At x.D e (42 :: [42]) := h
    have h1 := runs_quiet1 (d := 0) (at_one hA) (quiet_of (k := 1) (ins := false) hA.head (by simp [cbN]) (fun w hi => em_quiet2 x 1 false e 42 hA.head (by decide) hA.2 hA.tail.head hn w hi))
    have h2 := runs_quiet1 (d := 0) hA.tail (quiet_of (k := 1) (ins := false) hA.tail.head (by simp [cbN]) (fun w hi => em_quiet1 x 1 false (e + 1) 42 hA.tail.head (by decide) hA.tail.2 hn w hi))
    exact (h1.app h2).eqv (eqv_app 0 [42] [42])
  | 3, _ => exact runs_quiet1 h (quiet_of h.head (by simp [cbN]) (fun w hi => amp_quiet x 1 false e h.head h.2 (fun hh => by rw [show x.D.getD (e + 1) 0 = 32 from hn hh]; decide) w hi))
  | 4, _ => exact runs_quiet1 h (quiet_of h.head (by simp [cbN]) (fun w hi => lt_quiet x 1 false e h.2 h.head hn w hi))
  | 5, _ => exact runs_none h (by simp [cbN])
  | 6, _ => exact runs_quiet1 h (quiet_of h.head (by simp [cbN]) (fun w hi => bang_quiet x 1 false e h.2 (by
      by_cases hh : e + 1 < x.D.length
      · rw [show x.D.getD (e + 1) 0 = 32 from hn hh]; decide
      · rw [getD_end (by omega)]; decide) w hi))
theorem rep_get {n : Nat} {c : UInt8} {j : Nat} (h : j < n) : (List.replicate n c).getD j 0 = c := by
  rw [List.getD_eq_getElem?_getD, List.getElem?_replicate, if_pos h]; rfl
theorem runs_code {x : Ctx} {k : Nat} {ins : Bool} {d : Int} {e nb lb : Nat} {T : Bs} (hnb : 0 < nb) (h : At x.D e (List.replicate nb 96 ++ (List.replicate lb 32 ++ (T ++ (List.replicate lb 32 ++ List.replicate nb 96)))))
    (hp : 0 < T.length) (hf : isLet (T.getD 0 0) = true) (hl : isLet (T.getD (T.length - 1) 0) = true) (h96 : ∀ j, j < T.length → T.getD j 0 = 96 → nb = 2 ∧ 0 < j ∧ T.getD (j - 1) 0 ≠ 96) :
    Runs x k ins d e (e + (nb + (lb + T.length + lb) + nb)) [⟨d, 17, T, [], [], false⟩] := by
  have a1 := h.left
  have r1 := h.right
  have a2 := r1.left
  have r2 := r1.right
  have a3 := r2.left
  have r3 := r2.right
  have a4 := r3.left
  have a5 := r3.right
  simp only [List.length_replicate] at *
  have h2 := a5.2
  simp only [List.length_replicate] at h2
  have g1 : ∀ j, j < nb → x.D.getD (e + j) 0 = 96 := fun j hj => (a1.1 j (by simpa using hj)).trans (rep_get hj)
  have g2 : ∀ j, j < lb → x.D.getD (e + (nb + j)) 0 = 32 := fun j hj => by rw [← Nat.add_assoc]; exact (a2.1 j (by simpa using hj)).trans (rep_get hj)
  have g3 : ∀ j, j < T.length → x.D.getD (e + (nb + (lb + j))) 0 = T.getD j 0 := fun j hj => by rw [show e + (nb + (lb + j)) = e + nb + lb + j from by omega]; exact a3.1 j hj
  have g4 : ∀ j, j < lb → x.D.getD (e + (nb + (lb + T.length + j))) 0 = 32 := fun j hj => by rw [show e + (nb + (lb + T.length + j)) = e + nb + lb + T.length + j from by omega]; exact (a4.1 j (by simpa using hj)).trans (rep_get hj)
  have g5 : ∀ j, j < nb → x.D.getD (e + (nb + (lb + T.length + lb) + j)) 0 = 96 := fun j hj => by rw [show e + (nb + (lb + T.length + lb) + j) = e + nb + lb + T.length + lb + j from by omega]; exact (a5.1 j (by simpa using hj)).trans (rep_get hj)
  have hT := code_takes x k ins e nb (lb + T.length + lb) lb T.length T (fun j => x.D.getD (e + j) 0) (fun j => rfl) hnb rfl hp (by omega) g1
    (fun j hj hd => by
      by_cases j1 : j < lb
      · rw [g2 j j1] at hd; cases hd
      · by_cases j2 : j < lb + T.length
        · obtain ⟨i, rfl⟩ : ∃ i, j = lb + i := ⟨j - lb, by omega⟩
          have hd' : x.D.getD (e + (nb + (lb + i))) 0 = 96 := hd
          rw [g3 i (by omega)] at hd'
          obtain ⟨c1, c2, c3⟩ := h96 i (by omega) hd'
          refine ⟨c1, by omega, ?_, ?_⟩
          · by_cases hi : i + 1 = T.length
            · rw [show T.length - 1 = i from by omega, hd'] at hl; cases hl
            · omega
          · show x.D.getD (e + (nb + (lb + i) - 1)) 0 ≠ 96
            rw [show nb + (lb + i) - 1 = nb + (lb + (i - 1)) from by omega, g3 (i - 1) (by omega)]
            exact c3
        · obtain ⟨i, rfl⟩ : ∃ i, j = lb + T.length + i := ⟨j - (lb + T.length), by omega⟩
          have hd' : x.D.getD (e + (nb + (lb + T.length + i))) 0 = 96 := hd
          rw [g4 i (by omega)] at hd'; cases hd')
    g5 g2
    (by show x.D.getD (e + (nb + lb)) 0 ≠ 32
        have := g3 0 hp
        rw [Nat.add_zero] at this
        rw [this]; exact let_ne hf rfl)
    (by show x.D.getD (e + (nb + lb + T.length - 1)) 0 ≠ 32
        rw [show nb + lb + T.length - 1 = nb + (lb + (T.length - 1)) from by omega, g3 _ (by omega)]; exact let_ne hl rfl)
    (fun j hj => by
      show x.D.getD (e + (nb + lb + T.length + j)) 0 = 32
      rw [show nb + lb + T.length + j = nb + (lb + T.length + j) from by omega]; exact g4 j hj)
    (by rw [← Nat.add_assoc]; exact a3.text)
  have h3 := Runs.take (d := d) (by omega) hT (by simp [gw_one, gw_text, gw_nil]; omega)
  rw [Option.getD_some, flatG_one] at h3
  exact h3
theorem words96 {a : Bs} (h : Words a) {nb : Nat} : ∀ j, j < a.length → a.getD j 0 = 96 → nb = 2 ∧ 0 < j ∧ a.getD (j - 1) 0 ≠ 96 := fun j hj h96 => absurd h96 (wd_ne (h.wd _ (List.mem_of_getElem? (getD_some hj))) rfl)
theorem pk_5 {x : Ctx} {e v : Nat} {del auto : Bool} {o z : UInt8} {a b c : Bs} (hv : v < 4) (ha : Words a) (hb : Words b) (h : At x.D e (wrK o z a b c 5 v)) : Runs x 1 false 0 e (e + (wrK o z a b c 5 v).length) (meK del auto o z a b c 5 v) := by
  match v, hv with
  | 0, _ =>
    have hA : At x.D e (List.replicate 1 96 ++ (List.replicate 0 32 ++ (a ++ (List.replicate 0 32 ++ List.replicate 1 96)))) := h
    refine (runs_code (k := 1) (ins := false) (d := 0) (by omega) hA ha.pos ha.first ha.last (words96 ha)).to ?_
    simp [wrK]; omega
  | 1, _ =>
    have hA : At x.D e (List.replicate 2 96 ++ (List.replicate 0 32 ++ (a ++ (List.replicate 0 32 ++ List.replicate 2 96)))) := h
    refine (runs_code (k := 1) (ins := false) (d := 0) (by omega) hA ha.pos ha.first ha.last (words96 ha)).to ?_
    simp [wrK]; omega
  | 2, _ =>
    have hA : At x.D e (List.replicate 1 96 ++ (List.replicate 1 32 ++ (a ++ (List.replicate 1 32 ++ List.replicate 1 96)))) := h
    refine (runs_code (k := 1) (ins := false) (d := 0) (by omega) hA ha.pos ha.first ha.last (words96 ha)).to ?_
    simp [wrK]; omega
  | 3, _ =>
    have hA : At x.D e (List.replicate 2 96 ++ (List.replicate 1 32 ++ ((a ++ (96 :: b)) ++ (List.replicate 1 32 ++ List.replicate 2 96)))) := by
      rw [List.append_assoc]; exact h
    have hbp := hb.pos
    have hl : (a ++ (96 :: b)).length = a.length + b.length + 1 := by simp; omega
    refine (runs_code (k := 1) (ins := false) (d := 0) (by omega) hA (by omega) (by rw [getD_app_l ha.pos]; exact ha.first) (by
      rw [hl, show a.length + b.length + 1 - 1 = a.length + (b.length - 1 + 1) from by omega, getD_app_r, List.getD_cons_succ]
      exact hb.last) (fun j hj h96 => by
      by_cases j1 : j < a.length
      · rw [getD_app_l j1] at h96
        exact absurd h96 (wd_ne (ha.wd _ (List.mem_of_getElem? (getD_some j1))) rfl)
      · obtain ⟨i, rfl⟩ : ∃ i, j = a.length + i := ⟨j - a.length, by omega⟩
        rw [getD_app_r] at h96
        cases i with
        | zero =>
          have := ha.pos
          refine ⟨rfl, by omega, ?_⟩
          rw [Nat.add_zero, getD_app_l (by omega)]
          exact let_ne ha.last rfl
        | succ i =>
          rw [List.getD_cons_succ] at h96
          exact absurd h96 (wd_ne (hb.wd _ (List.mem_of_getElem? (getD_some (show i < b.length by omega)))) rfl))).to ?_
    simp [wrK]; omega

theorem One.lets {a : Bs} (h : One a) : ∀ c ∈ a, isLet c = true := fun c hc => (h.1.all c hc).resolve_right (h.2 c hc)
theorem aln_let {c : UInt8} (h : isLet c = true) : isAln c = true := by simp [isAln, h]
theorem aln_ne {c k : UInt8} (h : isAln c = true) (hk : isAln k = false) : c ≠ k := by
  rintro rfl
  rw [h] at hk; cases hk
def okA (c : UInt8) : Bool := c != 92 && c != 62 && c != 39 && c != 34 && !isSp c
theorem okA_let {c : UInt8} (h : isLet c = true) : okA c = true := by
  have e1 := let_ne h (k := 92) rfl
  have e2 := let_ne h (k := 62) rfl
  have e3 := let_ne h (k := 39) rfl
  have e4 := let_ne h (k := 34) rfl
  have e5 := let_sp h
  simp [okA, e1, e2, e3, e4, e5]
theorem okA_facts {c : UInt8} (h : okA c = true) : c ≠ 92 ∧ c ≠ 62 ∧ c ≠ 39 ∧ c ≠ 34 ∧ isSp c = false := by
  simp only [okA, Bool.and_eq_true, bne_iff_ne, Bool.not_eq_true'] at h
  exact ⟨h.1.1.1.1, h.1.1.1.2, h.1.1.2, h.1.2, h.2⟩
theorem mem_at {l : Bs} {j : Nat} (h : j < l.length) : l.getD j 0 ∈ l := List.mem_of_getElem? (getD_some h)
theorem runs_auto {x : Ctx} {k : Nat} {ins : Bool} {d : Int} {e : Nat} {pre rest : Bs} (h : At x.D e (60 :: ((pre ++ (58 :: rest)) ++ [62]))) (hp : ∀ c ∈ pre, isAln c = true) (h2 : 2 ≤ pre.length) (hr : ∀ c ∈ rest, okA c = true) (hr0 : 0 < rest.length) (hlen : pre.length + rest.length ≤ 900)
    (h9 : m9L.isPrefixOf (pre ++ (58 :: rest)) = false) (h7 : m7L.isPrefixOf (pre ++ (58 :: rest)) = true → 8 ≤ (pre ++ (58 :: rest)).length) :
    Runs x k ins d e (e + ((pre ++ (58 :: rest)).length + 2)) [⟨d, 10, [], pre ++ (58 :: rest), [], false⟩, inT (d + 1) (if m7L.isPrefixOf (pre ++ (58 :: rest)) = true then (pre ++ (58 :: rest)).drop 7 else pre ++ (58 :: rest))] := by
  have hL : (pre ++ (58 :: rest)).length = pre.length + rest.length + 1 := by simp; omega
  have hA := h.tail.left
  have h62 := h.tail.right.head
  have hb := h.2
  simp only [List.length_cons, List.length_append, List.length_nil] at hb
  have gpre : ∀ j, j < pre.length → isAln (x.D.getD (e + 1 + j) 0) = true := fun j hj => by rw [hA.left.1 j hj]; exact hp _ (mem_at hj)
  have g58 := hA.right.head
  have grest : ∀ j, j < rest.length → okA (x.D.getD (e + 1 + pre.length + 1 + j) 0) = true := fun j hj => by rw [hA.right.tail.1 j hj]; exact hr _ (mem_at hj)
  have hT := lt_auto x k ins e (pre.length + rest.length + 2) (pre ++ (58 :: rest)) _ (by omega) (by omega) h.head (by rw [show pre.length + rest.length + 2 - 1 = (pre ++ (58 :: rest)).length from by omega]; exact hA.text) (by omega)
    (fun j hj => by
      rw [hL] at hj
      rw [← hA.1 j (by omega)]
      by_cases j1 : j < pre.length
      · exact aln_ne (gpre j j1) rfl
      · by_cases j2 : j = pre.length
        · rw [j2, g58]; decide
        · rw [show e + 1 + j = e + 1 + pre.length + 1 + (j - pre.length - 1) from by omega]
          exact (okA_facts (grest _ (by omega))).1)
    h9 h7 rfl
    (fun w hi => tag_auto x k ins e pre.length (pre.length + rest.length + 2) h2 (by omega) (by omega) h.head gpre (by rw [← Nat.add_assoc]; exact g58)
      (fun j j1 j2 => by
        rw [show e + j = e + 1 + pre.length + 1 + (j - pre.length - 2) from by omega]
        exact okA_facts (grest _ (by omega)))
      (by rw [show e + (pre.length + rest.length + 2) = e + 1 + (pre ++ (58 :: rest)).length from by omega]; exact h62) w hi)
    (by have := gpre 0 (by omega)
        rw [Nat.add_zero] at this
        exact aln_ne this rfl)
  have h3 := Runs.take (d := d) (by omega) hT (by
    have hle : (if m7L.isPrefixOf (pre ++ (58 :: rest)) = true then (pre ++ (58 :: rest)).drop 7 else pre ++ (58 :: rest)).length ≤ (pre ++ (58 :: rest)).length := by
      split
      · rw [List.length_drop]; omega
      · exact Nat.le_refl _
    rw [Option.getD_some, gw_one, gw_text]
    simp only [Option.getD_none, Option.getD_some, List.length_nil]
    omega)
  rw [Option.getD_some, flatG_one, flatG_text] at h3
  exact h3.to (by omega)
theorem not_pre {p l : Bs} {c : UInt8} (hp : c ∈ p) (hl : c ∉ l) : p.isPrefixOf l = false := by
  cases h : p.isPrefixOf l with
  | false => rfl
  | true => exact absurd ((List.isPrefixOf_iff_prefix.1 h).subset hp) hl
theorem runs_mail {x : Ctx} {k : Nat} {ins : Bool} {d : Int} {e : Nat} {a b : Bs} (h : At x.D e (60 :: (mailW a b ++ [62]))) (ha : One a) (hb : One b) : Runs x k ins d e (e + ((mailW a b).length + 2)) [⟨d, 10, [], m7L ++ mailW a b, [], false⟩, inT (d + 1) (mailW a b)] := by
  have hA := h.tail.left
  have h62 := h.tail.right.head
  have hb2 := h.2
  have la := ha.1.len
  have lb := hb.1.len
  have pa := ha.1.pos
  have pb := hb.1.pos
  have hL : (mailW a b).length = a.length + b.length + 5 := by simp [mailW]; omega
  simp only [List.length_cons, List.length_append, List.length_nil] at hb2
  have ga : ∀ j, j < a.length → isAln (x.D.getD (e + 1 + j) 0) = true := fun j hj => by rw [hA.left.1 j hj]; exact aln_let (ha.lets _ (mem_at hj))
  have g64 := hA.right.head
  have gb : ∀ j, j < b.length + 4 → isAln (x.D.getD (e + 1 + a.length + 1 + j) 0) = true ∨ x.D.getD (e + 1 + a.length + 1 + j) 0 = 46 := fun j hj => by
    have hR := hA.right.tail
    rw [hR.1 j (by simpa using hj)]
    by_cases j1 : j < b.length
    · rw [getD_app_l j1]; exact .inl (aln_let (hb.lets _ (mem_at j1)))
    · obtain ⟨i, rfl⟩ : ∃ i, j = b.length + i := ⟨j - b.length, by omega⟩
      rw [getD_app_r]
      have hi : i < 4 := by omega
      match i, hi with
      | 0, _ => exact .inr rfl
      | 1, _ => exact .inl rfl
      | 2, _ => exact .inl rfl
      | 3, _ => exact .inl rfl
  have hm58 : (58 : UInt8) ∉ mailW a b := by
    intro hm
    simp only [mailW, List.mem_append, List.mem_cons, List.not_mem_nil, or_false] at hm
    rcases hm with h | h | h | h
    · have := ha.lets _ h; cases this
    · cases h
    · have := hb.lets _ h; cases this
    · revert h; decide
  have hall : ∀ j, j < (mailW a b).length → (mailW a b).getD j 0 ≠ 92 := fun j hj h92 => by
    have hm : (92 : UInt8) ∈ mailW a b := h92 ▸ mem_at hj
    simp only [mailW, List.mem_append, List.mem_cons, List.not_mem_nil, or_false] at hm
    rcases hm with h | h | h | h
    · have := ha.lets _ h; cases this
    · cases h
    · have := hb.lets _ h; cases this
    · revert h; decide
  have hT := lt_mail x k ins e (a.length + b.length + 6) (mailW a b) (m7L ++ mailW a b) (by omega) (by omega) h.head (by rw [show a.length + b.length + 6 - 1 = (mailW a b).length from by omega]; exact hA.text) (by omega) hall
    (not_pre (c := 58) (by decide) hm58) (not_pre (c := 58) (by decide) hm58) rfl
    (fun w hi => by
      have := tag_mail x k ins e a.length (b.length + 5) pa (by omega) (by omega) h.head ga (by rw [← Nat.add_assoc]; exact g64)
        (fun j j0 j1 => by rw [show e + (1 + a.length) + j = e + 1 + a.length + 1 + (j - 1) from by omega]; exact gb _ (by omega))
        (by rw [show e + (1 + a.length) + (b.length + 5) = e + 1 + (mailW a b).length from by omega]; exact h62) w hi
      rw [show a.length + b.length + 6 + 1 = 1 + a.length + (b.length + 5) + 1 from by omega]
      exact this)
    (by have := ga 0 pa
        rw [Nat.add_zero] at this
        exact aln_ne this rfl)
  have h3 := Runs.take (d := d) (by omega) hT (by
    rw [Option.getD_some, gw_one, gw_text]
    simp only [Option.getD_none, Option.getD_some, List.length_nil, List.length_append]
    have : m7L.length = 7 := rfl
    omega)
  rw [Option.getD_some, flatG_one, flatG_text] at h3
  exact h3.to (by omega)
theorem okA_words {a : Bs} (h : One a) : ∀ c ∈ a, okA c = true := fun c hc => okA_let (h.lets c hc)
theorem pk_8 {x : Ctx} {e v : Nat} {del auto : Bool} {o z : UInt8} {a b c : Bs} (hv : v < 5) (ha : One a) (hb : One b) (h : At x.D e (wrK o z a b c 8 v)) : Runs x 1 false 0 e (e + (wrK o z a b c 8 v).length) (meK del auto o z a b c 8 v) := by
  simp only [wrK, meK] at *
  have la := ha.1.len
  have lb := hb.1.len
  have pa := ha.1.pos
  have fa : isLet (a.getD 0 0) = true := ha.1.first
  match v, hv with
  | 0, _ =>
    have hA : At x.D e (60 :: (([104, 116, 116, 112] ++ (58 :: ([47, 47] ++ (a ++ ([46, 111, 114, 103, 47] ++ b))))) ++ [62])) := h
    refine (runs_auto (k := 1) (ins := false) (d := 0) hA (by decide) (by decide) (fun c hc => ?_) (by simp) (by simp; omega) rfl (fun h => by cases h)).to (by simp [autoW, bareW] <;> omega)
    simp only [List.mem_append] at hc
    rcases hc with hc | hc | hc | hc
    · revert c; decide
    · exact okA_words ha c hc
    · revert c; decide
    · exact okA_words hb c hc
  | 1, _ =>
    have hA : At x.D e (60 :: (([104, 116, 116, 112, 115] ++ (58 :: ([47, 47] ++ (a ++ ([46, 111, 114, 103, 47, 63] ++ (b ++ [61, 49, 38, 99, 61, 50])))))) ++ [62])) := h
    refine (runs_auto (k := 1) (ins := false) (d := 0) hA (by decide) (by decide) (fun c hc => ?_) (by simp) (by simp; omega) rfl (fun h => by cases h)).to (by simp [autoW] <;> omega)
    simp only [List.mem_append] at hc
    rcases hc with hc | hc | hc | hc | hc
    · revert c; decide
    · exact okA_words ha c hc
    · revert c; decide
    · exact okA_words hb c hc
    · revert c; decide
  | 2, _ =>
    have hA : At x.D e (60 :: (([102, 116, 112] ++ (58 :: ([47, 47] ++ (a ++ [46, 111, 114, 103])))) ++ [62])) := h
    refine (runs_auto (k := 1) (ins := false) (d := 0) hA (by decide) (by decide) (fun c hc => ?_) (by simp) (by simp; omega) rfl (fun h => by cases h)).to (by simp [autoW] <;> omega)
    simp only [List.mem_append] at hc
    rcases hc with hc | hc | hc
    · revert c; decide
    · exact okA_words ha c hc
    · revert c; decide
  | 3, _ =>
    have hA : At x.D e (60 :: (([109, 97, 105, 108, 116, 111] ++ (58 :: mailW a b)) ++ [62])) := h
    have hp7 : m7L.isPrefixOf ([109, 97, 105, 108, 116, 111] ++ (58 :: mailW a b)) = true := List.isPrefixOf_iff_prefix.2 ⟨mailW a b, rfl⟩
    have h9 : m9L.isPrefixOf ([109, 97, 105, 108, 116, 111] ++ (58 :: mailW a b)) = false := by
      obtain ⟨y, r, rfl⟩ : ∃ y r, a = y :: r := by
        cases a with
        | nil => simp at pa
        | cons y r => exact ⟨y, r, rfl⟩
      have hy : y ≠ 47 := let_ne fa rfl
      simp [m9L, mailW, List.isPrefixOf]
      exact fun h => absurd h.symm hy
    have := runs_auto (k := 1) (ins := false) (d := 0) hA (by decide) (by decide) (fun c hc => by
      rw [show mailW a b = a ++ ([64] ++ (b ++ [46, 111, 114, 103])) from rfl] at hc
      simp only [List.mem_append] at hc
      rcases hc with hc | hc | hc | hc
      · exact okA_words ha c hc
      · revert c; decide
      · exact okA_words hb c hc
      · revert c; decide) (by simp [mailW] <;> omega) (by simp [mailW]; omega) h9 (fun _ => by simp [mailW]; omega)
    rw [hp7] at this
    exact this.to (by simp [autoW, m7L])
  | 4, _ =>
    exact (runs_mail (k := 1) (ins := false) (d := 0) h ha hb).to (by simp [autoW] <;> omega)
theorem cb_bare {ext : Nat} {c : UInt8} (h4 : ext.testBit 4 = false) (hc : isLet c = true ∨ c = 58 ∨ c = 47 ∨ c = 46) : cbN ext c = none := by
  rcases hc with hl | rfl | rfl | rfl
  · unfold cbN
    rw [if_neg (let_ne hl rfl), if_neg (fun h => h.elim (let_ne hl rfl) (let_ne hl rfl)), if_neg (let_ne hl rfl), if_neg (let_ne hl rfl), if_neg (let_ne hl rfl), if_neg (let_ne hl rfl), if_neg (let_ne hl rfl), if_neg (let_ne hl rfl), if_neg (let_ne hl rfl), if_neg (let_ne hl rfl), if_neg (let_ne hl rfl)]
    split
    · rw [if_neg (by rw [h4]; decide)]
    · rfl
  · simp [cbN]
  · simp [cbN]
  · simp [cbN]
theorem bare_bytes {a b : Bs} (ha : One a) (hb : One b) : ∀ c ∈ bareW a b, isLet c = true ∨ c = 58 ∨ c = 47 ∨ c = 46 := by
  intro c hc
  simp only [bareW, List.mem_append] at hc
  rcases hc with hc | hc | hc | hc
  · revert c; decide
  · exact .inl (ha.lets c hc)
  · revert c; decide
  · exact .inl (hb.lets c hc)
theorem pk_9 {x : Ctx} {e v : Nat} {del : Bool} {o z : UInt8} {a b c : Bs} (ha : One a) (hb : One b) (h : At x.D e (wrK o z a b c 9 v)) (hn : e + (wrK o z a b c 9 v).length < x.D.length → x.D.getD (e + (wrK o z a b c 9 v).length) 0 = 32 ∨ x.D.getD (e + (wrK o z a b c 9 v).length) 0 = 10)
    (hprev : 0 < e → isLet (x.D.getD (e - 1) 0) = false) (hA : ∀ s, ¬ (x.D.getD (s + 6) 0 = 102 ∧ x.D.getD (s + 7) 0 = 61 ∧ x.D.getD (s + 8) 0 = 34)) : Runs x 1 false 0 e (e + (wrK o z a b c 9 v).length) (meK del (x.ext.testBit 4) o z a b c 9 v) := by
  simp only [wrK, meK] at *
  have la := ha.1.len
  have lb := hb.1.len
  have pa := ha.1.pos
  have pb := hb.1.pos
  have hL : (bareW a b).length = a.length + b.length + 12 := by simp [bareW]; omega
  have hB := bare_bytes ha hb
  have hg : ∀ j, j < (bareW a b).length → isLet (x.D.getD (e + j) 0) = true ∨ x.D.getD (e + j) 0 = 58 ∨ x.D.getD (e + j) 0 = 47 ∨ x.D.getD (e + j) 0 = 46 := fun j hj => by rw [h.1 j hj]; exact hB _ (mem_at hj)
  by_cases h4 : x.ext.testBit 4 = true
  · rw [if_pos h4]
    have hlast : isLet (x.D.getD (e + ((bareW a b).length - 1)) 0) = true := by
      rw [h.1 _ (by omega), show bareW a b = ([104, 116, 116, 112, 58, 47, 47] ++ (a ++ [46, 111, 114, 103, 47])) ++ b from by simp [bareW],
        show (([104, 116, 116, 112, 58, 47, 47] ++ (a ++ [46, 111, 114, 103, 47])) ++ b : Bs).length - 1 = ([104, 116, 116, 112, 58, 47, 47] ++ (a ++ [46, 111, 114, 103, 47]) : Bs).length + (b.length - 1) from by simp; omega, getD_app_r]
      exact hb.1.last
    have hT := auto_takes x 1 e (bareW a b).length (bareW a b) h4 (by omega) (by omega) h.2 h.text
      (by have := (At.left (a := [104, 116, 116, 112, 58, 47, 47]) h).text; exact this)
      (by have := (At.right (a := [104, 116, 116, 112, 58, 47, 47]) h).left.1 0 pa
          rw [Nat.add_zero] at this
          rw [show e + 7 = e + ([104, 116, 116, 112, 58, 47, 47] : Bs).length from rfl, this]; exact aln_let ha.1.first)
      (fun j hj => by
        rcases hg j hj with h | h | h | h
        · have h1 := let_sp h
          have h2 := let_ne h (k := 60) rfl
          cases hc : isEol (x.D.getD (e + j) 0) with
          | false => rfl
          | true =>
            exfalso
            simp only [isEol, h1, Bool.false_or, beq_iff_eq] at hc
            exact h2 (UInt8.toNat_inj.1 hc)
        · rw [h]; rfl
        · rw [h]; rfl
        · rw [h]; rfl)
      (fun hl => by
        rcases hn hl with h | h
        · rw [h]; rfl
        · rw [h]; rfl)
      (fun c hc heq => by
        rw [heq] at hlast
        clear heq
        revert hlast
        revert c
        decide)
      (fun j hj => by
        rcases hg j hj with h | h | h | h
        · exact let_ne h rfl
        · rw [h]; decide
        · rw [h]; decide
        · rw [h]; decide)
      hprev (fun s _ => hA s)
    have h3 := Runs.take (d := 0) (by omega) hT (by
      rw [Option.getD_some, gw_one, gw_text]
      simp only [Option.getD_none, Option.getD_some, List.length_nil]
      omega)
    rw [Option.getD_some, flatG_one, flatG_text] at h3
    exact h3
  · rw [if_neg h4]
    have h4' : x.ext.testBit 4 = false := by simpa using h4
    have := Runs.quiet (k := 1) (ins := false) (d := 0) (x := x) (e := e) (bareW a b).length (fun i hi => quiet_none (cb_bare h4' (hg i hi)))
    rwa [h.text] at this
end Go.Proofs.YtalajbfpilhfgaaGreatDoor
