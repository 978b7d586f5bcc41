/-
  FnInlineAlone: drawn statements that end in an assignment.
  FnInlineAlone: a drawn statement with guards, walked step by step: reading operations first, the others as the only ones that may come.
-/
import Derived.Test.YtalajbfpilhfgaaGreatDoorK25
set_option linter.unusedVariables false
set_option linter.unusedSimpArgs false
namespace Go.Proofs.YtalajbfpilhfgaaGreatDoor
open Go.RowKit

section
variable {P : Program} {ops : Array Oper} {Q : Exit → Act → World → Prop} {md : Region.Mode} {S : World → Prop} {last : Nat}
/-- Each operation leaves its value in a temporary of its own, and waits for those whose values it looks at. -/
def neatL (base : Nat) (ops : Array Oper) (tab : List Nat) (last : Nat) : List Oper → Nat → Bool
  | [], _ => true
  | o :: l, j => (j == last || o.dst == some (base + j)) && ((o.looksAt ops).all fun d => decide (d < base) || decide (base + last ≤ d) || (tab.getD j 0).testBit (d - base)) && neatL base ops tab last l (j + 1)
theorem neatL_spec {base : Nat} {tab : List Nat} : ∀ (l : List Oper) (k : Nat), neatL base ops tab last l k = true → ∀ (i : Nat) (o : Oper), l[i]? = some o →
    (k + i ≠ last → o.dst = some (base + (k + i))) ∧ ∀ d ∈ o.looksAt ops, d < base ∨ base + last ≤ d ∨ (tab.getD (k + i) 0).testBit (d - base) = true
  | [], _, _, i, o, h => by cases h
  | x :: l, k, hB, i, o, h => by
    simp only [neatL, Bool.and_eq_true, List.all_eq_true, Bool.or_eq_true, decide_eq_true_eq] at hB
    obtain ⟨⟨h1, h2⟩, h3⟩ := hB
    cases i with
    | zero =>
      have : x = o := by simpa using h
      subst this
      refine ⟨?_, fun d hd => by rcases h2 d hd with (h | h) | h; exact .inl h; exact .inr (.inl h); exact .inr (.inr h)⟩
      intro hk
      rcases h1 with h1 | h1
      · exact absurd (by simpa using h1) hk
      · simpa using h1
    | succ i =>
      have := neatL_spec l (k + 1) h3 i o (by simpa using h)
      rw [show k + 1 + i = k + (i + 1) by omega] at this
      exact this
theorem apart_neatL {base : Nat} {tab : List Nat} (hB : neatL base ops tab last ops.toList 0 = true) {i j : Nat} {oi oj : Oper} (hi : ops[i]? = some oi) (hj : ops[j]? = some oj) (hne : j ≠ i) (hil : i < last) (hjl : j < last)
    (h1 : (tab.getD j 0).testBit i = false) (h2 : (tab.getD i 0).testBit j = false) : oi.apart ops oj = true := by
  have a1 := neatL_spec ops.toList 0 hB i oi (by rw [Array.getElem?_toList]; exact hi)
  have a2 := neatL_spec ops.toList 0 hB j oj (by rw [Array.getElem?_toList]; exact hj)
  simp only [Nat.zero_add] at a1 a2
  obtain ⟨b1, b2⟩ := a1
  obtain ⟨c1, c2⟩ := a2
  have b1 := b1 (by omega)
  have c1 := c1 (by omega)
  unfold Oper.apart
  rw [b1, c1]
  simp only [Bool.and_eq_true, Bool.not_eq_true', bne_iff_ne]
  refine ⟨⟨?_, ?_⟩, ?_⟩
  · rw [Bool.eq_false_iff]
    intro hc
    have hm : base + i ∈ oj.looksAt ops := by simpa using hc
    rcases c2 _ hm with h | h | h
    · exact absurd h (Nat.not_lt.2 (Nat.le_add_right base i))
    · exact absurd (Nat.le_of_add_le_add_left h) (Nat.not_le.2 hil)
    · rw [Nat.add_sub_cancel_left] at h; rw [h1] at h; cases h
  · intro hc
    injection hc with hc
    omega
  · rw [Bool.eq_false_iff]
    intro hc
    have hm : base + j ∈ oi.looksAt ops := by simpa using hc
    rcases b2 _ hm with h | h | h
    · exact absurd h (Nat.not_lt.2 (Nat.le_add_right base j))
    · exact absurd (Nat.le_of_add_le_add_left h) (Nat.not_le.2 (by omega))
    · rw [Nat.add_sub_cancel_left] at h; rw [h2] at h; cases h
theorem wpAnyS_pathL {tab : List Nat} {base : Nat} (ht : tabOf md ops.toList = tab) (hlt : ∀ d ∈ tab, d < 2 ^ ops.size) (hneat : neatL base ops tab last ops.toList 0 = true) (hlast : last + 1 = ops.size) (hs : Region.noSelect ops = true) (hQ : ∀ c a a' w, Q (.panic c) a w → Q (.panic c) a' w) :
    ∀ (L : List (Nat × Bool)) (listed : Array Bool) (m : Nat) (a : Act) (w : World), Mask ops listed m → (L ≠ [] → S w) → pathN tab ops.size last L m = true → wpPath P ops Q S last L a w → wpAnyS P md ops Q S last L.length listed a w
  | [], listed, m, a, w, hm, _, hB, h => by
    refine ⟨?_, h⟩
    simp only [pathN, beq_iff_eq] at hB
    cases hr : Region.ready md ops listed with
    | nil => rfl
    | cons j r =>
      have hj : j ∈ Region.ready md ops listed := by rw [hr]; simp
      obtain ⟨h1, h2, _⟩ := (ready_mask ht hlt hm j).1 hj
      rw [hB, Nat.testBit_two_pow_sub_one] at h2
      simp at h2
      omega
  | (i, true) :: L, listed, m, a, w, hm, hS, hB, h => by
    simp only [pathN, Bool.and_eq_true, decide_eq_true_eq, Bool.not_eq_true', beq_iff_eq] at hB
    obtain ⟨⟨⟨⟨hB1, hB2⟩, hB3⟩, hB4⟩, hB5⟩ := hB
    obtain ⟨oi, v, hi, hy, hrest⟩ := h
    have his : i < ops.size := by omega
    have hr : i ∈ Region.ready md ops listed := (ready_mask ht hlt hm i).2 ⟨his, hB2, hB3⟩
    have hw : waitsB md ops last i = true := by
      have hl : last < ops.size := by omega
      obtain ⟨e, he, hb, hon⟩ := (waits_tab ht (Array.getElem?_eq_getElem hl)).1 hB4
      unfold waitsB
      rw [Array.getElem?_eq_getElem hl]
      exact Array.any_eq_true'.2 ⟨e, he, by simp [hb, hon]⟩
    refine wpAnyS_first hi (Region.noSelect_spec hs) (fun c a w => hQ c _ _ w) hw (by omega) L.length listed a w (fun j oj hj hne hun hno => ?_) hr hy (hS (by simp)) (wpAnyS_pathL ht hlt hneat hlast hs hQ L _ _ _ _ (hm.set his) (fun _ => hS (by simp)) hB5 hrest)
    have hjs : j < ops.size := (Array.getElem?_eq_some_iff.1 hj).1
    have hjl : j < last := by
      rcases Nat.lt_or_ge j last with h | h
      · exact h
      · obtain rfl : j = last := by omega
        obtain ⟨e, he, hb, hon⟩ := (waits_tab ht hj).1 hB4
        exact absurd hon (fun h => hno e he hb h)
    refine apart_neatL hneat hi hj hne hB1 hjl ?_ ?_
    · rw [Bool.eq_false_iff]
      intro hc
      obtain ⟨e, he, hb, hon⟩ := (waits_tab ht hj).1 hc
      exact hno e he hb hon
    · rw [Bool.eq_false_iff]
      intro hc
      have h1 := (and_sub _ _).1 hB3 j hc
      rw [← hm.bits j hjs, hun] at h1
      cases h1
  | (i, false) :: L, listed, m, a, w, hm, hS, hB, h => by
    simp only [pathN, Bool.and_eq_true, decide_eq_true_eq, Bool.not_eq_true', beq_iff_eq, List.all_eq_true, List.mem_range, Bool.or_eq_true, bne_iff_ne] at hB
    obtain ⟨⟨⟨⟨⟨hB1, hB2⟩, hB3⟩, hB4⟩, hB5⟩, hB6⟩ := hB
    have only : ∀ j, j ∈ Region.ready md ops listed → j = i := fun j hj => by
      obtain ⟨h1, h2, h3⟩ := (ready_mask ht hlt hm j).1 hj
      rcases hB4 j h1 with (h4 | h4) | h4
      · exact h4
      · rw [h2] at h4; cases h4
      · exact absurd h3 h4
    have hr : i ∈ Region.ready md ops listed := (ready_mask ht hlt hm i).2 ⟨hB1, hB2, hB3⟩
    refine ⟨fun h0 => (by rw [h0] at hr; cases hr), fun j hj => ?_⟩
    obtain rfl := only j hj
    refine wpOp_mono (fun a' w' h' => ⟨h'.1, wpAnyS_pathL ht hlt hneat hlast hs hQ L _ _ a' w' (hm.set hB1) (fun hne => h'.1 ?_) hB6 h'.2⟩) h
    rcases hB5 with h1 | h1
    · exact h1
    · exact absurd (List.isEmpty_iff.1 h1) hne
/-- A region that asks the tape, walked in one order. -/
theorem wp_region_pathL {id : Nat} {a : Act} {w : World} (L : List (Nat × Bool)) (tab : List Nat) (base : Nat) (hm : P.follows .mixedOrders = true) (hs : Region.noSelect ops = true) (hL : L.length = ops.size) (hlast : last + 1 = ops.size)
    (ht : tabOf .any ops.toList = tab) (hlt : (tab.all fun d => decide (d < 2 ^ ops.size)) = true) (hneat : neatL base ops tab last ops.toList 0 = true)
    (hB : pathN tab ops.size last L 0 = true) (hS : S { w with drawn := w.drawn + 1 }) (h : wpPath P ops (NoPanic Q) S last L a { w with drawn := w.drawn + 1 }) : (Code.region id ops true).wp P Q a w := by
  have hlt' : ∀ d ∈ tab, d < 2 ^ ops.size := fun d hd => by have := List.all_eq_true.1 hlt d hd; simpa using this
  have hmask : Mask ops (Array.replicate ops.size false) 0 := ⟨by simp, fun j hj => by simp [hj]⟩
  have h1 := wpAnyS_pathL (md := .any) (base := base) ht hlt' hneat hlast hs (fun c a a' w h => h) L _ 0 a _ hmask (fun _ => hS) hB h
  rw [hL] at h1
  exact wp_region_noPanic (wp_region_any hm (wpAny_of_S _ _ _ _ h1))
/-- Operations that hand a value on, and do nothing else. -/
def givesL (o : Oper) : Bool := match o.op with
  | .move _ | .assign _ | .load .. | .nilCheck _ | .fieldAddr .. | .binOp .. | .build .. | .slice .. => true
  | _ => false
theorem gives_valueL {o : Oper} {ev : Operand → Value} (hg : givesL o = true) : GivesV (execOp ev o) := by
  unfold givesL at hg
  unfold execOp
  cases ho : o.op <;> rw [ho] at hg <;> simp only [Bool.false_eq_true] at hg
  all_goals first | exact GivesV.ret _ | exact GivesV.bind fun _ => GivesV.ret _ | skip
  dsimp only
  split <;> first | exact GivesV.panic | exact GivesV.ret _ | skip
  try dsimp only
  split <;> first | exact GivesV.panic | exact GivesV.ret _ | skip
  refine GivesV.bind fun _ => GivesV.bind fun _ => ?_
  try dsimp only
  split
  · exact GivesV.bind fun _ => GivesV.ret _
  · exact GivesV.ret _
theorem yields_of_quietL {o : Oper} {a : Act} {v : Value} (hg : givesL o = true) (hw : Region.wanted o (yielded ops a.tmps) = true) (h : ∀ w, S w → o.quietAt P a S w v) : YieldsIf P ops S o v a := by
  refine .inl ⟨hw, fun w hS => ?_⟩
  have h1 := h w hS
  unfold Oper.quietAt at h1
  cases hr : (execOp a.eval o).run P w with
  | ok n w' =>
    obtain ⟨u, rfl⟩ := gives_valueL hg P w w' n hr
    rw [hr] at h1
    obtain ⟨e1, e2⟩ := h1
    rw [e1, e2]
  | halt x w' => rw [hr] at h1; exact h1.elim
/-- The reading operations first, as a quiet walk. -/
theorem wpPath_quietL {T : List (Nat × Bool)} {w : World} {Q' : Act → Prop} (hQ' : ∀ a, Q' a → wpPath P ops Q S last T a w) : ∀ (H : List Nat) (l : List Oper) (a : Act), H.map (fun i => ops[i]?) = l.map some → l.all givesL = true →
    wpQuiet P ops S Q' l a → wpPath P ops Q S last (H.map (fun i => (i, true)) ++ T) a w
  | [], [], a, _, _, h => hQ' a h
  | [], o :: l, _, he, _, _ => by cases he
  | i :: H, [], _, he, _, _ => by cases he
  | i :: H, o :: l, a, he, hg, h => by
    rw [List.map_cons, List.map_cons] at he
    injection he with he1 he2
    rw [List.all_cons, Bool.and_eq_true] at hg
    rw [wpQuiet] at h
    by_cases hw : Region.wanted o (yielded ops a.tmps) = true
    · rw [if_pos hw] at h
      obtain ⟨v, h1, h2⟩ := h
      exact ⟨o, v, he1, yields_of_quietL hg.1 hw h1, wpPath_quietL hQ' H l _ he2 hg.2 h2⟩
    · rw [if_neg hw] at h
      exact ⟨o, undef, he1, .inr ⟨by simpa using hw, rfl⟩, wpPath_quietL hQ' H l _ he2 hg.2 h⟩
theorem wpPath_quietL' {T : List (Nat × Bool)} {w : World} : ∀ (H : List Nat) (a : Act), (H.all fun i => match ops[i]? with | some o => givesL o | none => false) = true →
    wpQuiet P ops S (fun a => wpPath P ops Q S last T a w) (H.filterMap fun i => ops[i]?) a → wpPath P ops Q S last (H.map (fun i => (i, true)) ++ T) a w := fun H a hg h => by
  have key : ∀ (H : List Nat), (H.all fun i => match ops[i]? with | some o => givesL o | none => false) = true → H.map (fun i => ops[i]?) = (H.filterMap fun i => ops[i]?).map some ∧ (H.filterMap fun i => ops[i]?).all givesL = true := by
    intro H
    induction H with
    | nil => intro _; exact ⟨rfl, rfl⟩
    | cons i H ih =>
      intro hg
      rw [List.all_cons, Bool.and_eq_true] at hg
      obtain ⟨h1, h2⟩ := ih hg.2
      cases ho : ops[i]? with
      | none => rw [ho] at hg; exact absurd hg.1 (by simp)
      | some o =>
        rw [ho] at hg
        rw [List.filterMap_cons_some ho, List.map_cons, List.map_cons, ho, h1]
        exact ⟨rfl, by rw [List.all_cons, h2, Bool.and_true]; exact hg.1⟩
  obtain ⟨h1, h2⟩ := key H hg
  exact wpPath_quietL (fun a h => h) H _ a h1 h2 h
end

section
variable {P : Program} {ops : Array Oper} {Q : Exit → Act → World → Prop} {md : Region.Mode} {S : World → Prop}
theorem anyH_step {i : Nat} {o : Oper} {fuel : Nat} {listed : Array Bool} {a : Act} {w : World} (ho : (ops.toList.drop i).head? = some o) (hr : Region.ready md ops listed = [i]) (hw : Region.wanted o (yielded ops a.tmps) = true)
    (h : ∀ K : Act → World → Prop, (∀ a' w', S w' → wpAnyH P md ops Q S fuel (listed.setIfInBounds i true) a' w' → K a' w') → o.wp P a w K Q) : wpAnyH P md ops Q S (fuel + 1) listed a w := by
  refine wpAnyH_all hr (by simp) fun j hj => ?_
  obtain rfl : j = i := List.mem_singleton.1 hj
  have h1 := h (fun a' w' => S w' ∧ wpAnyH P md ops Q S fuel (listed.setIfInBounds j true) a' w') (fun a' w' h1 h2 => ⟨h1, h2⟩)
  unfold wpOp
  rw [op_at ho]
  simp only
  rw [if_pos hw]
  exact .inl h1
theorem anyH_skip {i : Nat} {o : Oper} {fuel : Nat} {listed : Array Bool} {a : Act} {w : World} (ho : (ops.toList.drop i).head? = some o) (hr : Region.ready md ops listed = [i]) (hw : Region.wanted o (yielded ops a.tmps) = false) (hS : S w)
    (h : wpAnyH P md ops Q S fuel (listed.setIfInBounds i true) (a.put o.dst undef) w) : wpAnyH P md ops Q S (fuel + 1) listed a w := by
  refine wpAnyH_all hr (by simp) fun j hj => ?_
  obtain rfl : j = i := List.mem_singleton.1 hj
  unfold wpOp
  rw [op_at ho]
  simp only
  rw [if_neg (by rw [hw]; decide)]
  exact ⟨hS, h⟩
theorem anyH_read {i : Nat} {o : Oper} {fuel : Nat} {listed : Array Bool} {a : Act} {w : World} (ho : (ops.toList.drop i).head? = some o) (hs : Region.noSelect ops = true) (hf : Region.free md ops listed i = true) (hr : (Region.ready md ops listed).contains i = true)
    (hg : givesL o = true) (hw : Region.wanted o (yielded ops a.tmps) = true) (hS : S w) (hQ' : ∀ c a a' w, Q (.panic c) a w → Q (.panic c) a' w)
    (h : ∀ K : Act → Prop, (∀ a', wpAnyH P md ops Q S fuel (listed.setIfInBounds i true) a' w → K a') → o.quiet P a S K) : wpAnyH P md ops Q S (fuel + 1) listed a w := by
  obtain ⟨v, h1, h2⟩ := h (fun a' => wpAnyH P md ops Q S fuel (listed.setIfInBounds i true) a' w) (fun a' h => h)
  exact wpAnyH_take (op_at ho) hs hf hr (fun c a w => hQ' c _ _ w) (yields_of_quietL hg hw h1) hS h2
theorem anyH_readSkip {i : Nat} {o : Oper} {fuel : Nat} {listed : Array Bool} {a : Act} {w : World} (ho : (ops.toList.drop i).head? = some o) (hs : Region.noSelect ops = true) (hf : Region.free md ops listed i = true) (hr : (Region.ready md ops listed).contains i = true)
    (hw : Region.wanted o (yielded ops a.tmps) = false) (hS : S w) (hQ' : ∀ c a a' w, Q (.panic c) a w → Q (.panic c) a' w)
    (h : wpAnyH P md ops Q S fuel (listed.setIfInBounds i true) (a.put o.dst undef) w) : wpAnyH P md ops Q S (fuel + 1) listed a w :=
  wpAnyH_take (op_at ho) hs hf hr (fun c a w => hQ' c _ _ w) (.inr ⟨hw, rfl⟩) hS h
theorem noPanic_any {Q : Exit → Act → World → Prop} : ∀ c (a a' : Act) (w : World), NoPanic Q (.panic c) a w → NoPanic Q (.panic c) a' w := fun _ _ _ _ h => h
end
end Go.Proofs.YtalajbfpilhfgaaGreatDoor
