/-
  FnInlineAlone: a statement whose operations come up in a drawn order: one order serves, where the reading operations read what no other operation but the last one writes.
  FnInlineAlone: the reading operations of a drawn statement, walked as quiet ones.
  FnInlineAlone: the order of a drawn statement, checked by numbers.
-/
import Derived.Test.YtalajbfpilhfgaaGreatDoorK21
import Derived.OrdersHeld
import Derived.Deep.RegionHeld3
set_option linter.unusedVariables false
set_option linter.unusedSimpArgs false
namespace Go.Proofs.YtalajbfpilhfgaaGreatDoor
open Go.RowKit

section
variable {P : Program} {ops : Array Oper} {Q : Exit → Act → World → Prop} {md : Region.Mode} {S : World → Prop} {last : Nat}
/-- Whatever order is picked from here on; S holds behind each operation but the last one. -/
def wpAnyS (P : Program) (md : Region.Mode) (ops : Array Oper) (Q : Exit → Act → World → Prop) (S : World → Prop) (last : Nat) : Nat → Array Bool → Act → World → Prop
  | 0, listed, a, w => Region.ready md ops listed = [] ∧ Q .normal a w
  | fuel + 1, listed, a, w =>
    (Region.ready md ops listed = [] → Q .normal a w) ∧
    ∀ i ∈ Region.ready md ops listed, wpOp P ops Q i (fun a' w' => (i ≠ last → S w') ∧ wpAnyS P md ops Q S last fuel (listed.setIfInBounds i true) a' w') a w
theorem wpAny_of_S : ∀ (fuel : Nat) (listed : Array Bool) (a : Act) (w : World), wpAnyS P md ops Q S last fuel listed a w → wpAny P md ops Q fuel listed a w
  | 0, _, _, _, h => h
  | fuel + 1, _, _, _, h => ⟨h.1, fun i hi => wpOp_mono (fun a' w' h' => wpAny_of_S fuel _ a' w' h'.2) (h.2 i hi)⟩
/-- Operation j waits for operation i. -/
def waitsB (md : Region.Mode) (ops : Array Oper) (j i : Nat) : Bool :=
  match ops[j]? with
  | some o => o.after.any fun e => Region.binds md e && e.on == i
  | none => false
theorem not_ready {i j : Nat} {listed : Array Bool} (h : waitsB md ops j i = true) (hi : i ∈ Region.ready md ops listed) : j ∉ Region.ready md ops listed := by
  intro hj
  obtain ⟨_, o, ho, hall⟩ := mem_ready.1 hj
  unfold waitsB at h
  rw [ho] at h
  obtain ⟨e, he, hb⟩ := Array.any_eq_true'.1 h
  simp only [Bool.and_eq_true, beq_iff_eq] at hb
  have h1 := hall e he hb.1
  have h0 := (mem_ready.1 hi).1
  rw [hb.2] at h1
  rcases Nat.lt_or_ge i listed.size with h' | h'
  · simp [h'] at h0 h1; rw [h0] at h1; cases h1
  · simp [Array.getElem?_eq_none h'] at h1
theorem wpAnyS_first {i : Nat} {oi : Oper} {v : Value} (hi : ops[i]? = some oi) (hsel : ∀ (j : Nat) (o : Oper) cs b, ops[j]? = some o → o.op ≠ .select cs b)
    (hQ : ∀ c a w, Q (.panic c) (a.put oi.dst v) w → Q (.panic c) a w) (hw : waitsB md ops last i = true) (hil : i ≠ last) :
    ∀ (fuel : Nat) (listed : Array Bool) (a : Act) (w : World),
      (∀ j oj, ops[j]? = some oj → j ≠ i → listed.getD j true = false → (∀ e ∈ oj.after, Region.binds md e = true → e.on ≠ i) → oi.apart ops oj = true) →
      i ∈ Region.ready md ops listed → YieldsIf P ops S oi v a → S w →
      wpAnyS P md ops Q S last fuel (listed.setIfInBounds i true) (a.put oi.dst v) w → wpAnyS P md ops Q S last (fuel + 1) listed a w := by
  intro fuel
  induction fuel with
  | zero =>
    intro listed a w _ hr hy hS H
    refine ⟨fun h => (by rw [h] at hr; cases hr), fun j hj => ?_⟩
    by_cases hji : j = i
    · subst hji; exact hy.wpOp hi hS ⟨fun _ => hS, H⟩
    · have := ready_mono hj hji
      rw [H.1] at this
      cases this
  | succ fuel ih =>
    intro listed a w hfree hr hy hS H
    refine ⟨fun h => (by rw [h] at hr; cases hr), fun j hj => ?_⟩
    by_cases hji : j = i
    · subst hji; exact hy.wpOp hi hS ⟨fun _ => hS, H⟩
    · have hjl : j ≠ last := fun e => not_ready hw hr (e ▸ hj)
      have h1 := H.2 j (ready_mono hj hji)
      obtain ⟨hjun, oj, hoj, hall⟩ := mem_ready.1 hj
      have hnot : ∀ e ∈ oj.after, Region.binds md e = true → e.on ≠ i := fun e he hb heq => by
        have h1 := hall e he hb
        have h0 := (mem_ready.1 hr).1
        rw [heq] at h1
        rcases Nat.lt_or_ge i listed.size with h' | h'
        · simp [h'] at h0 h1; rw [h0] at h1; cases h1
        · simp [Array.getElem?_eq_none h'] at h1
      have h2 := wpOp_putIf hoj (hfree j oj hoj hji hjun hnot) (fun cs b => hsel i oi cs b hi) (fun cs b => hsel j oj cs b hoj) hQ hy h1
      have hfree' : ∀ k ok, ops[k]? = some ok → k ≠ i → (listed.setIfInBounds j true).getD k true = false →
          (∀ e ∈ ok.after, Region.binds md e = true → e.on ≠ i) → oi.apart ops ok = true := fun k ok hk hki hun hno => by
        refine hfree k ok hk hki ?_ hno
        by_cases hjk : j = k
        · subst hjk; exact hjun
        · rw [getD_set_ne true hjk] at hun; exact hun
      refine wpOp_mono (fun a' w' h3 => ⟨h3.2.1, ih (listed.setIfInBounds j true) a' w' hfree' (ready_mono hr (Ne.symm hji)) h3.1 (h3.2.1 hjl) ?_⟩) h2
      rw [Array.setIfInBounds_comm _ _ hji]
      exact h3.2.2
/-- The order that is walked: (number, whether it only reads). -/
def pathB (md : Region.Mode) (ops : Array Oper) (last : Nat) : List (Nat × Bool) → Array Bool → Bool
  | [], listed => (Region.ready md ops listed).isEmpty
  | (i, true) :: L, listed => (i != last) && waitsB md ops last i && Region.free md ops listed i && (Region.ready md ops listed).contains i && pathB md ops last L (listed.setIfInBounds i true)
  | (i, false) :: L, listed => (Region.ready md ops listed == [i]) && (i != last || L.isEmpty) && pathB md ops last L (listed.setIfInBounds i true)
def wpPath (P : Program) (ops : Array Oper) (Q : Exit → Act → World → Prop) (S : World → Prop) (last : Nat) : List (Nat × Bool) → Act → World → Prop
  | [], a, w => Q .normal a w
  | (i, true) :: L, a, w => ∃ oi v, ops[i]? = some oi ∧ YieldsIf P ops S oi v a ∧ wpPath P ops Q S last L (a.put oi.dst v) w
  | (i, false) :: L, a, w => wpOp P ops Q i (fun a' w' => (i ≠ last → S w') ∧ wpPath P ops Q S last L a' w') a w
theorem wpAnyS_path (hs : Region.noSelect ops = true) (hQ : ∀ c a a' w, Q (.panic c) a w → Q (.panic c) a' w) : ∀ (L : List (Nat × Bool)) (listed : Array Bool) (a : Act) (w : World),
    (L ≠ [] → S w) → pathB md ops last L listed = true → wpPath P ops Q S last L a w → wpAnyS P md ops Q S last L.length listed a w
  | [], listed, a, w, _, hB, h => ⟨by simpa [pathB] using hB, h⟩
  | (i, true) :: L, listed, a, w, hS, hB, h => by
    simp only [pathB, Bool.and_eq_true, bne_iff_ne] at hB
    obtain ⟨⟨⟨⟨hB1, hB2⟩, hB3⟩, hB4⟩, hB5⟩ := hB
    obtain ⟨oi, v, hi, hy, hrest⟩ := h
    exact wpAnyS_first hi (Region.noSelect_spec hs) (fun c a w => hQ c _ _ w) hB2 hB1 L.length listed a w (Region.free_spec hi hB3) (by simpa using hB4) hy (hS (by simp))
      (wpAnyS_path hs hQ L _ _ _ (fun _ => hS (by simp)) hB5 hrest)
  | (i, false) :: L, listed, a, w, hS, hB, h => by
    simp only [pathB, Bool.and_eq_true, beq_iff_eq, Bool.or_eq_true, bne_iff_ne] at hB
    obtain ⟨⟨hB1, hB2⟩, hB3⟩ := hB
    refine ⟨fun h0 => (by rw [hB1] at h0; cases h0), fun j hj => ?_⟩
    rw [hB1] at hj
    obtain rfl : j = i := List.mem_singleton.1 hj
    refine wpOp_mono (fun a' w' h' => ⟨h'.1, wpAnyS_path hs hQ L _ a' w' (fun hne => h'.1 ?_) hB3 h'.2⟩) h
    rcases hB2 with h1 | h1
    · exact h1
    · exact absurd (List.isEmpty_iff.1 h1) hne
/-- A region that asks the tape. -/
theorem wp_region_path {id : Nat} {a : Act} {w : World} (L : List (Nat × Bool)) (hm : P.follows .mixedOrders = true) (hs : Region.noSelect ops = true) (hL : L.length = ops.size)
    (hB : pathB .any ops last L (Array.replicate ops.size false) = true) (hS : S { w with drawn := w.drawn + 1 }) (h : wpPath P ops (NoPanic Q) S last L a { w with drawn := w.drawn + 1 }) : (Code.region id ops true).wp P Q a w := by
  have h1 := wpAnyS_path (md := .any) hs (fun c a a' w h => h) L _ a _ (fun _ => hS) hB h
  rw [hL] at h1
  exact wp_region_noPanic (wp_region_any hm (wpAny_of_S _ _ _ _ h1))
end

section
variable {P : Program} {ops : Array Oper} {Q : Exit → Act → World → Prop} {S : World → Prop} {last : Nat}
/-- Operations that hand a value on, and do nothing else. -/
def givesB (o : Oper) : Bool := match o.op with
  | .move _ | .assign _ | .load .. | .nilCheck _ | .fieldAddr .. | .binOp .. => true
  | _ => false
def GivesV (s : Sem Next) : Prop := ∀ (P : Program) (w w' : World) (n : Next), Sem.run P s w = .ok n w' → ∃ u, n = .value u
theorem GivesV.ret (u : Value) : GivesV (pure (Next.value u)) := fun P w w' n h => by
  rw [Sem.run_pure] at h
  injection h with h1 h2
  exact ⟨u, h1.symm⟩
theorem GivesV.bind {α : Type} {s : Sem α} {f : α → Sem Next} (hf : ∀ x, GivesV (f x)) : GivesV (s >>= f) := fun P w w' n h => by
  rw [Sem.run_bind] at h
  cases hs : Sem.run P s w with
  | ok u w1 =>
    rw [hs, Result.andThen_ok] at h
    exact hf u P w1 w' n h
  | halt x w1 => rw [hs] at h; cases h
theorem GivesV.panic : GivesV (runtimePanic .nilDeref) := fun P w w' n h => by
  simp [runtimePanic, goPanic, go_sem] at h
theorem gives_value {o : Oper} {ev : Operand → Value} (hg : givesB o = true) : GivesV (execOp ev o) := by
  unfold givesB at hg
  unfold execOp
  cases ho : o.op <;> rw [ho] at hg <;> simp only [Bool.false_eq_true] at hg
  all_goals first | exact GivesV.ret _ | exact GivesV.bind fun _ => GivesV.ret _ | skip
  dsimp only
  split <;> first | exact GivesV.panic | exact GivesV.ret _ | skip
  try dsimp only
  split <;> first | exact GivesV.panic | exact GivesV.ret _ | skip
  refine GivesV.bind fun _ => GivesV.bind fun _ => ?_
  try dsimp only
  split
  · exact GivesV.bind fun _ => GivesV.ret _
  · exact GivesV.ret _
theorem yields_of_quiet {o : Oper} {a : Act} {v : Value} (hg : givesB o = true) (hw : Region.wanted o (yielded ops a.tmps) = true) (h : ∀ w, S w → o.quietAt P a S w v) : YieldsIf P ops S o v a := by
  refine .inl ⟨hw, fun w hS => ?_⟩
  have h1 := h w hS
  unfold Oper.quietAt at h1
  cases hr : (execOp a.eval o).run P w with
  | ok n w' =>
    obtain ⟨u, rfl⟩ := gives_value hg P w w' n hr
    rw [hr] at h1
    obtain ⟨e1, e2⟩ := h1
    rw [e1, e2]
  | halt x w' => rw [hr] at h1; exact h1.elim
/-- The reading operations first, as a quiet walk. -/
theorem wpPath_quiet {T : List (Nat × Bool)} {w : World} {Q' : Act → Prop} (hQ' : ∀ a, Q' a → wpPath P ops Q S last T a w) : ∀ (H : List Nat) (l : List Oper) (a : Act), H.map (fun i => ops[i]?) = l.map some → l.all givesB = true →
    wpQuiet P ops S Q' l a → wpPath P ops Q S last (H.map (fun i => (i, true)) ++ T) a w
  | [], [], a, _, _, h => hQ' a h
  | [], o :: l, _, he, _, _ => by cases he
  | i :: H, [], _, he, _, _ => by cases he
  | i :: H, o :: l, a, he, hg, h => by
    rw [List.map_cons, List.map_cons] at he
    injection he with he1 he2
    rw [List.all_cons, Bool.and_eq_true] at hg
    rw [wpQuiet] at h
    by_cases hw : Region.wanted o (yielded ops a.tmps) = true
    · rw [if_pos hw] at h
      obtain ⟨v, h1, h2⟩ := h
      exact ⟨o, v, he1, yields_of_quiet hg.1 hw h1, wpPath_quiet hQ' H l _ he2 hg.2 h2⟩
    · rw [if_neg hw] at h
      exact ⟨o, undef, he1, .inr ⟨by simpa using hw, rfl⟩, wpPath_quiet hQ' H l _ he2 hg.2 h⟩
end

section
variable {P : Program} {ops : Array Oper} {Q : Exit → Act → World → Prop} {md : Region.Mode} {S : World → Prop} {last : Nat}
/-- The numbers that an operation waits for, as the bits of one number. -/
def depFold (md : Region.Mode) : List Edge → Nat → Nat
  | [], m => m
  | e :: l, m => depFold md l (if Region.binds md e then m ||| (1 <<< e.on) else m)
theorem testBit_one_shift (i b : Nat) : (1 <<< i).testBit b = decide (i = b) := by
  rw [Nat.shiftLeft_eq, Nat.one_mul, Nat.testBit_two_pow]
theorem depFold_bit (l : List Edge) : ∀ (m b : Nat), (depFold md l m).testBit b = true ↔ m.testBit b = true ∨ ∃ e ∈ l, Region.binds md e = true ∧ e.on = b := by
  induction l with
  | nil => intro m b; simp [depFold]
  | cons e l ih =>
    intro m b
    rw [depFold, ih]
    by_cases hb : Region.binds md e = true
    · rw [if_pos hb, Nat.testBit_or, testBit_one_shift]
      simp only [Bool.or_eq_true, decide_eq_true_eq, List.mem_cons, exists_eq_or_imp, hb, true_and]
      constructor
      · rintro ((h | h) | h)
        · exact .inl h
        · exact .inr (.inl h)
        · exact .inr (.inr h)
      · rintro (h | h | h)
        · exact .inl (.inl h)
        · exact .inl (.inr h)
        · exact .inr h
    · rw [if_neg hb]
      simp only [List.mem_cons, exists_eq_or_imp, hb]
      simp
def tabOf (md : Region.Mode) (l : List Oper) : List Nat := l.map fun o => depFold md o.after.toList 0
theorem and_sub (d m : Nat) : d &&& m = d ↔ ∀ b, d.testBit b = true → m.testBit b = true := by
  constructor
  · intro h b hb
    have := congrArg (fun x => x.testBit b) h
    simp only [Nat.testBit_and, hb, Bool.true_and] at this
    exact this
  · intro h
    apply Nat.eq_of_testBit_eq
    intro b
    rw [Nat.testBit_and]
    cases hd : d.testBit b with
    | false => rfl
    | true => rw [h b hd]; rfl
/-- What is listed, as the bits of a number. -/
structure Mask (ops : Array Oper) (listed : Array Bool) (m : Nat) : Prop where
  size : listed.size = ops.size
  bits : ∀ j, j < ops.size → listed.getD j true = m.testBit j
theorem Mask.set {listed : Array Bool} {m i : Nat} (h : Mask ops listed m) (hi : i < ops.size) : Mask ops (listed.setIfInBounds i true) (m ||| (1 <<< i)) := by
  refine ⟨by rw [Array.size_setIfInBounds]; exact h.size, fun j hj => ?_⟩
  rw [Nat.testBit_or, testBit_one_shift]
  by_cases hij : i = j
  · subst hij
    simp [Array.getD, h.size, hi]
  · rw [getD_set_ne true hij, h.bits j hj]
    simp [hij]
theorem ready_mask {tab : List Nat} {listed : Array Bool} {m : Nat} (ht : tabOf md ops.toList = tab) (hlt : ∀ d ∈ tab, d < 2 ^ ops.size) (h : Mask ops listed m) (j : Nat) :
    j ∈ Region.ready md ops listed ↔ j < ops.size ∧ m.testBit j = false ∧ (tab.getD j 0) &&& m = tab.getD j 0 := by
  rw [mem_ready]
  have key : ∀ o, ops[j]? = some o → ((∀ e ∈ o.after, Region.binds md e = true → listed.getD e.on false = true) ↔ (tab.getD j 0) &&& m = tab.getD j 0) := fun o ho => by
    have hj : j < ops.size := (Array.getElem?_eq_some_iff.1 ho).1
    have hd : tab.getD j 0 = depFold md o.after.toList 0 := by
      rw [← ht, tabOf, List.getD_eq_getElem?_getD, List.getElem?_map, Array.getElem?_toList, ho]
      rfl
    have hdm : tab.getD j 0 < 2 ^ ops.size := by
      refine hlt _ ?_
      have hl : j < tab.length := by rw [← ht, tabOf, List.length_map, Array.length_toList]; exact hj
      rw [List.getD_eq_getElem?_getD, List.getElem?_eq_getElem hl]
      exact List.getElem_mem hl
    rw [and_sub]
    have hb : ∀ b, (tab.getD j 0).testBit b = true ↔ ∃ e ∈ o.after.toList, Region.binds md e = true ∧ e.on = b := fun b => by
      rw [hd, depFold_bit]
      simp
    constructor
    · intro h1 b hb1
      obtain ⟨e, he, hbi, rfl⟩ := (hb b).1 hb1
      have h2 := h1 e (Array.mem_toList_iff.1 he) hbi
      have hon : e.on < ops.size := by
        rcases Nat.lt_or_ge e.on listed.size with h' | h'
        · rw [← h.size]; exact h'
        · simp [Array.getElem?_eq_none h'] at h2
      rw [← h.bits e.on hon]
      have h' : e.on < listed.size := by rw [h.size]; exact hon
      simp [h'] at h2 ⊢
      exact h2
    · intro h1 e he hbi
      have h2 := (hb e.on).2 ⟨e, Array.mem_toList_iff.2 he, hbi, rfl⟩
      have hon : e.on < ops.size := by
        rcases Nat.lt_or_ge e.on ops.size with h' | h'
        · exact h'
        · rw [Nat.testBit_lt_two_pow (Nat.lt_of_lt_of_le hdm (Nat.pow_le_pow_right (by decide) h'))] at h2
          cases h2
      have h3 := h1 e.on h2
      rw [← h.bits e.on hon] at h3
      have h' : e.on < listed.size := by rw [h.size]; exact hon
      simp [h'] at h3 ⊢
      exact h3
  constructor
  · rintro ⟨h1, o, ho, h2⟩
    have hj : j < ops.size := (Array.getElem?_eq_some_iff.1 ho).1
    exact ⟨hj, by rw [← h.bits j hj]; exact h1, (key o ho).1 h2⟩
  · rintro ⟨hj, h1, h2⟩
    refine ⟨by rw [h.bits j hj]; exact h1, ops[j], Array.getElem?_eq_getElem hj, (key _ (Array.getElem?_eq_getElem hj)).2 h2⟩
/-- Each operation leaves its value in a temporary of its own, and waits for those whose values it looks at. -/
def neatB (base : Nat) (ops : Array Oper) (tab : List Nat) (last : Nat) : List Oper → Nat → Bool
  | [], _ => true
  | o :: l, j => (if j == last then o.dst.isNone else o.dst == some (base + j)) && ((o.looksAt ops).all fun d => decide (d < base) || decide (base + last ≤ d) || (tab.getD j 0).testBit (d - base)) && neatB base ops tab last l (j + 1)
theorem neatB_spec {base : Nat} {tab : List Nat} : ∀ (l : List Oper) (k : Nat), neatB base ops tab last l k = true → ∀ (i : Nat) (o : Oper), l[i]? = some o →
    (if k + i = last then o.dst = none else o.dst = some (base + (k + i))) ∧ ∀ d ∈ o.looksAt ops, d < base ∨ base + last ≤ d ∨ (tab.getD (k + i) 0).testBit (d - base) = true
  | [], _, _, i, o, h => by cases h
  | x :: l, k, hB, i, o, h => by
    simp only [neatB, Bool.and_eq_true, List.all_eq_true, Bool.or_eq_true, decide_eq_true_eq] at hB
    obtain ⟨⟨h1, h2⟩, h3⟩ := hB
    cases i with
    | zero =>
      have : x = o := by simpa using h
      subst this
      refine ⟨?_, fun d hd => by rcases h2 d hd with (h | h) | h; exact .inl h; exact .inr (.inl h); exact .inr (.inr h)⟩
      by_cases hk : k = last
      · subst hk
        simp at h1 ⊢
        exact h1
      · rw [if_neg (by simpa using hk)] at h1
        rw [if_neg (by simpa using hk)]
        simpa using h1
    | succ i =>
      have := neatB_spec l (k + 1) h3 i o (by simpa using h)
      rw [show k + 1 + i = k + (i + 1) by omega] at this
      exact this
theorem apart_neat {base : Nat} {tab : List Nat} (hB : neatB base ops tab last ops.toList 0 = true) {i j : Nat} {oi oj : Oper} (hi : ops[i]? = some oi) (hj : ops[j]? = some oj) (hne : j ≠ i) (hil : i < last) (hjl : j ≤ last)
    (h1 : (tab.getD j 0).testBit i = false) (h2 : (tab.getD i 0).testBit j = false) : oi.apart ops oj = true := by
  have a1 := neatB_spec ops.toList 0 hB i oi (by rw [Array.getElem?_toList]; exact hi)
  have a2 := neatB_spec ops.toList 0 hB j oj (by rw [Array.getElem?_toList]; exact hj)
  simp only [Nat.zero_add] at a1 a2
  obtain ⟨b1, b2⟩ := a1
  obtain ⟨c1, c2⟩ := a2
  rw [if_neg (by omega)] at b1
  unfold Oper.apart
  rw [b1]
  simp only [Bool.and_eq_true, Bool.not_eq_true', bne_iff_ne]
  refine ⟨⟨?_, ?_⟩, ?_⟩
  · rw [Bool.eq_false_iff]
    intro hc
    have hm : base + i ∈ oj.looksAt ops := by simpa using hc
    rcases c2 _ hm with h | h | h
    · exact absurd h (Nat.not_lt.2 (Nat.le_add_right base i))
    · exact absurd (Nat.le_of_add_le_add_left h) (Nat.not_le.2 hil)
    · rw [Nat.add_sub_cancel_left] at h; rw [h1] at h; cases h
  · intro hc
    by_cases hjl2 : j = last
    · rw [if_pos hjl2] at c1; rw [c1] at hc; cases hc
    · rw [if_neg hjl2] at c1
      rw [c1] at hc
      injection hc with hc
      omega
  · by_cases hjl2 : j = last
    · rw [if_pos hjl2] at c1; rw [c1]
    · rw [if_neg hjl2] at c1
      rw [c1]
      simp only [Bool.not_eq_true']
      rw [Bool.eq_false_iff]
      intro hc
      have hm : base + j ∈ oi.looksAt ops := by simpa using hc
      rcases b2 _ hm with h | h | h
      · exact absurd h (Nat.not_lt.2 (Nat.le_add_right base j))
      · exact absurd (Nat.le_of_add_le_add_left h) (Nat.not_le.2 (by omega))
      · rw [Nat.add_sub_cancel_left] at h; rw [h2] at h; cases h
/-- The order that is walked, checked by numbers. -/
def pathN (tab : List Nat) (n last : Nat) : List (Nat × Bool) → Nat → Bool
  | [], m => m == 2 ^ n - 1
  | (i, true) :: L, m => decide (i < last) && !m.testBit i && ((tab.getD i 0) &&& m == tab.getD i 0) && (tab.getD last 0).testBit i && pathN tab n last L (m ||| (1 <<< i))
  | (i, false) :: L, m => decide (i < n) && !m.testBit i && ((tab.getD i 0) &&& m == tab.getD i 0) && ((List.range n).all fun j => j == i || m.testBit j || (tab.getD j 0) &&& m != tab.getD j 0) && (i != last || L.isEmpty) && pathN tab n last L (m ||| (1 <<< i))
theorem waits_tab {tab : List Nat} (ht : tabOf md ops.toList = tab) {i j : Nat} {oj : Oper} (hj : ops[j]? = some oj) : (tab.getD j 0).testBit i = true ↔ ∃ e ∈ oj.after, Region.binds md e = true ∧ e.on = i := by
  have hd : tab.getD j 0 = depFold md oj.after.toList 0 := by
    rw [← ht, tabOf, List.getD_eq_getElem?_getD, List.getElem?_map, Array.getElem?_toList, hj]
    rfl
  rw [hd, depFold_bit]
  simp
theorem wpAnyS_pathN {tab : List Nat} {base : Nat} (ht : tabOf md ops.toList = tab) (hlt : ∀ d ∈ tab, d < 2 ^ ops.size) (hneat : neatB base ops tab last ops.toList 0 = true) (hlast : last + 1 = ops.size) (hs : Region.noSelect ops = true) (hQ : ∀ c a a' w, Q (.panic c) a w → Q (.panic c) a' w) :
    ∀ (L : List (Nat × Bool)) (listed : Array Bool) (m : Nat) (a : Act) (w : World), Mask ops listed m → (L ≠ [] → S w) → pathN tab ops.size last L m = true → wpPath P ops Q S last L a w → wpAnyS P md ops Q S last L.length listed a w
  | [], listed, m, a, w, hm, _, hB, h => by
    refine ⟨?_, h⟩
    simp only [pathN, beq_iff_eq] at hB
    cases hr : Region.ready md ops listed with
    | nil => rfl
    | cons j r =>
      have hj : j ∈ Region.ready md ops listed := by rw [hr]; simp
      obtain ⟨h1, h2, _⟩ := (ready_mask ht hlt hm j).1 hj
      rw [hB, Nat.testBit_two_pow_sub_one] at h2
      simp at h2
      omega
  | (i, true) :: L, listed, m, a, w, hm, hS, hB, h => by
    simp only [pathN, Bool.and_eq_true, decide_eq_true_eq, Bool.not_eq_true', beq_iff_eq] at hB
    obtain ⟨⟨⟨⟨hB1, hB2⟩, hB3⟩, hB4⟩, hB5⟩ := hB
    obtain ⟨oi, v, hi, hy, hrest⟩ := h
    have his : i < ops.size := by omega
    have hr : i ∈ Region.ready md ops listed := (ready_mask ht hlt hm i).2 ⟨his, hB2, hB3⟩
    have hw : waitsB md ops last i = true := by
      have hl : last < ops.size := by omega
      obtain ⟨e, he, hb, hon⟩ := (waits_tab ht (Array.getElem?_eq_getElem hl)).1 hB4
      unfold waitsB
      rw [Array.getElem?_eq_getElem hl]
      exact Array.any_eq_true'.2 ⟨e, he, by simp [hb, hon]⟩
    refine wpAnyS_first hi (Region.noSelect_spec hs) (fun c a w => hQ c _ _ w) hw (by omega) L.length listed a w (fun j oj hj hne hun hno => ?_) hr hy (hS (by simp)) (wpAnyS_pathN ht hlt hneat hlast hs hQ L _ _ _ _ (hm.set his) (fun _ => hS (by simp)) hB5 hrest)
    have hjs : j < ops.size := (Array.getElem?_eq_some_iff.1 hj).1
    refine apart_neat hneat hi hj hne hB1 (by omega) ?_ ?_
    · rw [Bool.eq_false_iff]
      intro hc
      obtain ⟨e, he, hb, hon⟩ := (waits_tab ht hj).1 hc
      exact hno e he hb hon
    · rw [Bool.eq_false_iff]
      intro hc
      have h1 := (and_sub _ _).1 hB3 j hc
      rw [← hm.bits j hjs, hun] at h1
      cases h1
  | (i, false) :: L, listed, m, a, w, hm, hS, hB, h => by
    simp only [pathN, Bool.and_eq_true, decide_eq_true_eq, Bool.not_eq_true', beq_iff_eq, List.all_eq_true, List.mem_range, Bool.or_eq_true, bne_iff_ne] at hB
    obtain ⟨⟨⟨⟨⟨hB1, hB2⟩, hB3⟩, hB4⟩, hB5⟩, hB6⟩ := hB
    have only : ∀ j, j ∈ Region.ready md ops listed → j = i := fun j hj => by
      obtain ⟨h1, h2, h3⟩ := (ready_mask ht hlt hm j).1 hj
      rcases hB4 j h1 with (h4 | h4) | h4
      · exact h4
      · rw [h2] at h4; cases h4
      · exact absurd h3 h4
    have hr : i ∈ Region.ready md ops listed := (ready_mask ht hlt hm i).2 ⟨hB1, hB2, hB3⟩
    refine ⟨fun h0 => (by rw [h0] at hr; cases hr), fun j hj => ?_⟩
    obtain rfl := only j hj
    refine wpOp_mono (fun a' w' h' => ⟨h'.1, wpAnyS_pathN ht hlt hneat hlast hs hQ L _ _ a' w' (hm.set hB1) (fun hne => h'.1 ?_) hB6 h'.2⟩) h
    rcases hB5 with h1 | h1
    · exact h1
    · exact absurd (List.isEmpty_iff.1 h1) hne
/-- A region that asks the tape, walked in one order. -/
theorem wp_region_pathN {id : Nat} {a : Act} {w : World} (L : List (Nat × Bool)) (tab : List Nat) (base : Nat) (hm : P.follows .mixedOrders = true) (hs : Region.noSelect ops = true) (hL : L.length = ops.size) (hlast : last + 1 = ops.size)
    (ht : tabOf .any ops.toList = tab) (hlt : (tab.all fun d => decide (d < 2 ^ ops.size)) = true) (hneat : neatB base ops tab last ops.toList 0 = true)
    (hB : pathN tab ops.size last L 0 = true) (hS : S { w with drawn := w.drawn + 1 }) (h : wpPath P ops (NoPanic Q) S last L a { w with drawn := w.drawn + 1 }) : (Code.region id ops true).wp P Q a w := by
  have hlt' : ∀ d ∈ tab, d < 2 ^ ops.size := fun d hd => by have := List.all_eq_true.1 hlt d hd; simpa using this
  have hmask : Mask ops (Array.replicate ops.size false) 0 := ⟨by simp, fun j hj => by simp [hj]⟩
  have h1 := wpAnyS_pathN (md := .any) (base := base) ht hlt' hneat hlast hs (fun c a a' w h => h) L _ 0 a _ hmask (fun _ => hS) hB h
  rw [hL] at h1
  exact wp_region_noPanic (wp_region_any hm (wpAny_of_S _ _ _ _ h1))
end
end Go.Proofs.YtalajbfpilhfgaaGreatDoor
