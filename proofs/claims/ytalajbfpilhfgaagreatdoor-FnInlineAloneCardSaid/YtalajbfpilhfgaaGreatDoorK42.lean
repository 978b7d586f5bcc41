/-
  FnInlineAlone: lists of nodes that join to the same; what the inline parser hangs below a node, flat.
  FnInlineAlone: words are passed over as a text, at any place of a paragraph's text.
  FnInlineAlone: emphasis of all kinds, one in another, is found as it is meant.
  FnInlineAlone: words, emphasis and strikethrough as pieces of a line.
-/
import Derived.Test.YtalajbfpilhfgaaGreatDoorK27
set_option linter.unusedVariables false
set_option linter.unusedSimpArgs false
namespace Go.Proofs.YtalajbfpilhfgaaGreatDoor
open Go.RowKit

def Eqv (l l' : List InN) : Prop := ∀ out, l.foldl joinStep out = l'.foldl joinStep out
theorem Eqv.refl (l : List InN) : Eqv l l := fun _ => rfl
theorem Eqv.symm {l l' : List InN} (h : Eqv l l') : Eqv l' l := fun out => (h out).symm
theorem Eqv.trans {a b c : List InN} (h1 : Eqv a b) (h2 : Eqv b c) : Eqv a c := fun out => (h1 out).trans (h2 out)
theorem Eqv.app {a b c d : List InN} (h1 : Eqv a b) (h2 : Eqv c d) : Eqv (a ++ c) (b ++ d) := by
  intro out
  rw [List.foldl_append, List.foldl_append, h1 out, h2]
theorem Eqv.cons (n : InN) {a b : List InN} (h : Eqv a b) : Eqv (n :: a) (n :: b) := Eqv.app (Eqv.refl [n]) h
theorem Eqv.joined {a b : List InN} (h : Eqv a b) : joined a = joined b := h []
theorem eqv_nil (d : Int) : Eqv [inT d []] [] := fun out => joinStep_empty (out := out) (n := inT d []) rfl rfl
theorem eqv_app (d : Int) (a b : Bs) : Eqv [inT d a, inT d b] [inT d (a ++ b)] := by
  intro out
  simp only [List.foldl]
  by_cases ha : a = []
  · subst ha
    rw [joinStep_empty (n := inT d []) rfl rfl]
    rfl
  by_cases hb : b = []
  · subst hb
    rw [joinStep_empty (n := inT d []) rfl rfl, List.append_nil]
  have hab : a ++ b ≠ [] := by simp [ha]
  have key : ∀ o : List InN, joinStep (o ++ [inT d a]) (inT d b) = o ++ [inT d (a ++ b)] := by
    intro o
    rw [joinStep_join (n := inT d b) (p := inT d a) rfl (by simp) hb ⟨rfl, rfl⟩]
    simp [inT]
  cases hl : out.getLast? with
  | none =>
    have : out = [] := by simpa using hl
    subst this
    rw [joinStep_first (n := inT d a) ha, joinStep_first (n := inT d (a ++ b)) hab]
    exact key []
  | some p =>
    by_cases hp : p.ty = 12 ∧ p.dep = d
    · rw [joinStep_join (n := inT d a) rfl hl ha hp, joinStep_join (n := inT d (a ++ b)) rfl hl hab hp,
        joinStep_join (n := inT d b) (p := { p with lit := p.lit ++ a }) rfl (by simp [inT]) hb hp]
      simp [inT]
    · rw [joinStep_apart (n := inT d a) hl ha hp, joinStep_apart (n := inT d (a ++ b)) hl hab hp]
      exact key out
theorem eqv_app' (d : Int) (a b : Bs) (r : List InN) : Eqv (inT d a :: inT d b :: r) (inT d (a ++ b) :: r) := Eqv.app (eqv_app d a b) (Eqv.refl r)
theorem eqv_nil' (d : Int) (r : List InN) : Eqv (inT d [] :: r) r := Eqv.app (eqv_nil d) (Eqv.refl r)

def flatG : Int → G → List InN
  | _, .nil => []
  | d, .cons ty lb db tb k r => ⟨d, ty, lb.getD [], db.getD [], tb.getD [], tb.isSome⟩ :: (flatG (d + 1) k ++ flatG d r)
theorem flatG_app (d : Int) : ∀ (f g : G), flatG d (f.app g) = flatG d f ++ flatG d g
  | .nil, g => rfl
  | .cons ty lb db tb k r, g => by rw [G.app, flatG, flatG, flatG_app d r g]; simp
theorem flatG_one (d ty : Int) (lb db tb : Option Bs) (k : G) : flatG d (G.one ty lb db tb k) = ⟨d, ty, lb.getD [], db.getD [], tb.getD [], tb.isSome⟩ :: flatG (d + 1) k := by
  rw [G.one, flatG, flatG, List.append_nil]
theorem flatG_text (d : Int) (l : Bs) : flatG d (textG l) = [inT d l] := by
  rw [textG, flatG_one]; rfl
def segM (D : Bs) (d : Int) : List Seg → Nat → List InN
  | [], _ => []
  | .q n :: r, e => inT d ((D.drop e).take n) :: segM D d r (e + n)
  | .t n o :: r, e => flatG d (o.getD .nil) ++ segM D d r (e + n)
theorem take_two (D : Bs) (b e n : Nat) (hb : b ≤ e) : (D.drop b).take (e + n - b) = (D.drop b).take (e - b) ++ (D.drop e).take n := by
  rw [show e + n - b = (e - b) + n from by omega, List.take_add, List.drop_drop, show b + (e - b) = e from by omega]
theorem outG_eqv (D : Bs) (d : Int) : ∀ (s : List Seg) (b e : Nat), b ≤ e → Eqv (flatG d (outG D s b e)) (inT d ((D.drop b).take (e - b)) :: segM D d s e)
  | [], b, e, hb => by
    rw [outG, segM]
    by_cases h : b < e
    · rw [if_pos h, flatG_text]
      exact Eqv.refl _
    · rw [if_neg h, show e - b = 0 from by omega, List.take_zero]
      exact (eqv_nil d).symm
  | .q n :: r, b, e, hb => by
    rw [outG, segM]
    refine (outG_eqv D d r b (e + n) (by omega)).trans ?_
    rw [take_two D b e n hb]
    exact (eqv_app' d _ _ _).symm
  | .t n o :: r, b, e, hb => by
    rw [outG, segM, flatG_app, flatG_app, flatG_text]
    refine Eqv.app (Eqv.refl [_]) (Eqv.app (Eqv.refl _) ?_)
    refine (outG_eqv D d r (e + n) (e + n) (Nat.le_refl _)).trans ?_
    rw [Nat.sub_self, List.take_zero]
    exact eqv_nil' d _
/-- How much a list of nodes holds: each node, and the bytes of its texts. -/
def gw : G → Nat
  | .nil => 0
  | .cons _ lb db tb k r => 1 + (lb.getD []).length + (db.getD []).length + (tb.getD []).length + gw k + gw r
theorem gw_app : ∀ (f g : G), gw (f.app g) = gw f + gw g
  | .nil, g => by rw [G.app, gw, Nat.zero_add]
  | .cons _ _ _ _ k r, g => by rw [G.app, gw, gw, gw_app r g]; omega
theorem gw_one (ty : Int) (lb db tb : Option Bs) (k : G) : gw (G.one ty lb db tb k) = 1 + (lb.getD []).length + (db.getD []).length + (tb.getD []).length + gw k := by rw [G.one, gw, gw, Nat.add_zero]
theorem gw_nil : gw .nil = 0 := rfl
theorem gw_text (l : Bs) : gw (textG l) = 1 + l.length := by rw [textG, gw_one]; simp [gw_nil]
def cntS : List Seg → Nat
  | [] => 0
  | .q n :: r => n + cntS r
  | .t _ o :: r => 1 + gw (o.getD .nil) + cntS r
theorem cntS_app : ∀ (s r : List Seg), cntS (s ++ r) = cntS s + cntS r
  | [], r => by rw [List.nil_append, cntS, Nat.zero_add]
  | .q n :: s, r => by rw [List.cons_append, cntS, cntS, cntS_app s r, Nat.add_assoc]
  | .t n o :: s, r => by rw [List.cons_append, cntS, cntS, cntS_app s r]; omega
theorem outG_gw (D : Bs) : ∀ (s : List Seg) (b e : Nat), b ≤ e → gw (outG D s b e) ≤ (e - b) + cntS s + 1
  | [], b, e, hb => by
    rw [outG, cntS]
    by_cases h : b < e
    · rw [if_pos h, gw_text, List.length_take]
      omega
    · rw [if_neg h, gw_nil]; omega
  | .q n :: r, b, e, hb => by
    rw [outG, cntS]
    have := outG_gw D r b (e + n) (by omega)
    omega
  | .t n o :: r, b, e, hb => by
    rw [outG, cntS, gw_app, gw_app, gw_text, List.length_take]
    have := outG_gw D r (e + n) (e + n) (Nat.le_refl _)
    omega

def SegsTo (x : Ctx) (k : Nat) (ins : Bool) : List Seg → Nat → Nat → Prop
  | [], e, f => e = f
  | .q n :: r, e, f => (∀ i, i < n → Quiet x k ins (e + i)) ∧ SegsTo x k ins r (e + n) f
  | .t n o :: r, e, f => 0 < n ∧ Takes x k ins e n o ∧ SegsTo x k ins r (e + n) f
theorem segsTo_le {x : Ctx} {k : Nat} {ins : Bool} : ∀ (s : List Seg) (e f : Nat), SegsTo x k ins s e f → e ≤ f
  | [], e, f, h => Nat.le_of_eq h
  | .q n :: r, e, f, h => by have := segsTo_le r _ _ h.2; omega
  | .t n o :: r, e, f, h => by have := segsTo_le r _ _ h.2.2; omega
theorem segsTo_ok {x : Ctx} {k : Nat} {ins : Bool} : ∀ (s : List Seg) (e : Nat), SegsTo x k ins s e x.D.length → SegsOk x k ins s e
  | [], e, h => h
  | .q n :: r, e, h => ⟨h.1, segsTo_le r _ _ h.2, segsTo_ok r _ h.2⟩
  | .t n o :: r, e, h => ⟨h.1, h.2.1, segsTo_le r _ _ h.2.2, segsTo_ok r _ h.2.2⟩
theorem segsTo_app {x : Ctx} {k : Nat} {ins : Bool} (D : Bs) (d : Int) : ∀ (s r : List Seg) (e f g : Nat), SegsTo x k ins s e f → SegsTo x k ins r f g → SegsTo x k ins (s ++ r) e g ∧ segM D d (s ++ r) e = segM D d s e ++ segM D d r f
  | [], r, e, f, g, h, h2 => by
    obtain rfl : e = f := h
    exact ⟨h2, rfl⟩
  | .q n :: s, r, e, f, g, h, h2 => by
    obtain ⟨h3, h4⟩ := segsTo_app D d s r (e + n) f g h.2 h2
    exact ⟨⟨h.1, h3⟩, by rw [List.cons_append, segM, segM, h4]; rfl⟩
  | .t n o :: s, r, e, f, g, h, h2 => by
    obtain ⟨h3, h4⟩ := segsTo_app D d s r (e + n) f g h.2.2 h2
    exact ⟨⟨h.1, h.2.1, h3⟩, by rw [List.cons_append, segM, segM, h4, List.append_assoc]⟩
def Runs (x : Ctx) (k : Nat) (ins : Bool) (d : Int) (e f : Nat) (l : List InN) : Prop := ∃ sg, SegsTo x k ins sg e f ∧ Eqv (segM x.D d sg e) l ∧ cntS sg ≤ 4 * (f - e)
theorem Runs.app {x : Ctx} {k : Nat} {ins : Bool} {d : Int} {e f g : Nat} {l m : List InN} (h1 : Runs x k ins d e f l) (h2 : Runs x k ins d f g m) : Runs x k ins d e g (l ++ m) := by
  obtain ⟨s, a, b, c⟩ := h1
  obtain ⟨t, a2, b2, c2⟩ := h2
  obtain ⟨a3, b3⟩ := segsTo_app x.D d s t e f g a a2
  have e1 := segsTo_le _ _ _ a
  have e2 := segsTo_le _ _ _ a2
  exact ⟨s ++ t, a3, by rw [b3]; exact b.app b2, by rw [cntS_app]; omega⟩
theorem Runs.eqv {x : Ctx} {k : Nat} {ins : Bool} {d : Int} {e f : Nat} {l m : List InN} (h1 : Runs x k ins d e f l) (h : Eqv l m) : Runs x k ins d e f m := by
  obtain ⟨s, a, b, c⟩ := h1
  exact ⟨s, a, b.trans h, c⟩
theorem Runs.to {x : Ctx} {k : Nat} {ins : Bool} {d : Int} {e f f' : Nat} {l : List InN} (h1 : Runs x k ins d e f l) (h : f = f') : Runs x k ins d e f' l := h ▸ h1
theorem Runs.nil (x : Ctx) (k : Nat) (ins : Bool) (d : Int) (e : Nat) : Runs x k ins d e e [] := ⟨[], rfl, Eqv.refl _, by rw [cntS]; omega⟩
theorem Runs.quiet {x : Ctx} {k : Nat} {ins : Bool} {d : Int} {e : Nat} (n : Nat) (h : ∀ i, i < n → Quiet x k ins (e + i)) : Runs x k ins d e (e + n) [inT d ((x.D.drop e).take n)] := ⟨[.q n], ⟨h, rfl⟩, Eqv.refl _, by rw [cntS, cntS]; omega⟩
theorem Runs.take {x : Ctx} {k : Nat} {ins : Bool} {d : Int} {e n : Nat} {o : Option G} (hn : 0 < n) (h : Takes x k ins e n o) (hc : 1 + gw (o.getD .nil) ≤ 4 * n) : Runs x k ins d e (e + n) (flatG d (o.getD .nil)) := ⟨[.t n o], ⟨hn, h, rfl⟩, by rw [segM, segM, List.append_nil]; exact Eqv.refl _, by rw [cntS, cntS]; omega⟩
theorem Runs.done {x : Ctx} {k : Nat} {ins : Bool} {d : Int} {l : List InN} (h : Runs x k ins d 0 x.D.length l) : ∃ sg, SegsOk x k ins sg 0 ∧ Eqv (flatG d (outG x.D sg 0 0)) l ∧ gw (outG x.D sg 0 0) ≤ 4 * x.D.length + 1 := by
  obtain ⟨s, a, b, c⟩ := h
  refine ⟨s, segsTo_ok s 0 a, (outG_eqv x.D d s 0 0 (Nat.le_refl _)).trans ?_, ?_⟩
  · rw [Nat.sub_self, List.take_zero]
    exact (eqv_nil' d _).trans b
  · have := outG_gw x.D s 0 0 (Nat.le_refl _)
    omega

def At (D : Bs) (e : Nat) (l : Bs) : Prop := (∀ j, j < l.length → D.getD (e + j) 0 = l.getD j 0) ∧ e + l.length ≤ D.length
theorem at_nil {D : Bs} {e : Nat} (h : e ≤ D.length) : At D e [] := ⟨fun j hj => absurd hj (Nat.not_lt_zero _), h⟩
theorem At.to {D : Bs} {e f : Nat} {l : Bs} (h : At D e l) (he : e = f) : At D f l := he ▸ h
theorem At.head {D : Bs} {e : Nat} {c : UInt8} {l : Bs} (h : At D e (c :: l)) : D.getD e 0 = c := by simpa using h.1 0 (by simp)
theorem At.tail {D : Bs} {e : Nat} {c : UInt8} {l : Bs} (h : At D e (c :: l)) : At D (e + 1) l := by
  refine ⟨fun j hj => ?_, by have := h.2; rw [List.length_cons] at this; omega⟩
  have := h.1 (j + 1) (by rw [List.length_cons]; omega)
  rw [show e + 1 + j = e + (j + 1) from by omega, this, List.getD_cons_succ]
theorem getD_app_l {a b : Bs} {j : Nat} (h : j < a.length) : (a ++ b).getD j 0 = a.getD j 0 := by
  rw [List.getD_eq_getElem?_getD, List.getD_eq_getElem?_getD, List.getElem?_append_left h]
theorem getD_app_r {a b : Bs} {j : Nat} : (a ++ b).getD (a.length + j) 0 = b.getD j 0 := by
  rw [List.getD_eq_getElem?_getD, List.getD_eq_getElem?_getD, List.getElem?_append_right (by omega), Nat.add_sub_cancel_left]
theorem At.left {D : Bs} {e : Nat} {a b : Bs} (h : At D e (a ++ b)) : At D e a := by
  have h2 := h.2
  rw [List.length_append] at h2
  exact ⟨fun j hj => by rw [h.1 j (by rw [List.length_append]; omega), getD_app_l hj], by omega⟩
theorem At.right {D : Bs} {e : Nat} {a b : Bs} (h : At D e (a ++ b)) : At D (e + a.length) b := by
  have h2 := h.2
  rw [List.length_append] at h2
  exact ⟨fun j hj => by rw [Nat.add_assoc, h.1 (a.length + j) (by rw [List.length_append]; omega), getD_app_r], by omega⟩
theorem At.get {D : Bs} {e : Nat} {l : Bs} (h : At D e l) (i : Nat) (h1 : e ≤ i) (h2 : i < e + l.length) : D.getD i 0 = l.getD (i - e) 0 := by
  rw [← h.1 (i - e) (by omega), show e + (i - e) = i from by omega]
theorem getD_some {l : Bs} {j : Nat} (h : j < l.length) : l[j]? = some (l.getD j 0) := by
  rw [List.getD_eq_getElem?_getD, List.getElem?_eq_getElem h]; rfl
theorem At.text {D : Bs} {e : Nat} {l : Bs} (h : At D e l) : (D.drop e).take l.length = l := by
  have h2 := h.2
  apply List.ext_getElem?
  intro j
  by_cases hj : j < l.length
  · rw [List.getElem?_take_of_lt hj, List.getElem?_drop, getD_some (by omega), h.1 j hj, getD_some hj]
  · rw [List.getElem?_eq_none (by rw [List.length_take]; omega), List.getElem?_eq_none (by omega)]
theorem at_drop {D p l r : Bs} (h : D = p ++ (l ++ r)) : At D p.length l := by
  subst h
  exact ⟨fun j hj => by rw [getD_app_r, getD_app_l hj], by rw [List.length_append, List.length_append]; omega⟩
theorem at_full (l : Bs) : At l 0 l := ⟨fun j _ => by rw [Nat.zero_add], by omega⟩
theorem At.sub {x : Ctx} {s e a : Nat} {l : Bs} (h : At x.D (s + e) l) (hl : e + l.length ≤ a) (ha : s + a ≤ x.D.length) : At (x.sub s a).D e l := by
  refine ⟨fun j hj => ?_, by rw [sub_len ha]; exact hl⟩
  rw [sub_get (show e + j < a from by omega), ← h.1 j hj, Nat.add_assoc]
theorem At.mem {D : Bs} {e : Nat} {l : Bs} (h : At D e l) {p : UInt8 → Prop} (hp : ∀ c ∈ l, p c) (i : Nat) (h1 : e ≤ i) (h2 : i < e + l.length) : p (D.getD i 0) := by
  rw [h.get i h1 h2]
  have := getD_some (l := l) (j := i - e) (by omega)
  exact hp _ (List.mem_of_getElem? this)

def isWd (c : UInt8) : Bool := isLet c || c == 32
theorem wd_ne {c k : UInt8} (h : isWd c = true) (hk : isWd k = false) : c ≠ k := by
  rintro rfl
  rw [h] at hk; cases hk
theorem let_ne {c k : UInt8} (h : isLet c = true) (hk : isLet k = false) : c ≠ k := by
  rintro rfl
  rw [h] at hk; cases hk
theorem Words.wd {l : Bs} (h : Words l) : ∀ c ∈ l, isWd c = true := fun c hc => by
  rcases h.all c hc with h1 | h1
  · simp [isWd, h1]
  · subst h1; rfl
theorem let_sp {c : UInt8} (h : isLet c = true) : isSp c = false := by
  cases hs : isSp c with
  | false => rfl
  | true =>
    simp [isSp, isHs, isVs, isLet] at hs h
    omega
theorem quiet_none {x : Ctx} {k : Nat} {ins : Bool} {e : Nat} (h : cbN x.ext (x.D.getD e 0) = none) : Quiet x k ins e := fun f hf => by rw [h] at hf; cases hf
theorem cb_let {ext : Nat} {c : UInt8} {f : Nat} (hl : isLet c = true) (h : cbN ext c = some f) : f = 56 := by
  unfold cbN at h
  rw [if_neg (let_ne hl rfl), if_neg (fun h => h.elim (let_ne hl rfl) (let_ne hl rfl)), if_neg (let_ne hl rfl), if_neg (let_ne hl rfl), if_neg (let_ne hl rfl), if_neg (let_ne hl rfl), if_neg (let_ne hl rfl), if_neg (let_ne hl rfl), if_neg (let_ne hl rfl), if_neg (let_ne hl rfl), if_neg (let_ne hl rfl)] at h
  split at h
  · split at h
    · injection h with h; exact h.symm
    · cases h
  · cases h
theorem quiet_let {x : Ctx} {k : Nat} {ins : Bool} {e : Nat} (he : e < x.D.length) (hl : isLet (x.D.getD e 0) = true) (hP : ins = false → NoPre x.D e) : Quiet x k ins e := by
  intro f hf w hi
  obtain rfl := cb_let hl hf
  exact auto_quiet x k ins e he hP w hi
theorem quiet_blank {x : Ctx} {k : Nat} {ins : Bool} {e : Nat} (he : e < x.D.length) (h : x.D.getD e 0 = 32) (h1 : e + 1 < x.D.length → x.D.getD (e + 1) 0 ≠ 32 ∧ x.D.getD (e + 1) 0 ≠ 10) : Quiet x k ins e := by
  intro f hf w hi
  rw [h] at hf
  have : f = 46 := by
    unfold cbN at hf
    rw [if_pos rfl] at hf
    injection hf with hf; exact hf.symm
  subst this
  exact brk_quiet x k ins e he h h1 w hi
/-- What stands behind letters is none that makes a link of them. -/
def Aft (D : Bs) (f : Nat) : Prop := isLet (D.getD f 0) = false ∧ D.getD f 0 ≠ 58 ∧ D.getD f 0 ≠ 26
theorem getD_end {D : Bs} {f : Nat} (h : D.length ≤ f) : D.getD f 0 = 0 := by
  rw [List.getD_eq_getElem?_getD, List.getElem?_eq_none h]; rfl
theorem aft_end {D : Bs} {f : Nat} (h : D.length ≤ f) : Aft D f := by
  unfold Aft
  rw [getD_end h]
  decide
theorem aft_of {D : Bs} {f : Nat} {c : UInt8} (h : D.getD f 0 = c) (hc : (!isLet c && c != 58 && c != 26) = true) : Aft D f := by
  unfold Aft
  rw [h]
  simp only [Bool.and_eq_true, Bool.not_eq_true', bne_iff_ne] at hc
  exact ⟨hc.1.1, hc.1.2, hc.2⟩
theorem first_non (D : Bs) (i : Nat) : ∃ n, (∀ j, j < n → isLet (D.getD (i + j) 0) = true) ∧ isLet (D.getD (i + n) 0) = false := by
  by_cases h : isLet (D.getD i 0) = true
  · have hi : i < D.length := by
      by_cases hc : i < D.length
      · exact hc
      · rw [getD_end (by omega)] at h; cases h
    obtain ⟨n, h1, h2⟩ := first_non D (i + 1)
    refine ⟨n + 1, fun j hj => ?_, by rw [show i + (n + 1) = i + 1 + n from by omega]; exact h2⟩
    cases j with
    | zero => exact h
    | succ j => rw [show i + (j + 1) = i + 1 + j from by omega]; exact h1 j (by omega)
  · exact ⟨0, fun j hj => absurd hj (Nat.not_lt_zero _), by simpa using h⟩
termination_by D.length - i
theorem pre_byte {p c : UInt8} (hp : isLet p = true ∧ isLet (p - 32) = true ∨ p = 58) (hl : isLet c = false) (h58 : c ≠ 58) (h26 : c ≠ 26) : p ≠ c ∧ p ≠ c + 32 := by
  rcases hp with ⟨h1, h2⟩ | rfl
  · refine ⟨fun h => (by rw [h, hl] at h1; cases h1), fun h => ?_⟩
    rw [h, UInt8.add_sub_cancel, hl] at h2; cases h2
  · refine ⟨fun h => h58 h.symm, fun h => ?_⟩
    have h' := congrArg (fun u : UInt8 => u - 32) h
    simp only [UInt8.add_sub_cancel] at h'
    exact h26 h'.symm
theorem pre_let {c : UInt8} (hl : isLet c = true) : (58 : UInt8) ≠ c ∧ (58 : UInt8) ≠ c + 32 := by
  refine ⟨fun h => (by rw [← h] at hl; cases hl), fun h => ?_⟩
  have h' := congrArg (fun u : UInt8 => u - 32) h
  simp only [UInt8.add_sub_cancel] at h'
  rw [← h'] at hl; cases hl
theorem noPre {D : Bs} {e n : Nat} (h1 : ∀ j, j < n → isLet (D.getD (e + j) 0) = true) (h2 : Aft D (e + n)) : NoPre D e := by
  obtain ⟨hl, h58, h26⟩ := h2
  have key : ∀ (P : Bs) (m : Nat), m < P.length → P.getD m 0 = 58 → (∀ j, j < m → isLet (P.getD j 0) = true ∧ isLet (P.getD j 0 - 32) = true) → ∃ j, j < P.length ∧ P.getD j 0 ≠ D.getD (e + j) 0 ∧ P.getD j 0 ≠ D.getD (e + j) 0 + 32 := by
    intro P m hm h58P hP
    by_cases hn : n ≤ m
    · refine ⟨n, by omega, ?_⟩
      refine pre_byte ?_ hl h58 h26
      by_cases hnm : n = m
      · exact .inr (hnm ▸ h58P)
      · exact .inl (hP n (by omega))
    · exact ⟨m, hm, by rw [h58P]; exact (pre_let (h1 m (by omega))).1, by rw [h58P]; exact (pre_let (h1 m (by omega))).2⟩
  intro i hi
  match i, hi with
  | 0, _ => exact key _ 4 (by decide) (by decide) (by decide)
  | 1, _ => exact key _ 5 (by decide) (by decide) (by decide)
  | 2, _ => exact key _ 3 (by decide) (by decide) (by decide)
  | 3, _ => exact key _ 4 (by decide) (by decide) (by decide)
  | 4, _ => exact key _ 6 (by decide) (by decide) (by decide)
theorem words_quiet {x : Ctx} {k : Nat} {ins : Bool} {e : Nat} {a : Bs} (hw : Words a) (h : At x.D e a) (ha : Aft x.D (e + a.length)) (i : Nat) (hi : i < a.length) : Quiet x k ins (e + i) := by
  have h2 := h.2
  have hc := h.1 i hi
  rcases hw.all _ (List.mem_of_getElem? (getD_some hi)) with hl | hb
  · refine quiet_let (by omega) (by rw [hc]; exact hl) fun _ => ?_
    obtain ⟨n, hn1, hn2⟩ := first_non x.D (e + i)
    refine noPre hn1 ?_
    have hle : i + n ≤ a.length := by
      by_cases hc : i + n ≤ a.length
      · exact hc
      · have := hn1 (a.length - i) (by omega)
        rw [show e + i + (a.length - i) = e + a.length from by omega, ha.1] at this
        cases this
    by_cases heq : i + n = a.length
    · rw [show e + i + n = e + a.length from by omega]; exact ha
    · have hg := h.1 (i + n) (by omega)
      rw [← Nat.add_assoc] at hg
      rcases hw.all _ (List.mem_of_getElem? (getD_some (show i + n < a.length from by omega))) with h3 | h3
      · rw [← hg, hn2] at h3; cases h3
      · exact aft_of (hg.trans h3) (by decide)
  · have hlast : i + 1 < a.length := by
      by_cases hc : i + 1 < a.length
      · exact hc
      · have := hw.last
        rw [show a.length - 1 = i from by omega, hb] at this; cases this
    refine quiet_blank (by omega) (hc.trans hb) fun _ => ?_
    rw [Nat.add_assoc, h.1 (i + 1) hlast]
    refine ⟨hw.gap i hb, ?_⟩
    rcases hw.all _ (List.mem_of_getElem? (getD_some hlast)) with h3 | h3
    · exact let_ne h3 rfl
    · rw [h3]; decide
theorem runs_words {x : Ctx} {k : Nat} {ins : Bool} {d : Int} {e : Nat} {a : Bs} (hw : Words a) (h : At x.D e a) (ha : Aft x.D (e + a.length)) : Runs x k ins d e (e + a.length) [inT d a] := by
  have := Runs.quiet (d := d) a.length (fun i hi => words_quiet (k := k) (ins := ins) hw h ha i hi)
  rwa [h.text] at this
theorem runs_quiet1 {x : Ctx} {k : Nat} {ins : Bool} {d : Int} {e : Nat} {c : UInt8} (h : At x.D e [c]) (hq : Quiet x k ins e) : Runs x k ins d e (e + 1) [inT d [c]] := by
  have := Runs.quiet (d := d) 1 (fun i hi => by obtain rfl : i = 0 := by omega
                                                exact hq)
  rwa [show (x.D.drop e).take 1 = [c] from h.text] at this
theorem runs_blank {x : Ctx} {k : Nat} {ins : Bool} {d : Int} {e : Nat} (h : At x.D e [32]) (h1 : e + 1 < x.D.length → x.D.getD (e + 1) 0 ≠ 32 ∧ x.D.getD (e + 1) 0 ≠ 10) : Runs x k ins d e (e + 1) [inT d [32]] :=
  runs_quiet1 h (quiet_blank h.2 h.head h1)
theorem One.words {a : Bs} (h : One a) : Words a := h.1

def InRuns (ext k : Nat) (ins : Bool) (d : Int) (ct : Bs) (l : List InN) : Prop := ∀ y : Ctx, y.D = ct → y.ext = ext → Runs y k ins d 0 ct.length l
theorem in_words {ext k : Nat} {ins : Bool} {d : Int} {ct : Bs} (hw : Words ct) : InRuns ext k ins d ct [inT d ct] := by
  intro y hy _
  have hA : At y.D 0 ct := hy ▸ at_full ct
  exact (runs_words hw hA (aft_end (by rw [hy]; omega))).to (by omega)
theorem InRuns.done {x : Ctx} {k : Nat} {ins : Bool} {d : Int} {s : Nat} {ct : Bs} {l : List InN} (h : At x.D s ct) (hi : InRuns x.ext k ins d ct l) : ∃ sg, SegsOk (x.sub s ct.length) k ins sg 0 ∧ Eqv (flatG d (outG (x.sub s ct.length).D sg 0 0)) l ∧ gw (outG (x.sub s ct.length).D sg 0 0) ≤ 4 * ct.length + 1 := by
  have hD : (x.sub s ct.length).D = ct := h.text
  have := hi (x.sub s ct.length) hD rfl
  obtain ⟨sg, h1, h2, h3⟩ := Runs.done (this.to (by rw [hD]))
  rw [hD] at h3 ⊢
  exact ⟨sg, h1, by rwa [hD] at h2, h3⟩
/-- What stands within marks c. -/
structure Inner (c : UInt8) (ct : Bs) : Prop where
  all : ∀ b ∈ ct, b ≠ c ∧ b ≠ 96 ∧ b ≠ 91
  pos : 0 < ct.length
  first : isLet (ct.getD 0 0) = true
  last : isLet (ct.getD (ct.length - 1) 0) = true
theorem Words.inner {a : Bs} (h : Words a) {c : UInt8} (hc : isWd c = false) : Inner c a where
  all := fun b hb => ⟨wd_ne (h.wd b hb) hc, wd_ne (h.wd b hb) rfl, wd_ne (h.wd b hb) rfl⟩
  pos := h.pos
  first := h.first
  last := h.last
theorem let_last {y : UInt8} (h : isLet y = true) : y ≠ 92 ∧ isSp y = false ∧ y ≠ 10 := ⟨let_ne h rfl, let_sp h, let_ne h rfl⟩
theorem runs_em1 {x : Ctx} {k : Nat} {ins : Bool} {d : Int} {e : Nat} {c : UInt8} {ct : Bs} {l : List InN} (hc : c = 42 ∨ c = 95) (hk : k < 16) (hx : x.ext ≤ 131070) (h : At x.D e (c :: (ct ++ [c]))) (hI : Inner c ct)
    (hin : InRuns x.ext (k + 1) ins (d + 1) ct l) (h4 : e + ct.length + 2 < x.D.length → x.D.getD (e + ct.length + 2) 0 ≠ c ∧ endOk (x.D.getD (e + ct.length + 2) 0)) : Runs x k ins d e (e + (ct.length + 2)) (inO d 7 :: l) := by
  have hA : At x.D (e + 1) ct := h.tail.left
  have hB := h.tail.right.head
  have h2 := h.2
  simp only [List.length_cons, List.length_append, List.length_nil] at h2
  have hpos := hI.pos
  obtain ⟨sg, hs, hE, hcn⟩ := InRuns.done hA hin
  have hT := em1_takes x k ins e ct.length c sg (by rcases hc with rfl | rfl <;> simp [cbN]) (by rcases hc with rfl | rfl <;> decide) h.head hk hx hpos (by omega)
    (fun j hj => by rw [hA.1 j hj]; exact hI.all _ (List.mem_of_getElem? (getD_some hj)))
    (by have := hA.1 0 hpos; rw [Nat.add_zero] at this; rw [this]; exact let_sp hI.first) hB
    (by rw [show e + 1 + ct.length - 1 = e + 1 + (ct.length - 1) from by omega, hA.1 _ (by omega)]; exact let_last hI.last)
    (by rw [show e + 1 + ct.length + 1 = e + ct.length + 2 from by omega]; exact h4) hs
  refine (Runs.take (d := d) (by omega) hT (by simp [gw_one, gw_nil]; omega)).eqv ?_
  rw [Option.getD_some, flatG_one]
  exact hE.cons _
theorem runs_em2 {x : Ctx} {k : Nat} {ins : Bool} {d : Int} {e : Nat} {c : UInt8} {ct : Bs} {l : List InN} (hc : c = 42 ∨ c = 95 ∨ (c = 126 ∧ x.ext.testBit 5 = true)) (ty : Int) (hty : ty = if c = 126 then 9 else 8) (hk : k < 16) (h : At x.D e (c :: c :: (ct ++ [c, c]))) (hI : Inner c ct)
    (hin : InRuns x.ext (k + 1) ins (d + 1) ct l) : Runs x k ins d e (e + (ct.length + 4)) (inO d ty :: l) := by
  have hA : At x.D (e + 2) ct := h.tail.tail.left
  have hR := h.tail.tail.right
  have h2 := h.2
  simp only [List.length_cons, List.length_append, List.length_nil] at h2
  have hpos := hI.pos
  obtain ⟨sg, hs, hE, hcn⟩ := InRuns.done hA hin
  have hT := em2_takes x k ins e ct.length c ty hty sg (by rcases hc with rfl | rfl | ⟨rfl, h5⟩ <;> simp [cbN]; exact h5) h.head h.tail.head hk hpos (by omega)
    (fun j hj => by rw [hA.1 j hj]; exact hI.all _ (List.mem_of_getElem? (getD_some hj)))
    (by have := hA.1 0 hpos; rw [Nat.add_zero] at this; rw [this]; exact let_sp hI.first) hR.head hR.tail.head
    (by rw [show e + 2 + ct.length - 1 = e + 2 + (ct.length - 1) from by omega, hA.1 _ (by omega)]; exact let_last hI.last) hs
  refine (Runs.take (d := d) (by omega) hT (by simp [gw_one, gw_nil]; omega)).eqv ?_
  rw [Option.getD_some, flatG_one]
  exact hE.cons _
theorem runs_em3 {x : Ctx} {k : Nat} {ins : Bool} {d : Int} {e : Nat} {c : UInt8} {ct : Bs} {l : List InN} (hc : c = 42 ∨ c = 95) (hk : k < 16) (h : At x.D e (c :: c :: c :: (ct ++ [c, c, c]))) (hI : Inner c ct)
    (hin : InRuns x.ext (k + 1) ins (d + 1 + 1) ct l) : Runs x k ins d e (e + (ct.length + 6)) (inO d 8 :: inO (d + 1) 7 :: l) := by
  have hA : At x.D (e + 3) ct := h.tail.tail.tail.left
  have hR := h.tail.tail.tail.right
  have h2 := h.2
  simp only [List.length_cons, List.length_append, List.length_nil] at h2
  have hpos := hI.pos
  obtain ⟨sg, hs, hE, hcn⟩ := InRuns.done hA hin
  have hT := em3_takes x k ins e ct.length c sg (by rcases hc with rfl | rfl <;> simp [cbN]) (by rcases hc with rfl | rfl <;> decide)
    (fun j hj => by
      match j, hj with
      | 0, _ => exact h.head
      | 1, _ => exact h.tail.head
      | 2, _ => exact h.tail.tail.head) hk hpos (by omega)
    (fun j hj => by rw [hA.1 j hj]; exact hI.all _ (List.mem_of_getElem? (getD_some hj)))
    (by have := hA.1 0 hpos; rw [Nat.add_zero] at this; rw [this]; exact let_sp hI.first)
    (fun j hj => by
      match j, hj with
      | 0, _ => exact hR.head
      | 1, _ => exact hR.tail.head
      | 2, _ => exact hR.tail.tail.head)
    (by rw [show e + 3 + ct.length - 1 = e + 3 + (ct.length - 1) from by omega, hA.1 _ (by omega)]; exact let_last hI.last) hs
  refine (Runs.take (d := d) (by omega) hT (by simp [gw_one, gw_nil]; omega)).eqv ?_
  rw [Option.getD_some, flatG_one, flatG_one]
  exact (hE.cons _).cons _
theorem endOk_32 : endOk 32 := .inl rfl
theorem first_let {a : Bs} (h : Words a) {D : Bs} {e : Nat} {r : Bs} (hA : At D e (a ++ r)) : isLet (D.getD e 0) = true := by
  have := hA.left.1 0 h.pos
  rw [Nat.add_zero] at this
  rw [this]; exact h.first
theorem first_let' {a : Bs} (h : Words a) {D : Bs} {e : Nat} (hA : At D e a) : isLet (D.getD e 0) = true := by
  have := hA.1 0 h.pos
  rw [Nat.add_zero] at this
  rw [this]; exact h.first
theorem at_one {D : Bs} {e : Nat} {c : UInt8} {r : Bs} (h : At D e (c :: r)) : At D e [c] := At.left (a := [c]) h
/-- Words, a blank, what is marked, a blank, words. -/
theorem runs_mid {x : Ctx} {k : Nat} {ins : Bool} {d : Int} {e : Nat} {a m c : Bs} {l : List InN} (ha : Words a) (hc : Words c) (h : At x.D e (a ++ (32 :: (m ++ (32 :: c))))) (hm0 : m.getD 0 0 ≠ 32 ∧ m.getD 0 0 ≠ 10) (hmp : 0 < m.length)
    (hm : At x.D (e + a.length + 1) m → x.D.getD (e + a.length + 1 + m.length) 0 = 32 → Runs x k ins d (e + a.length + 1) (e + a.length + 1 + m.length) l) (haf : Aft x.D (e + (a.length + m.length + c.length + 2))) :
    Runs x k ins d e (e + (a.length + m.length + c.length + 2)) (inT d (a ++ [32]) :: (l ++ [inT d (32 :: c)])) := by
  have h1 := runs_words (k := k) (ins := ins) (d := d) ha h.left (aft_of h.right.head (by decide))
  have hM := h.right.tail
  have hmg := hM.1 0 (by rw [List.length_append]; omega)
  rw [Nat.add_zero, getD_app_l hmp] at hmg
  have h2 := runs_blank (k := k) (ins := ins) (d := d) (at_one h.right) (fun _ => by rw [hmg]; exact hm0)
  have h3 := hm hM.left hM.right.head
  have hC := hM.right.tail
  have hl := first_let' hc hC
  have h4 := runs_blank (k := k) (ins := ins) (d := d) (at_one hM.right) (fun _ => ⟨let_ne hl rfl, let_ne hl rfl⟩)
  have h5 := runs_words (k := k) (ins := ins) (d := d) hc hC (by rw [show e + a.length + 1 + m.length + 1 + c.length = e + (a.length + m.length + c.length + 2) from by omega]; exact haf)
  have h6 := (((h1.app h2).app h3).app h4).app h5
  refine (h6.to (by omega)).eqv ?_
  have e1 := eqv_app d a [32]
  have e2 := eqv_app d [32] c
  have := (e1.app (Eqv.refl l)).app e2
  simpa using this
theorem in_mid1 {ext k : Nat} {ins : Bool} {d : Int} {a b c : Bs} {o : UInt8} (hext : ext ≤ 131070) (hk : k + 1 < 17) (ho : o = 42 ∨ o = 95) (ha : Words a) (hb : Words b) (hc : Words c) :
    InRuns ext k ins d (a ++ (32 :: o :: (b ++ (o :: 32 :: c)))) [inT d (a ++ [32]), inO d 7, inT (d + 1) b, inT d (32 :: c)] := by
  intro y hy hye
  have hA : At y.D 0 (a ++ (32 :: ((o :: (b ++ [o])) ++ (32 :: c)))) := by
    rw [hy]; simpa using at_full (a ++ (32 :: o :: (b ++ (o :: 32 :: c))))
  have hlen : y.D.length = a.length + (o :: (b ++ [o])).length + c.length + 2 := by rw [hy]; simp; omega
  have := runs_mid (x := y) (k := k) (ins := ins) (d := d) (l := [inO d 7, inT (d + 1) b]) ha hc hA (show o ≠ 32 ∧ o ≠ 10 from by rcases ho with rfl | rfl <;> decide) (by simp) (fun h1 h2 => by
    have hl : (o :: (b ++ [o])).length = b.length + 2 := by simp
    have := runs_em1 (ins := ins) (d := d) ho (show k < 16 by omega) (by rw [hye]; exact hext) h1 (hb.inner (by rcases ho with rfl | rfl <;> rfl)) (in_words hb) (fun _ => by
      rw [show 0 + a.length + 1 + b.length + 2 = 0 + a.length + 1 + (o :: (b ++ [o])).length from by rw [hl]; omega, h2]
      exact ⟨by rcases ho with rfl | rfl <;> decide, endOk_32⟩)
    rw [hl]; exact this) (aft_end (by rw [hlen]; omega))
  exact this.to (by simp; omega)
theorem in_mid2 {ext k : Nat} {ins : Bool} {d : Int} {a b c : Bs} {o : UInt8} (ty : Int) (hty : ty = if o = 126 then 9 else 8) (hk : k + 1 < 17) (ho : o = 42 ∨ o = 95 ∨ (o = 126 ∧ ext.testBit 5 = true)) (ha : Words a) (hb : Words b) (hc : Words c) :
    InRuns ext k ins d (a ++ (32 :: o :: o :: (b ++ (o :: o :: 32 :: c)))) [inT d (a ++ [32]), inO d ty, inT (d + 1) b, inT d (32 :: c)] := by
  intro y hy hye
  have hA : At y.D 0 (a ++ (32 :: ((o :: o :: (b ++ [o, o])) ++ (32 :: c)))) := by
    rw [hy]; simpa using at_full (a ++ (32 :: o :: o :: (b ++ (o :: o :: 32 :: c))))
  have hlen : y.D.length = a.length + (o :: o :: (b ++ [o, o])).length + c.length + 2 := by rw [hy]; simp; omega
  have := runs_mid (x := y) (k := k) (ins := ins) (d := d) (l := [inO d ty, inT (d + 1) b]) ha hc hA (show o ≠ 32 ∧ o ≠ 10 from by rcases ho with rfl | rfl | ⟨rfl, _⟩ <;> decide) (by simp) (fun h1 h2 => by
    have hl : (o :: o :: (b ++ [o, o])).length = b.length + 4 := by simp
    have := runs_em2 (ins := ins) (d := d) (by rw [hye]; exact ho) ty hty (show k < 16 by omega) h1 (hb.inner (by rcases ho with rfl | rfl | ⟨rfl, _⟩ <;> rfl)) (in_words hb)
    rw [hl]; exact this) (aft_end (by rw [hlen]; omega))
  exact this.to (by simp; omega)
theorem Inner.mid {a b c m m' : Bs} {o : UInt8} (ha : Words a) (hb : Words b) (hc : Words c) (ho : isWd o = false) (hm : ∀ y ∈ m ++ m', y ≠ o ∧ y ≠ 96 ∧ y ≠ 91) : Inner o (a ++ (m ++ (b ++ (m' ++ c)))) where
  all := fun y hy => by
    simp only [List.mem_append] at hy hm
    rcases hy with h | h | h | h | h
    · exact (ha.inner ho).all y h
    · exact hm y (.inl h)
    · exact (hb.inner ho).all y h
    · exact hm y (.inr h)
    · exact (hc.inner ho).all y h
  pos := by have := ha.pos; rw [List.length_append]; omega
  first := by rw [getD_app_l ha.pos]; exact ha.first
  last := by
    have := hc.pos
    rw [show (a ++ (m ++ (b ++ (m' ++ c)))) = (a ++ (m ++ (b ++ m'))) ++ c from by simp, List.length_append,
      show (a ++ (m ++ (b ++ m'))).length + c.length - 1 = (a ++ (m ++ (b ++ m'))).length + (c.length - 1) from by omega, getD_app_r]
    exact hc.last

/-- What stands behind a piece: the text's end, a blank, a line's end, a backslash. -/
def Nxt (D : Bs) (f : Nat) : Prop := f < D.length → D.getD f 0 = 32 ∨ D.getD f 0 = 10 ∨ D.getD f 0 = 92
theorem Nxt.aft {D : Bs} {f : Nat} (h : Nxt D f) : Aft D f := by
  by_cases hf : f < D.length
  · rcases h hf with h1 | h1 | h1
    · exact aft_of h1 (by decide)
    · exact aft_of h1 (by decide)
    · exact aft_of h1 (by decide)
  · exact aft_end (by omega)
theorem Nxt.em {D : Bs} {f : Nat} (h : Nxt D f) {c : UInt8} (hc : c ≠ 32 ∧ c ≠ 10 ∧ c ≠ 92) : f < D.length → D.getD f 0 ≠ c ∧ endOk (D.getD f 0) := by
  intro hf
  rcases h hf with h1 | h1 | h1
  · rw [h1]; exact ⟨fun h => hc.1 h.symm, .inl (by decide)⟩
  · rw [h1]; exact ⟨fun h => hc.2.1 h.symm, .inl (by decide)⟩
  · rw [h1]; exact ⟨fun h => hc.2.2 h.symm, .inr rfl⟩
theorem pk_0 {x : Ctx} {e v : Nat} {del auto : Bool} {o z : UInt8} {a b c : Bs} (ha : Words a) (h : At x.D e (wrK o z a b c 0 v)) (hn : Nxt x.D (e + (wrK o z a b c 0 v).length)) : Runs x 1 false 0 e (e + (wrK o z a b c 0 v).length) (meK del auto o z a b c 0 v) := by
  simp only [wrK, meK] at *
  exact runs_words ha h hn.aft
theorem pk_1 {x : Ctx} {e v : Nat} {del auto : Bool} {o z : UInt8} {a b c : Bs} (hx : x.ext ≤ 131070) (ho : o = 42 ∨ o = 95) (ha : Words a) (h : At x.D e (wrK o z a b c 1 v)) (hn : Nxt x.D (e + (wrK o z a b c 1 v).length)) : Runs x 1 false 0 e (e + (wrK o z a b c 1 v).length) (meK del auto o z a b c 1 v) := by
  simp only [wrK, meK] at *
  have hl : (o :: (a ++ [o])).length = a.length + 2 := by simp
  rw [hl] at hn ⊢
  exact runs_em1 ho (by omega) hx h (ha.inner (by rcases ho with rfl | rfl <;> rfl)) (in_words ha) (hn.em (by rcases ho with rfl | rfl <;> decide))
theorem pk_2 {x : Ctx} {e v : Nat} {del auto : Bool} {o z : UInt8} {a b c : Bs} (ho : o = 42 ∨ o = 95) (ha : Words a) (h : At x.D e (wrK o z a b c 2 v)) : Runs x 1 false 0 e (e + (wrK o z a b c 2 v).length) (meK del auto o z a b c 2 v) := by
  simp only [wrK, meK] at *
  have hl : (o :: o :: (a ++ [o, o])).length = a.length + 4 := by simp
  rw [hl]
  exact runs_em2 (ho.imp id .inl) 8 (by rcases ho with rfl | rfl <;> rfl) (by omega) h (ha.inner (by rcases ho with rfl | rfl <;> rfl)) (in_words ha)
theorem pk_3 {x : Ctx} {e v : Nat} {del auto : Bool} {o z : UInt8} {a b c : Bs} (ho : o = 42 ∨ o = 95) (ha : Words a) (h : At x.D e (wrK o z a b c 3 v)) : Runs x 1 false 0 e (e + (wrK o z a b c 3 v).length) (meK del auto o z a b c 3 v) := by
  simp only [wrK, meK] at *
  have hl : (o :: o :: o :: (a ++ [o, o, o])).length = a.length + 6 := by simp
  rw [hl]
  exact runs_em3 ho (by omega) h (ha.inner (by rcases ho with rfl | rfl <;> rfl)) (in_words ha)
theorem runs_none {x : Ctx} {k : Nat} {ins : Bool} {d : Int} {e : Nat} {c : UInt8} (h : At x.D e [c]) (hc : cbN x.ext c = none) : Runs x k ins d e (e + 1) [inT d [c]] :=
  runs_quiet1 h (quiet_none (by rw [h.head]; exact hc))
theorem cb126 {ext : Nat} (h : ext.testBit 5 = false) : cbN ext 126 = none := by
  simp [cbN, h]
theorem runs_tt {x : Ctx} {k : Nat} {ins : Bool} {d : Int} {e : Nat} {r : Bs} (h5 : x.ext.testBit 5 = false) (h : At x.D e (126 :: 126 :: r)) : Runs x k ins d e (e + 2) [inT d [126, 126]] :=
  ((runs_none (at_one h) (cb126 h5)).app (runs_none (at_one h.tail) (cb126 h5))).eqv (eqv_app d [126] [126])
theorem pk_4 {x : Ctx} {e v : Nat} {auto : Bool} {o z : UInt8} {a b c : Bs} (ha : Words a) (h : At x.D e (wrK o z a b c 4 v)) (hn : Nxt x.D (e + (wrK o z a b c 4 v).length)) : Runs x 1 false 0 e (e + (wrK o z a b c 4 v).length) (meK (x.ext.testBit 5) auto o z a b c 4 v) := by
  simp only [wrK, meK] at *
  have hl : (126 :: 126 :: (a ++ [126, 126]) : Bs).length = a.length + 4 := by simp
  rw [hl] at hn ⊢
  by_cases h5 : x.ext.testBit 5 = true
  · rw [if_pos h5]
    exact runs_em2 (.inr (.inr ⟨rfl, h5⟩)) 9 rfl (by omega) h (ha.inner rfl) (in_words ha)
  · rw [if_neg h5]
    have h5' : x.ext.testBit 5 = false := by simpa using h5
    have h1 := runs_tt (k := 1) (ins := false) (d := 0) h5' h
    have hA := h.tail.tail
    have h2 := runs_words (k := 1) (ins := false) (d := 0) ha hA.left (aft_of hA.right.head (by decide))
    have h3 := runs_tt (k := 1) (ins := false) (d := 0) h5' hA.right
    refine (((h1.app h2).app h3).to (by omega)).eqv ?_
    have := (Eqv.app (eqv_app 0 [126, 126] a) (Eqv.refl [inT 0 [126, 126]])).trans (eqv_app 0 _ _)
    simpa using this
theorem pk_14 {x : Ctx} {e v : Nat} {del auto : Bool} {o z : UInt8} {a b c : Bs} (hx : x.ext ≤ 131070) (ho : (o = 42 ∧ z = 95) ∨ (o = 95 ∧ z = 42)) (ha : Words a) (hb : Words b) (hc : Words c) (h : At x.D e (wrK o z a b c 14 v)) : Runs x 1 false 0 e (e + (wrK o z a b c 14 v).length) (meK del auto o z a b c 14 v) := by
  simp only [wrK, meK] at *
  have hI : Inner o (a ++ (32 :: z :: (b ++ (z :: 32 :: c)))) := Inner.mid (m := [32, z]) (m' := [z, 32]) ha hb hc (by rcases ho with ⟨rfl, rfl⟩ | ⟨rfl, rfl⟩ <;> rfl) (by rcases ho with ⟨rfl, rfl⟩ | ⟨rfl, rfl⟩ <;> decide)
  have hh : At x.D e (o :: o :: ((a ++ (32 :: z :: (b ++ (z :: 32 :: c)))) ++ [o, o])) := by simpa using h
  have := runs_em2 (k := 1) (ins := false) (d := 0) (by rcases ho with ⟨rfl, rfl⟩ | ⟨rfl, rfl⟩ <;> simp) 8 (by rcases ho with ⟨rfl, rfl⟩ | ⟨rfl, rfl⟩ <;> rfl) (by omega) hh hI (in_mid1 hx (by omega) (by rcases ho with ⟨rfl, rfl⟩ | ⟨rfl, rfl⟩ <;> simp) ha hb hc)
  exact this.to (by simp; omega)
theorem pk_15 {x : Ctx} {e v : Nat} {del auto : Bool} {o z : UInt8} {a b c : Bs} (hx : x.ext ≤ 131070) (ho : (o = 42 ∧ z = 95) ∨ (o = 95 ∧ z = 42)) (ha : Words a) (hb : Words b) (hc : Words c) (h : At x.D e (wrK o z a b c 15 v)) (hn : Nxt x.D (e + (wrK o z a b c 15 v).length)) : Runs x 1 false 0 e (e + (wrK o z a b c 15 v).length) (meK del auto o z a b c 15 v) := by
  simp only [wrK, meK] at *
  have hI : Inner o (a ++ (32 :: z :: z :: (b ++ (z :: z :: 32 :: c)))) := Inner.mid (m := [32, z, z]) (m' := [z, z, 32]) ha hb hc (by rcases ho with ⟨rfl, rfl⟩ | ⟨rfl, rfl⟩ <;> rfl) (by rcases ho with ⟨rfl, rfl⟩ | ⟨rfl, rfl⟩ <;> decide)
  have hh : At x.D e (o :: ((a ++ (32 :: z :: z :: (b ++ (z :: z :: 32 :: c)))) ++ [o])) := by simpa using h
  have hl : (o :: (a ++ (32 :: z :: z :: (b ++ (z :: z :: 32 :: (c ++ [o])))))).length = (a ++ (32 :: z :: z :: (b ++ (z :: z :: 32 :: c)))).length + 2 := by simp; omega
  rw [hl] at hn ⊢
  exact runs_em1 (k := 1) (ins := false) (d := 0) (by rcases ho with ⟨rfl, rfl⟩ | ⟨rfl, rfl⟩ <;> simp) (by omega) hx hh hI (in_mid2 8 (by rcases ho with ⟨rfl, rfl⟩ | ⟨rfl, rfl⟩ <;> rfl) (by omega) (by rcases ho with ⟨rfl, rfl⟩ | ⟨rfl, rfl⟩ <;> simp) ha hb hc)
    (hn.em (by rcases ho with ⟨rfl, rfl⟩ | ⟨rfl, rfl⟩ <;> decide))
theorem pk_18 {x : Ctx} {e v : Nat} {auto : Bool} {o z : UInt8} {a b c : Bs} (hx : x.ext ≤ 131070) (ho : o = 42 ∨ o = 95) (ha : Words a) (hb : Words b) (hc : Words c) (h : At x.D e (wrK o z a b c 18 v)) : Runs x 1 false 0 e (e + (wrK o z a b c 18 v).length) (meK (x.ext.testBit 5) auto o z a b c 18 v) := by
  simp only [wrK, meK] at *
  by_cases h5 : x.ext.testBit 5 = true
  · rw [if_pos h5]
    have hI : Inner 126 (a ++ (32 :: o :: (b ++ (o :: 32 :: c)))) := Inner.mid (m := [32, o]) (m' := [o, 32]) ha hb hc rfl (by rcases ho with rfl | rfl <;> decide)
    have hh : At x.D e (126 :: 126 :: ((a ++ (32 :: o :: (b ++ (o :: 32 :: c)))) ++ [126, 126])) := by simpa using h
    have := runs_em2 (k := 1) (ins := false) (d := 0) (.inr (.inr ⟨rfl, h5⟩)) 9 rfl (by omega) hh hI (in_mid1 hx (by omega) ho ha hb hc)
    exact this.to (by simp; omega)
  · rw [if_neg h5]
    have h5' : x.ext.testBit 5 = false := by simpa using h5
    have h1 := runs_tt (k := 1) (ins := false) (d := 0) h5' h
    have hA : At x.D (e + 2) ((a ++ (32 :: ((o :: (b ++ [o])) ++ (32 :: c)))) ++ [126, 126]) := by simpa using h.tail.tail
    have hE := hA.right.head
    have hlen : (a ++ (32 :: ((o :: (b ++ [o])) ++ (32 :: c)))).length = a.length + (o :: (b ++ [o])).length + c.length + 2 := by simp; omega
    have h2 := runs_mid (k := 1) (ins := false) (d := 0) (l := [inO 0 7, inT 1 b]) ha hc hA.left (show o ≠ 32 ∧ o ≠ 10 from by rcases ho with rfl | rfl <;> decide) (by simp) (fun h1 h2 => by
      have hl : (o :: (b ++ [o])).length = b.length + 2 := by simp
      have := runs_em1 (k := 1) (ins := false) (d := 0) ho (by omega) hx h1 (hb.inner (by rcases ho with rfl | rfl <;> rfl)) (in_words hb) (fun _ => by
        rw [show e + 2 + a.length + 1 + b.length + 2 = e + 2 + a.length + 1 + (o :: (b ++ [o])).length from by rw [hl]; omega, h2]
        exact ⟨by rcases ho with rfl | rfl <;> decide, endOk_32⟩)
      rw [hl]; exact this) (by rw [← hlen]; exact aft_of hE (by decide))
    rw [← hlen] at h2
    have h3 := runs_tt (k := 1) (ins := false) (d := 0) h5' hA.right
    refine (((h1.app h2).app h3).to (by simp; omega)).eqv ?_
    have := ((eqv_app 0 [126, 126] (a ++ [32])).app (Eqv.refl [inO 0 7, inT 1 b])).app (eqv_app 0 (32 :: c) [126, 126])
    simpa using this
theorem pk_19 {x : Ctx} {e v : Nat} {auto : Bool} {o z : UInt8} {a b c : Bs} (hx : x.ext ≤ 131070) (ho : o = 42 ∨ o = 95) (ha : Words a) (hb : Words b) (hc : Words c) (h : At x.D e (wrK o z a b c 19 v)) (hn : Nxt x.D (e + (wrK o z a b c 19 v).length)) : Runs x 1 false 0 e (e + (wrK o z a b c 19 v).length) (meK (x.ext.testBit 5) auto o z a b c 19 v) := by
  simp only [wrK, meK] at *
  have hI : Inner o (a ++ (32 :: 126 :: 126 :: (b ++ (126 :: 126 :: 32 :: c)))) := Inner.mid (m := [32, 126, 126]) (m' := [126, 126, 32]) ha hb hc (by rcases ho with rfl | rfl <;> rfl) (by rcases ho with rfl | rfl <;> decide)
  have hh : At x.D e (o :: ((a ++ (32 :: 126 :: 126 :: (b ++ (126 :: 126 :: 32 :: c)))) ++ [o])) := by simpa using h
  have hl : (o :: (a ++ (32 :: 126 :: 126 :: (b ++ (126 :: 126 :: 32 :: (c ++ [o])))))).length = (a ++ (32 :: 126 :: 126 :: (b ++ (126 :: 126 :: 32 :: c)))).length + 2 := by simp; omega
  rw [hl] at hn ⊢
  have hin : InRuns x.ext 2 false 1 (a ++ (32 :: 126 :: 126 :: (b ++ (126 :: 126 :: 32 :: c)))) (if x.ext.testBit 5 = true then [inT 1 (a ++ [32]), inO 1 9, inT 2 b, inT 1 (32 :: c)] else [inT 1 (a ++ (32 :: 126 :: 126 :: (b ++ (126 :: 126 :: 32 :: c))))]) := by
    by_cases h5 : x.ext.testBit 5 = true
    · rw [if_pos h5]
      exact in_mid2 9 rfl (by omega) (.inr (.inr ⟨rfl, h5⟩)) ha hb hc
    · rw [if_neg h5]
      have h5' : x.ext.testBit 5 = false := by simpa using h5
      intro y hy hye
      have hA : At y.D 0 (a ++ (32 :: ((126 :: 126 :: (b ++ [126, 126])) ++ (32 :: c)))) := by
        rw [hy]; simpa using at_full (a ++ (32 :: 126 :: 126 :: (b ++ (126 :: 126 :: 32 :: c))))
      have hlen : y.D.length = a.length + (126 :: 126 :: (b ++ [126, 126]) : Bs).length + c.length + 2 := by rw [hy]; simp; omega
      have := runs_mid (x := y) (k := 2) (ins := false) (d := 1) (l := [inT 1 (126 :: 126 :: (b ++ [126, 126]))]) ha hc hA (show (126 : UInt8) ≠ 32 ∧ (126 : UInt8) ≠ 10 from by decide) (by simp) (fun h1 h2 => by
        have g1 := runs_tt (k := 2) (ins := false) (d := 1) (by rw [hye]; exact h5') h1
        have hB := h1.tail.tail
        have g2 := runs_words (k := 2) (ins := false) (d := 1) hb hB.left (aft_of hB.right.head (by decide))
        have g3 := runs_tt (k := 2) (ins := false) (d := 1) (by rw [hye]; exact h5') hB.right
        refine (((g1.app g2).app g3).to (by simp; omega)).eqv ?_
        have := (Eqv.app (eqv_app 1 [126, 126] b) (Eqv.refl [inT 1 [126, 126]])).trans (eqv_app 1 _ _)
        simpa using this) (aft_end (by rw [hlen]; omega))
      refine (this.to (by simp; omega)).eqv ?_
      have := (Eqv.app (eqv_app 1 (a ++ [32]) (126 :: 126 :: (b ++ [126, 126]))) (Eqv.refl [inT 1 (32 :: c)])).trans (eqv_app 1 _ _)
      simpa using this
  have := runs_em1 (k := 1) (ins := false) (d := 0) ho (by omega) hx hh hI hin (hn.em (by rcases ho with rfl | rfl <;> decide))
  by_cases h5 : x.ext.testBit 5 = true
  · rw [if_pos h5] at this ⊢
    exact this
  · rw [if_neg h5] at this ⊢
    exact this
end Go.Proofs.YtalajbfpilhfgaaGreatDoor
