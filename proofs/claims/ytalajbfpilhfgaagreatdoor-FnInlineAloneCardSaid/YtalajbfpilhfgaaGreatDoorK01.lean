/-
  FnInlineAlone: bytes, slices of bytes, classes of bytes.
  FnInlineAlone: nodes in memory; NewNode, text, Unlink, AppendChild.
  FnInlineAlone: forests of nodes in memory; AppendChild.
  FnInlineAlone: the parser's state, what a callback does, what the inline parser hangs below a node.
-/
import Derived.Test.YtalajbfpilhfgaaGreatDoorProg
import Derived.WalkKit
import Derived.WalkSpells
import Derived.WalkLawsBesides
import Derived.Lib.Hide
import Derived.KernelRfl
import Derived.Below
import Derived.Lib.BufSteps
import Derived.Lib.SlBytesConst
import Derived.Laws.EntriesVeiled
import Derived.Deep.LoopGhost
import Derived.Deep.Cut
import Derived.Deep.DeepCutAuto
import Derived.Deep.CutRange
import Derived.Deep.CutBlock
import Derived.Deep.RegionLaw
import Derived.Deep.RegionWith
import Derived.Deep.RegionHeld3
import Derived.Deep.QuietTactic
import Derived.BigQuiet
import Derived.StillTailTactics
import Derived.IntWalk
import Derived.Outline
set_option linter.unusedVariables false
set_option linter.unusedSimpArgs false
namespace Go.Proofs.YtalajbfpilhfgaaGreatDoor
open Go.RowKit

abbrev Bs := List UInt8
def cellsB (o : Bs) : List Value := o.map fun b => .int .u8 b.toNat
theorem cellsB_length (o : Bs) : (cellsB o).length = o.length := by simp [cellsB]
theorem cellsB_get (o : Bs) (j : Nat) (h : j < o.length) : (cellsB o)[j]? = some (.int .u8 (o.getD j 0).toNat) := by
  simp [cellsB, List.getD_eq_getElem?_getD, h]
theorem cellsB_append (a b : Bs) : cellsB (a ++ b) = cellsB a ++ cellsB b := by unfold cellsB; rw [List.map_append]
theorem add_at (g o j : Nat) : Addr.add ⟨g, o, none⟩ j = ⟨g, o + j, none⟩ := by
  unfold Addr.add
  by_cases h : j = 0
  · subst h; simp
  · simp [h]
theorem getD_drop_cons (bs : Bs) (j : Nat) (h : j < bs.length) : bs.drop j = bs.getD j 0 :: bs.drop (j + 1) := by
  rw [List.drop_eq_getElem_cons h]
  simp [List.getD_eq_getElem?_getD, h]
theorem getD_drop (l : Bs) (s m : Nat) : (l.drop s).getD m 0 = l.getD (s + m) 0 := by
  rw [List.getD_eq_getElem?_getD, List.getElem?_drop, List.getD_eq_getElem?_getD]
theorem beq_yes {y k : UInt8} (h : y = k) : ((y.toNat : Int) == (k.toNat : Int)) = true := by rw [h]; simp
theorem beq_no {y k : UInt8} (h : y ≠ k) : ((y.toNat : Int) == (k.toNat : Int)) = false := by
  rw [beq_eq_false_iff_ne]
  intro e
  exact h (UInt8.toNat_inj.mp (by omega))
theorem bne_yes {y k : UInt8} (h : y = k) : ((y.toNat : Int) != (k.toNat : Int)) = false := by rw [h]; simp
theorem bne_no {y k : UInt8} (h : y ≠ k) : ((y.toNat : Int) != (k.toNat : Int)) = true := by
  rw [bne_iff_ne]
  intro e
  exact h (UInt8.toNat_inj.mp (by omega))

/-- The bytes at b, from off on, in a block of bytes. -/
def RdO (w : World) (b off : Nat) (l : Bs) : Prop := ∀ i, i < l.length → w.cell? ⟨b, off + i, none⟩ = some (.int .u8 (l.getD i 0).toNat)
theorem rdO_sub {w : World} {b off : Nat} {l : Bs} (h : RdO w b off l) (i k : Nat) : RdO w b (off + i) ((l.drop i).take k) := by
  intro j hj
  simp at hj
  rw [Nat.add_assoc, h (i + j) (by omega)]
  congr 3
  simp [List.getD_eq_getElem?_getD, List.getElem?_take, show j < k by omega]
theorem rdO_drop {w : World} {b off : Nat} {l : Bs} (h : RdO w b off l) (i : Nat) : RdO w b (off + i) (l.drop i) := by
  intro j hj
  simp at hj
  rw [Nat.add_assoc, h (i + j) (by omega), getD_drop]
theorem rdO_below {w w' : World} {b off : Nat} {l : Bs} (h : RdO w b off l) (hb : Below w.heap.size w w') (hlt : b < w.heap.size) : RdO w' b off l := by
  intro j hj
  rw [hb.cell (p := ⟨b, off + j, none⟩) hlt]
  exact h j hj
theorem rdO_block {w w' : World} {b off : Nat} {l : Bs} (h : RdO w b off l) (hb : w'.heap[b]? = w.heap[b]?) : RdO w' b off l := by
  intro j hj
  rw [World.cell?_of_block (a := ⟨b, off + j, none⟩) hb]
  exact h j hj
theorem info_parts {P : Program} {e : TypeId} {z : Option Value} {s b : Nat} (h : (P.info? e).map (fun i => (i.zero, i.size, i.bytes)) = some (z, s, b)) : ∃ i, P.info? e = some i ∧ i.zero = z ∧ i.size = s ∧ i.bytes = b := by
  obtain ⟨i, hi, he⟩ := Option.map_eq_some_iff.1 h
  injection he with h1 h2
  injection h2 with h2 h3
  exact ⟨i, hi, h1, h2, h3⟩

def isLet (c : UInt8) : Bool := (97 ≤ c.toNat && c.toNat ≤ 122) || (65 ≤ c.toNat && c.toNat ≤ 90)
def isAln (c : UInt8) : Bool := (48 ≤ c.toNat && c.toNat ≤ 57) || isLet c
def isHs (c : UInt8) : Bool := c.toNat == 32 || c.toNat == 9
def isVs (c : UInt8) : Bool := c.toNat == 10 || c.toNat == 13 || c.toNat == 12 || c.toNat == 11
def isSp (c : UInt8) : Bool := isHs c || isVs c
def isEol (c : UInt8) : Bool := isSp c || c.toNat == 60
set_option maxHeartbeats 1000000
theorem hs83 (c : UInt8) (w : World) : Calls Tryz.prog 83 #[.int .u8 c.toNat] w fun e w' => e = .returned (.bool (isHs c)) ∧ w = w' := by
  unfold isHs
  obtain ⟨n, hn⟩ : ∃ n : Nat, n = c.toNat := ⟨_, rfl⟩
  rw [← hn]
  clear hn
  have k0 : ((n : Nat) == 32) = decide (n = 32) := rfl
  have q0 : ((n : Int) == 32) = decide (n = 32) := by rw [Bool.eq_iff_iff]; simp; omega
  obtain ⟨d0, hd0⟩ : ∃ d : Bool, d = decide (n = 32) := ⟨_, rfl⟩
  rw [← hd0] at k0 q0
  clear hd0
  have k1 : ((n : Nat) == 9) = decide (n = 9) := rfl
  have q1 : ((n : Int) == 9) = decide (n = 9) := by rw [Bool.eq_iff_iff]; simp; omega
  obtain ⟨d1, hd1⟩ : ∃ d : Bool, d = decide (n = 9) := ⟨_, rfl⟩
  rw [← hd1] at k1 q1
  clear hd1
  cases d0 <;> cases d1 <;> first | (exfalso; omega) | (
    go_enter Tryz.func83, Tryz.ntmps83
    go_wp2
    all_goals (
      go_ret
      first | exact ⟨rfl, rfl⟩ | (refine ⟨?_, rfl⟩; simp [k0, k1])))
theorem vs84 (c : UInt8) (w : World) : Calls Tryz.prog 84 #[.int .u8 c.toNat] w fun e w' => e = .returned (.bool (isVs c)) ∧ w = w' := by
  unfold isVs
  obtain ⟨n, hn⟩ : ∃ n : Nat, n = c.toNat := ⟨_, rfl⟩
  rw [← hn]
  clear hn
  have k0 : ((n : Nat) == 10) = decide (n = 10) := rfl
  have q0 : ((n : Int) == 10) = decide (n = 10) := by rw [Bool.eq_iff_iff]; simp; omega
  obtain ⟨d0, hd0⟩ : ∃ d : Bool, d = decide (n = 10) := ⟨_, rfl⟩
  rw [← hd0] at k0 q0
  clear hd0
  have k1 : ((n : Nat) == 13) = decide (n = 13) := rfl
  have q1 : ((n : Int) == 13) = decide (n = 13) := by rw [Bool.eq_iff_iff]; simp; omega
  obtain ⟨d1, hd1⟩ : ∃ d : Bool, d = decide (n = 13) := ⟨_, rfl⟩
  rw [← hd1] at k1 q1
  clear hd1
  have k2 : ((n : Nat) == 12) = decide (n = 12) := rfl
  have q2 : ((n : Int) == 12) = decide (n = 12) := by rw [Bool.eq_iff_iff]; simp; omega
  obtain ⟨d2, hd2⟩ : ∃ d : Bool, d = decide (n = 12) := ⟨_, rfl⟩
  rw [← hd2] at k2 q2
  clear hd2
  have k3 : ((n : Nat) == 11) = decide (n = 11) := rfl
  have q3 : ((n : Int) == 11) = decide (n = 11) := by rw [Bool.eq_iff_iff]; simp; omega
  obtain ⟨d3, hd3⟩ : ∃ d : Bool, d = decide (n = 11) := ⟨_, rfl⟩
  rw [← hd3] at k3 q3
  clear hd3
  cases d0 <;> cases d1 <;> cases d2 <;> cases d3 <;> first | (exfalso; omega) | (
    go_enter Tryz.func84, Tryz.ntmps84
    go_wp2
    all_goals (
      go_ret
      first | exact ⟨rfl, rfl⟩ | (refine ⟨?_, rfl⟩; simp [k0, k1, k2, k3])))
theorem sp59 (c : UInt8) (w : World) : Calls Tryz.prog 59 #[.int .u8 c.toNat] w fun e w' => e = .returned (.bool (isSp c)) ∧ w = w' := by
  have CL0 := Lib.hid (fun w => hs83 c w)
  have CL1 := Lib.hid (fun w => vs84 c w)
  unfold isSp
  obtain ⟨b0, hb0⟩ : ∃ b : Bool, b = isHs c := ⟨_, rfl⟩
  rw [← hb0] at CL0 ⊢
  obtain ⟨b1, hb1⟩ : ∃ b : Bool, b = isVs c := ⟨_, rfl⟩
  rw [← hb1] at CL1 ⊢
  obtain ⟨n, hn⟩ : ∃ n : Nat, n = c.toNat := ⟨_, rfl⟩
  rw [← hn] at CL0 CL1 ⊢
  clear hn hb0 hb1
  cases b0 <;> cases b1 <;> first | (exfalso; omega) | (
    go_enter Tryz.func59, Tryz.ntmps59
    go_wp2_with (first | (go_at_call 83; refine (CL0.out _).mono ?_; rintro e w' ⟨rfl, rfl⟩) | (go_at_call 84; refine (CL1.out _).mono ?_; rintro e w' ⟨rfl, rfl⟩))
    all_goals (
      go_ret
      first | exact ⟨rfl, rfl⟩ | (refine ⟨?_, rfl⟩; simp [])))
theorem eol98 (c : UInt8) (w : World) : Calls Tryz.prog 98 #[.int .u8 c.toNat] w fun e w' => e = .returned (.bool (isEol c)) ∧ w = w' := by
  have CL0 := Lib.hid (fun w => sp59 c w)
  unfold isEol
  obtain ⟨b0, hb0⟩ : ∃ b : Bool, b = isSp c := ⟨_, rfl⟩
  rw [← hb0] at CL0 ⊢
  obtain ⟨n, hn⟩ : ∃ n : Nat, n = c.toNat := ⟨_, rfl⟩
  rw [← hn] at CL0 ⊢
  clear hn hb0
  have k0 : ((n : Nat) == 60) = decide (n = 60) := rfl
  have q0 : ((n : Int) == 60) = decide (n = 60) := by rw [Bool.eq_iff_iff]; simp; omega
  obtain ⟨d0, hd0⟩ : ∃ d : Bool, d = decide (n = 60) := ⟨_, rfl⟩
  rw [← hd0] at k0 q0
  clear hd0
  cases d0 <;> cases b0 <;> first | (exfalso; omega) | (
    go_enter Tryz.func98, Tryz.ntmps98
    go_wp2_with (first | (go_at_call 59; refine (CL0.out _).mono ?_; rintro e w' ⟨rfl, rfl⟩))
    all_goals (
      go_ret
      first | exact ⟨rfl, rfl⟩ | (refine ⟨?_, rfl⟩; simp [k0])))
theorem let95 (c : UInt8) (w : World) : Calls Tryz.prog 95 #[.int .u8 c.toNat] w fun e w' => e = .returned (.bool (isLet c)) ∧ w = w' := by
  unfold isLet
  obtain ⟨n, hn⟩ : ∃ n : Nat, n = c.toNat := ⟨_, rfl⟩
  rw [← hn]
  clear hn
  by_cases h0 : 97 ≤ n <;> by_cases h1 : n ≤ 122 <;> by_cases h2 : 65 ≤ n <;> by_cases h3 : n ≤ 90 <;> first | (exfalso; omega) | (
    have k0 : (97 ≤ (n : Int)) ↔ 97 ≤ n := by omega
    have k1 : ((n : Int) ≤ 122) ↔ n ≤ 122 := by omega
    have k2 : (65 ≤ (n : Int)) ↔ 65 ≤ n := by omega
    have k3 : ((n : Int) ≤ 90) ↔ n ≤ 90 := by omega
    go_enter Tryz.func95, Tryz.ntmps95
    go_wp2
    all_goals (
      go_ret
      first | exact ⟨rfl, rfl⟩ | (refine ⟨?_, rfl⟩; simp [k0, h0, k1, h1, k2, h2, k3, h3])))
theorem aln78 (c : UInt8) (w : World) : Calls Tryz.prog 78 #[.int .u8 c.toNat] w fun e w' => e = .returned (.bool (isAln c)) ∧ w = w' := by
  have CL0 := Lib.hid (fun w => let95 c w)
  unfold isAln
  obtain ⟨b0, hb0⟩ : ∃ b : Bool, b = isLet c := ⟨_, rfl⟩
  rw [← hb0] at CL0 ⊢
  obtain ⟨n, hn⟩ : ∃ n : Nat, n = c.toNat := ⟨_, rfl⟩
  rw [← hn] at CL0 ⊢
  clear hn hb0
  by_cases h0 : 48 ≤ n <;> by_cases h1 : n ≤ 57 <;> cases b0 <;> first | (exfalso; omega) | (
    have k0 : (48 ≤ (n : Int)) ↔ 48 ≤ n := by omega
    have k1 : ((n : Int) ≤ 57) ↔ n ≤ 57 := by omega
    go_enter Tryz.func78, Tryz.ntmps78
    go_wp2_with (first | (go_at_call 95; refine (CL0.out _).mono ?_; rintro e w' ⟨rfl, rfl⟩))
    all_goals (
      go_ret
      first | exact ⟨rfl, rfl⟩ | (refine ⟨?_, rfl⟩; simp [k0, h0, k1, h1])))
theorem word43 (c : UInt8) (w : World) : Calls Tryz.prog 43 #[.int .u8 c.toNat] w fun e w' => e = .returned (.bool (isAln c)) ∧ w = w' := by
  unfold isAln isLet
  obtain ⟨n, hn⟩ : ∃ n : Nat, n = c.toNat := ⟨_, rfl⟩
  rw [← hn]
  clear hn
  by_cases h0 : 48 ≤ n <;> by_cases h1 : n ≤ 57 <;> by_cases h2 : 97 ≤ n <;> by_cases h3 : n ≤ 122 <;> by_cases h4 : 65 ≤ n <;> by_cases h5 : n ≤ 90 <;> first | (exfalso; omega) | (
    have k0 : (48 ≤ (n : Int)) ↔ 48 ≤ n := by omega
    have k1 : ((n : Int) ≤ 57) ↔ n ≤ 57 := by omega
    have k2 : (97 ≤ (n : Int)) ↔ 97 ≤ n := by omega
    have k3 : ((n : Int) ≤ 122) ↔ n ≤ 122 := by omega
    have k4 : (65 ≤ (n : Int)) ↔ 65 ≤ n := by omega
    have k5 : ((n : Int) ≤ 90) ↔ n ≤ 90 := by omega
    go_enter Tryz.func43, Tryz.ntmps43
    go_wp2
    all_goals (
      go_ret
      first | exact ⟨rfl, rfl⟩ | (refine ⟨?_, rfl⟩; simp [k0, h0, k1, h1, k2, h2, k3, h3, k4, h4, k5, h5])))

abbrev nilP : Value := .pointer none
abbrev ptr (a : Nat) : Value := .pointer (some ⟨a, 0, none⟩)
abbrev nilS : Value := .slice none 0 0
/-- The cells of a node. -/
def nodeArr (ty : Int) (par fst lst prv nxt lit dst ttl : Value) : Array Value :=
  #[.int .i64 ty, par, fst, lst, prv, nxt, lit, .int .i64 0, .string ⟨#[]⟩, .bool false, .int .i64 0, .bool false, .int .u8 0, .int .u8 0, .slice none 0 0, .bool false, .bool false, .slice none 0 0, .int .u8 0, .int .i64 0, .int .i64 0, dst, ttl, .int .i64 0, .pointer none, .bool false, .int .i64 0, .slice none 0 0, .bool true]
def NodeIs (w : World) (a : Nat) (A : Array Value) : Prop := w.heap[a]? = some (.cells A 87 (0, 0))
theorem NodeIs.cell {w : World} {a : Nat} {A : Array Value} (h : NodeIs w a A) (i : Nat) : w.cell? ⟨a, i, none⟩ = A[i]? := by
  unfold World.cell?
  rw [show w.heap[(⟨a, i, none⟩ : Addr).block]? = _ from h]
  rfl
theorem NodeIs.free {w : World} {a : Nat} {A : Array Value} (h : NodeIs w a A) (i : Nat) : w.frozen? ⟨a, i, none⟩ = false := by
  unfold World.frozen?
  rw [show w.heap[(⟨a, i, none⟩ : Addr).block]? = _ from h]
  simp
theorem NodeIs.lt {w : World} {a : Nat} {A : Array Value} (h : NodeIs w a A) : a < w.heap.size := (Array.getElem?_eq_some_iff.1 h).1
theorem NodeIs.set {w : World} {a : Nat} {A : Array Value} (h : NodeIs w a A) (i : Nat) (v : Value) : NodeIs (w.setCell ⟨a, i, none⟩ v) a (A.setIfInBounds i v) := by
  unfold NodeIs World.setCell
  rw [Array.getElem?_modify]
  simp only [↓reduceIte]
  rw [show w.heap[a]? = _ from h]
  rfl
theorem NodeIs.other {w : World} {a : Nat} {A : Array Value} (h : NodeIs w a A) {p : Addr} (hne : a ≠ p.block) (v : Value) : NodeIs (w.setCell p v) a A := by
  unfold NodeIs
  rw [Below.heap_setCell w p v a hne]
  exact h
theorem NodeIs.same {w w' : World} {a : Nat} {A : Array Value} (h : NodeIs w a A) (he : w'.heap[a]? = w.heap[a]?) : NodeIs w' a A := he.trans h
theorem NodeIs.below {w w' : World} {a : Nat} {A : Array Value} (h : NodeIs w a A) (hb : Below w.heap.size w w') : NodeIs w' a A := h.same (hb.block a h.lt)
theorem modify_same {α : Type} (A : Array α) (b : Nat) (F : α → α) (h : ∀ x, A[b]? = some x → F x = x) : A.modify b F = A := by
  apply Array.ext_getElem?
  intro i
  rw [Array.getElem?_modify]
  by_cases hi : b = i
  · subst hi
    rw [if_pos rfl]
    cases hc : A[b]? with
    | none => rfl
    | some x => rw [Option.map_some, h x hc]
  · rw [if_neg hi]
theorem setCell_self {w : World} {p : Addr} {v : Value} (h : w.cell? p = some v) : w.setCell p v = w := by
  obtain ⟨b, o, s⟩ := p
  unfold World.cell? at h
  simp only at h
  unfold World.setCell
  simp only
  rw [modify_same]
  intro x hx
  rw [hx] at h
  cases x with
  | cells c e f =>
    simp only at h ⊢
    cases s with
    | some k => rfl
    | none =>
      simp only [Option.isSome_none, Bool.false_eq_true, ↓reduceIte] at h ⊢
      congr 1
      apply Array.ext_getElem?
      intro j
      rw [Array.getElem?_setIfInBounds]
      by_cases hj : o = j
      · subst hj
        rw [if_pos rfl, h, if_pos (Array.getElem?_eq_some_iff.1 h).1]
      · rw [if_neg hj]
  | _ => rfl
/-- Only the blocks of a list have turned. -/
def SameBut (l : List Nat) (w w' : World) : Prop := w'.os = w.os ∧ w'.tape = w.tape ∧ w'.output = w.output ∧ w'.heap.size = w.heap.size ∧ ∀ k, k ∉ l → w'.heap[k]? = w.heap[k]?
theorem SameBut.refl (l : List Nat) (w : World) : SameBut l w w := ⟨rfl, rfl, rfl, rfl, fun _ _ => rfl⟩
theorem SameBut.set {l : List Nat} {w w' : World} (h : SameBut l w w') {p : Addr} (hp : p.block ∈ l) (v : Value) : SameBut l w (w'.setCell p v) :=
  ⟨h.1, h.2.1, h.2.2.1, by rw [World.size_setCell]; exact h.2.2.2.1, fun k hk => (Below.heap_setCell w' p v k (fun e => hk (e ▸ hp))).trans (h.2.2.2.2 k hk)⟩

set_option maxHeartbeats 1000000 in
theorem new39 (ty : Int) (w : World) : Calls Tryz.prog 39 #[.int .i64 ty] w fun e w' => e = .returned (ptr w.heap.size) ∧ NodeIs w' w.heap.size (nodeArr ty nilP nilP nilP nilP nilP nilS nilS nilS) ∧ Below w.heap.size w w' ∧ w'.heap.size = w.heap.size + 1 := by
  go_enter Tryz.func39, Tryz.ntmps39
  go_wp2
  go_ret
  refine ⟨rfl, ?_, (Below.refl _ _).alloc (Nat.le_refl _) _, by simp⟩
  show (w.heap.push _)[w.heap.size]? = _
  simp
  rfl

set_option maxHeartbeats 1000000 in
theorem text45 (A : Option Addr) (n c : Nat) (w : World) : Calls Tryz.prog 45 #[.slice A n c] w fun e w' => e = .returned (ptr w.heap.size) ∧ NodeIs w' w.heap.size (nodeArr 12 nilP nilP nilP nilP nilP (.slice A n c) nilS nilS) ∧ Below w.heap.size w w' ∧ w'.heap.size = w.heap.size + 1 := by
  have C := Lib.hid (fun w => new39 12 w)
  go_enter Tryz.func45, Tryz.ntmps45
  go_wp2_with (go_at_call 39; refine (C.out _).mono ?_; rintro e w1 ⟨rfl, hn, hb, hz⟩; have hc6 := hn.cell 6; have hf6 := hn.free 6; have HN := Lib.hid hn; have HB := Lib.hid hb; have HZ := Lib.hid hz; clear hn hb hz; obtain ⟨u, hu⟩ : ∃ u, w1.cell? ⟨w.heap.size, 6, none⟩ = some u := ⟨_, hc6⟩; clear hc6)

  go_ret
  refine ⟨rfl, HN.out.set 6 _, HB.out.setCell (Nat.le_refl _) _, by rw [World.size_setCell]; exact HZ.out⟩

set_option maxHeartbeats 1000000 in
theorem unlink58 (a : Nat) (ty : Int) (fst lst lit dst ttl : Value) (w : World) (h : NodeIs w a (nodeArr ty nilP fst lst nilP nilP lit dst ttl)) :
    Calls Tryz.prog 58 #[ptr a] w fun e w' => e = .returned (.tuple #[]) ∧ w = w' := by
  have c1 : w.cell? ⟨a, 1, none⟩ = some nilP := h.cell 1
  have c4 : w.cell? ⟨a, 4, none⟩ = some nilP := h.cell 4
  have c5 : w.cell? ⟨a, 5, none⟩ = some nilP := h.cell 5
  have f1 := h.free 1
  have f4 := h.free 4
  have f5 := h.free 5
  have C1 := Lib.hid c1
  have C4 := Lib.hid c4
  have C5 := Lib.hid c5
  clear h
  go_enter Tryz.func58, Tryz.ntmps58
  go_wp2
  go_end0
  refine ⟨rfl, ?_⟩
  rw [setCell_self C1.out, setCell_self C5.out, setCell_self C4.out]

/-- What a node has: its type, and its literal, destination and title, as values and as bytes. -/
structure ND where
  ty : Int
  lv : Value
  lb : Option Bs
  dv : Value
  db : Option Bs
  tv : Value
  tb : Option Bs
/-- Nodes in memory: the first one, its children, and those behind it. -/
inductive F where
  | nil
  | cons (a : Nat) (d : ND) (kids rest : F)
def F.blocks : F → List Nat
  | .nil => []
  | .cons a _ k r => a :: (k.blocks ++ r.blocks)
def F.app : F → F → F
  | .nil, g => g
  | .cons a d k r, g => .cons a d k (r.app g)
def F.headP : F → Value
  | .nil => nilP
  | .cons a _ _ _ => ptr a
def F.lastP : F → Value
  | .nil => nilP
  | .cons a _ _ .nil => ptr a
  | .cons _ _ _ (.cons b d k r) => F.lastP (.cons b d k r)
def F.one (a : Nat) (d : ND) (k : F) : F := .cons a d k .nil
/-- A slice of bytes reads as bytes; none: it is nil. -/
def RdV (w : World) (v : Value) : Option Bs → Prop
  | none => v = nilS
  | some l => ∃ g off cap C fz, v = .slice (some ⟨g, off, none⟩) l.length cap ∧ l.length ≤ cap ∧ cap ≤ maxLen ∧ w.heap[g]? = some (.cells C 5 fz) ∧ RdO w g off l
/-- Blocks of bytes have not turned. -/
def Keep5 (w w' : World) : Prop := ∀ (g : Nat) (C : Array Value) (fz : Nat × Nat), w.heap[g]? = some (.cells C 5 fz) → w'.heap[g]? = w.heap[g]?
theorem RdV.keep {w w' : World} {v : Value} {o : Option Bs} (h : RdV w v o) (hk : Keep5 w w') : RdV w' v o := by
  cases o with
  | none => exact h
  | some l =>
    obtain ⟨g, off, cap, C, fz, rfl, h1, h2, h3, h4⟩ := h
    exact ⟨g, off, cap, C, fz, rfl, h1, h2, (hk g C fz h3).trans h3, rdO_block h4 (hk g C fz h3)⟩
def ND.ok (w : World) (d : ND) : Prop := RdV w d.lv d.lb ∧ RdV w d.dv d.db ∧ RdV w d.tv d.tb
theorem ND.ok.keep {w w' : World} {d : ND} (h : d.ok w) (hk : Keep5 w w') : d.ok w' := ⟨h.1.keep hk, h.2.1.keep hk, h.2.2.keep hk⟩
def F.at (w : World) : F → Prop
  | .nil => True
  | .cons a d k r => (∃ par prv, NodeIs w a (nodeArr d.ty par k.headP k.lastP prv r.headP d.lv d.dv d.tv)) ∧ d.ok w ∧ k.at w ∧ r.at w
/-- A node that stands alone, with its children. -/
def Lone (w : World) (a : Nat) (d : ND) (k : F) : Prop :=
  NodeIs w a (nodeArr d.ty nilP k.headP k.lastP nilP nilP d.lv d.dv d.tv) ∧ d.ok w ∧ k.at w
theorem F.at_same {w w' : World} (hk : Keep5 w w') : ∀ (f : F), f.at w → (∀ b ∈ f.blocks, w'.heap[b]? = w.heap[b]?) → f.at w'
  | .nil, _, _ => trivial
  | .cons a d k r, ⟨⟨par, prv, h1⟩, h2, h3, h4⟩, hb =>
    ⟨⟨par, prv, h1.same (hb a (by simp [F.blocks]))⟩, h2.keep hk, F.at_same hk k h3 (fun b hm => hb b (by simp [F.blocks, hm])), F.at_same hk r h4 (fun b hm => hb b (by simp [F.blocks, hm]))⟩
theorem Lone.same {w w' : World} {a : Nat} {d : ND} {k : F} (h : Lone w a d k) (hk : Keep5 w w') (ha : w'.heap[a]? = w.heap[a]?) (hb : ∀ b ∈ k.blocks, w'.heap[b]? = w.heap[b]?) : Lone w' a d k :=
  ⟨h.1.same ha, h.2.1.keep hk, F.at_same hk k h.2.2 hb⟩
theorem F.app_blocks : ∀ (f g : F), (f.app g).blocks = f.blocks ++ g.blocks
  | .nil, g => rfl
  | .cons a d k r, g => by rw [F.app, F.blocks, F.blocks, F.app_blocks r g]; simp
theorem F.app_assoc : ∀ (f g h : F), (f.app g).app h = f.app (g.app h)
  | .nil, _, _ => rfl
  | .cons a d k r, g, h => by rw [F.app, F.app, F.app, F.app_assoc r g h]
theorem F.app_nil : ∀ (f : F), f.app .nil = f
  | .nil => rfl
  | .cons a d k r => by rw [F.app, F.app_nil r]
theorem F.lastP_app_one : ∀ (f : F) (a : Nat) (d : ND) (k : F), (f.app (F.one a d k)).lastP = ptr a
  | .nil, _, _, _ => rfl
  | .cons b e kb .nil, a, d, k => rfl
  | .cons b e kb (.cons c x y z), a, d, k => by
    have := F.lastP_app_one (.cons c x y z) a d k
    rw [F.app] at this ⊢
    rw [F.app, F.lastP]
    exact this
theorem F.headP_app {f : F} (h : f ≠ .nil) (g : F) : (f.app g).headP = f.headP := by
  cases f with
  | nil => exact absurd rfl h
  | cons a d k r => rfl
theorem F.lastP_mem : ∀ (f : F), f ≠ .nil → ∃ z, f.lastP = ptr z ∧ z ∈ f.blocks
  | .nil, h => absurd rfl h
  | .cons a d k .nil, _ => ⟨a, rfl, by simp [F.blocks]⟩
  | .cons a d k (.cons b e x y), _ => by
    obtain ⟨z, h1, h2⟩ := F.lastP_mem (.cons b e x y) (by simp)
    exact ⟨z, by rw [F.lastP]; exact h1, by rw [F.blocks]; simp [h2]⟩
theorem F.last_at {w : World} : ∀ (f : F), f ≠ .nil → f.at w → ∃ z ty par fst lst prv lit dst ttl, f.lastP = ptr z ∧ NodeIs w z (nodeArr ty par fst lst prv nilP lit dst ttl)
  | .nil, h, _ => absurd rfl h
  | .cons a d k .nil, _, ⟨⟨par, prv, h1⟩, _⟩ => ⟨a, _, par, _, _, prv, _, _, _, rfl, h1⟩
  | .cons a d k (.cons b e x y), _, ⟨_, _, _, h4⟩ => by
    obtain ⟨z, ty, par, fst, lst, prv, lit, dst, ttl, h1, h2⟩ := F.last_at (.cons b e x y) (by simp) h4
    exact ⟨z, ty, par, fst, lst, prv, lit, dst, ttl, by rw [F.lastP]; exact h1, h2⟩
theorem ptr_inj {a b : Nat} (h : ptr a = ptr b) : a = b := by injection h with h; injection h with h; injection h with h
/-- A node is hung behind the last one. -/
theorem F.at_app {w w' : World} {g : F} {z : Nat} (hk : Keep5 w w') (hg : g.at w') (hz : ∀ A, NodeIs w z A → NodeIs w' z (A.setIfInBounds 5 g.headP)) :
    ∀ (f : F), f ≠ .nil → f.lastP = ptr z → f.blocks.Nodup → f.at w → (∀ b ∈ f.blocks, b ≠ z → w'.heap[b]? = w.heap[b]?) → (f.app g).at w'
  | .nil, h, _, _, _, _ => absurd rfl h
  | .cons a d k .nil, _, hl, hnd, ⟨⟨par, prv, h1⟩, h2, h3, _⟩, hb => by
    obtain rfl : a = z := ptr_inj hl
    rw [F.blocks] at hnd hb
    refine ⟨⟨par, prv, hz _ h1⟩, h2.keep hk, F.at_same hk k h3 (fun b hm => hb b (by simp [hm]) ?_), hg⟩
    rintro rfl
    simp at hnd
    exact hnd.1.1 hm
  | .cons a d k (.cons b e x y), _, hl, hnd, ⟨⟨par, prv, h1⟩, h2, h3, h4⟩, hb => by
    rw [F.lastP] at hl
    have hb2 := hb
    have hnd2 := hnd
    rw [F.blocks] at hnd hb
    rw [List.nodup_cons, List.nodup_append] at hnd
    obtain ⟨n1, n2, n3, n4⟩ := hnd
    obtain ⟨z', hz1, hz2⟩ := F.lastP_mem (.cons b e x y) (by simp)
    obtain rfl : z' = z := ptr_inj (hz1.symm.trans hl)
    have ih := F.at_app hk hg hz (.cons b e x y) (by simp) hl n3 h4 (fun c hc hne => hb c (by simp [hc]) hne)
    refine ⟨⟨par, prv, ?_⟩, h2.keep hk, F.at_same hk k h3 (fun c hc => hb c (by simp [hc]) (fun he => n4 c hc z' hz2 he)), ih⟩
    rw [F.headP_app (by simp)]
    exact h1.same (hb a (by simp) (fun he => n1 (by rw [he]; simp [hz2])))

set_option maxHeartbeats 2000000 in
theorem append_first (c a : Nat) (tc : Int) (par prv nxt lit dst ttl : Value) (ty : Int) (fa la li ds tt : Value) (w : World) (hac : a ≠ c)
    (hc : NodeIs w c (nodeArr tc par nilP nilP prv nxt lit dst ttl)) (ha : NodeIs w a (nodeArr ty nilP fa la nilP nilP li ds tt)) :
    Calls Tryz.prog 44 #[ptr c, ptr a] w fun e w' => e = .returned (.tuple #[]) ∧ SameBut [c, a] w w' ∧ NodeIs w' c (nodeArr tc par (ptr a) (ptr a) prv nxt lit dst ttl) ∧ NodeIs w' a (nodeArr ty (ptr c) fa la nilP nilP li ds tt) := by
  have cu := Lib.hid (unlink58 a ty fa la li ds tt w ha)
  have a1 : w.cell? ⟨a, 1, none⟩ = some nilP := ha.cell 1
  have fa1 := ha.free 1
  have c2 : w.cell? ⟨c, 2, none⟩ = some nilP := hc.cell 2
  have c3 : w.cell? ⟨c, 3, none⟩ = some nilP := hc.cell 3
  have fc2 := hc.free 2
  have fc3 := hc.free 3
  have hca : c ≠ a := fun h => hac h.symm
  have HC := Lib.hid hc
  have HA := Lib.hid ha
  clear hc ha
  go_enter Tryz.func44, Tryz.ntmps44
  go_wp2_with (go_at_call 58; refine cu.out.mono ?_; rintro e w' ⟨rfl, rfl⟩)
  go_end0
  refine ⟨rfl, (((SameBut.refl [c, a] w).set (by simp) _).set (by simp) _).set (by simp) _, ?_, ?_⟩
  · exact ((HC.out.other hca _).set 2 _).set 3 _
  · exact ((HA.out.set 1 _).other hac _).other hac _

set_option maxHeartbeats 2000000 in
theorem append_next (c a z : Nat) (tc : Int) (par fst prv nxt lit dst ttl : Value) (ty : Int) (fa la li ds tt : Value) (tz : Int) (pz fz lz vz iz dz sz : Value) (w : World) (hac : a ≠ c) (haz : a ≠ z) (hcz : c ≠ z)
    (hc : NodeIs w c (nodeArr tc par fst (ptr z) prv nxt lit dst ttl)) (ha : NodeIs w a (nodeArr ty nilP fa la nilP nilP li ds tt)) (hz : NodeIs w z (nodeArr tz pz fz lz vz nilP iz dz sz)) :
    Calls Tryz.prog 44 #[ptr c, ptr a] w fun e w' => e = .returned (.tuple #[]) ∧ SameBut [c, a, z] w w' ∧ NodeIs w' c (nodeArr tc par fst (ptr a) prv nxt lit dst ttl) ∧ NodeIs w' a (nodeArr ty (ptr c) fa la (ptr z) nilP li ds tt) ∧ NodeIs w' z (nodeArr tz pz fz lz vz (ptr a) iz dz sz) := by
  have cu := Lib.hid (unlink58 a ty fa la li ds tt w ha)
  have a1 : w.cell? ⟨a, 1, none⟩ = some nilP := ha.cell 1
  have a4 : w.cell? ⟨a, 4, none⟩ = some nilP := ha.cell 4
  have fa1 := ha.free 1
  have fa4 := ha.free 4
  have c3 : w.cell? ⟨c, 3, none⟩ = some (ptr z) := hc.cell 3
  have fc3 := hc.free 3
  have z5 : w.cell? ⟨z, 5, none⟩ = some nilP := hz.cell 5
  have fz5 := hz.free 5
  have hca : c ≠ a := fun h => hac h.symm
  have hza : z ≠ a := fun h => haz h.symm
  have hzc : z ≠ c := fun h => hcz h.symm
  have HC := Lib.hid hc
  have HA := Lib.hid ha
  have HZ := Lib.hid hz
  clear hc ha hz
  go_enter Tryz.func44, Tryz.ntmps44
  go_wp2_with (go_at_call 58; refine cu.out.mono ?_; rintro e w' ⟨rfl, rfl⟩)
  go_end0
  refine ⟨rfl, ((((SameBut.refl [c, a, z] w).set (by simp) _).set (by simp) _).set (by simp) _).set (by simp) _, ?_, ?_, ?_⟩
  · exact (((HC.out.other hca _).other hcz _).other hca _).set 3 _
  · exact (((HA.out.set 1 _).other haz _).set 4 _).other hac _
  · exact (((HZ.out.other hza _).set 5 _).other hza _).other hzc _

/-- The children of a node. -/
def Kids (w : World) (c : Nat) (tc : Int) (par prv nxt lit dst ttl : Value) (f : F) : Prop := NodeIs w c (nodeArr tc par f.headP f.lastP prv nxt lit dst ttl) ∧ f.at w

theorem keep5_but {l : List Nat} {w w' : World} (h : SameBut l w w') (hl : ∀ b ∈ l, ∃ A, NodeIs w b A) : Keep5 w w' := by
  intro g C fz hg
  refine h.2.2.2.2 g (fun hm => ?_)
  obtain ⟨A, hA⟩ := hl g hm
  unfold NodeIs at hA
  rw [hg] at hA
  injection hA with hA
  injection hA with _ hA
  cases hA
theorem SameBut.sub {l l' : List Nat} {w w' : World} (h : SameBut l w w') (hs : ∀ k ∈ l, k ∈ l') : SameBut l' w w' :=
  ⟨h.1, h.2.1, h.2.2.1, h.2.2.2.1, fun k hk => h.2.2.2.2 k (fun hm => hk (hs k hm))⟩

theorem append44 (c a : Nat) (tc : Int) (par prv nxt lit dst ttl : Value) (f : F) (d : ND) (k : F) (w : World) (hnd : (c :: a :: (f.blocks ++ k.blocks)).Nodup) (hc : Kids w c tc par prv nxt lit dst ttl f) (ha : Lone w a d k) :
    Calls Tryz.prog 44 #[ptr c, ptr a] w fun e w' => e = .returned (.tuple #[]) ∧ SameBut (c :: a :: f.blocks) w w' ∧ Keep5 w w' ∧ Kids w' c tc par prv nxt lit dst ttl (f.app (F.one a d k)) := by
  rw [List.nodup_cons, List.nodup_cons, List.nodup_append] at hnd
  obtain ⟨n1, n2, n3, n4, n5⟩ := hnd
  simp only [List.mem_cons, List.mem_append, not_or] at n1 n2
  obtain ⟨n1a, n1b, n1c⟩ := n1
  obtain ⟨n2a, n2b⟩ := n2
  obtain ⟨hc1, hc2⟩ := hc
  obtain ⟨ha1, ha2, ha3⟩ := ha
  by_cases hf : f = .nil
  · subst hf
    refine (append_first c a tc par prv nxt lit dst ttl d.ty _ _ d.lv d.dv d.tv w (fun h => n1a h.symm) hc1 ha1).mono ?_
    rintro e w' ⟨rfl, hs, q1, q2⟩
    have hk : Keep5 w w' := keep5_but hs (by intro b hb; simp at hb; rcases hb with rfl | rfl; exact ⟨_, hc1⟩; exact ⟨_, ha1⟩)
    refine ⟨rfl, hs.sub (by simp [F.blocks]), hk, q1, ⟨_, _, q2⟩, ha2.keep hk, F.at_same hk k ha3 (fun b hb => hs.2.2.2.2 b ?_), trivial⟩
    simp only [List.mem_cons, List.not_mem_nil, or_false, not_or]
    exact ⟨fun h => n1c (h ▸ hb), fun h => n2b (h ▸ hb)⟩
  · obtain ⟨z, tz, pz, fz, lz, vz, iz, dz, sz, hz1, hz2⟩ := F.last_at f hf hc2
    obtain ⟨z', hz3, hz4⟩ := F.lastP_mem f hf
    obtain rfl : z' = z := ptr_inj (hz3.symm.trans hz1)
    rw [hz1] at hc1
    have hcz : c ≠ z' := fun h => n1b (h ▸ hz4)
    have haz : a ≠ z' := fun h => n2a (h ▸ hz4)
    refine (append_next c a z' tc par f.headP prv nxt lit dst ttl d.ty _ _ d.lv d.dv d.tv tz pz fz lz vz iz dz sz w (fun h => n1a h.symm) haz hcz hc1 ha1 hz2).mono ?_
    rintro e w' ⟨rfl, hs, q1, q2, q3⟩
    have hk : Keep5 w w' := keep5_but hs (by intro b hb; simp at hb; rcases hb with rfl | rfl | rfl; exact ⟨_, hc1⟩; exact ⟨_, ha1⟩; exact ⟨_, hz2⟩)
    have hg : (F.one a d k).at w' := by
      refine ⟨⟨_, _, q2⟩, ha2.keep hk, F.at_same hk k ha3 (fun b hb => hs.2.2.2.2 b ?_), trivial⟩
      simp only [List.mem_cons, List.not_mem_nil, or_false, not_or]
      exact ⟨fun h => n1c (h ▸ hb), fun h => n2b (h ▸ hb), fun h => n5 z' hz4 b hb h.symm⟩
    refine ⟨rfl, hs.sub (by intro b hb; simp at hb ⊢; rcases hb with h | h | rfl; exact Or.inl h; exact Or.inr (Or.inl h); exact Or.inr (Or.inr hz4)), hk, ?_, ?_⟩
    · rw [F.lastP_app_one, F.headP_app hf]
      exact q1
    · refine F.at_app (z := z') hk hg ?_ f hf hz1 n3 hc2 (fun b hb hne => hs.2.2.2.2 b ?_)
      · intro A hA
        have : A = nodeArr tz pz fz lz vz nilP iz dz sz := by
          have := hA.symm.trans hz2
          injection this with this
          injection this
        subst this
        exact q3
      · simp only [List.mem_cons, List.not_mem_nil, or_false, not_or]
        exact ⟨fun h => n1b (h ▸ hb), fun h => n2a (h ▸ hb), hne⟩

/-- Nodes, without where they lie. -/
inductive G where
  | nil
  | cons (ty : Int) (lb db tb : Option Bs) (kids rest : G)
def G.app : G → G → G
  | .nil, g => g
  | .cons t l d b k r, g => .cons t l d b k (r.app g)
def G.one (ty : Int) (lb db tb : Option Bs) (kids : G) : G := .cons ty lb db tb kids .nil
def F.abs : F → G
  | .nil => .nil
  | .cons _ d k r => .cons d.ty d.lb d.db d.tb k.abs r.abs
theorem F.abs_app : ∀ (f g : F), (f.app g).abs = f.abs.app g.abs
  | .nil, g => rfl
  | .cons a d k r, g => by rw [F.app, F.abs, F.abs, G.app, F.abs_app r g]
theorem G.app_assoc : ∀ (f g h : G), (f.app g).app h = f.app (g.app h)
  | .nil, _, _ => rfl
  | .cons _ _ _ _ _ r, g, h => by rw [G.app, G.app, G.app, G.app_assoc r g h]
theorem G.app_nil : ∀ (f : G), f.app .nil = f
  | .nil => rfl
  | .cons _ _ _ _ _ r => by rw [G.app, G.app_nil r]
theorem F.at_lt {w : World} : ∀ (f : F), f.at w → ∀ b ∈ f.blocks, b < w.heap.size
  | .nil, _, b, hb => by simp [F.blocks] at hb
  | .cons a d k r, ⟨⟨par, prv, h1⟩, h2, h3, h4⟩, b, hb => by
    rw [F.blocks] at hb
    simp only [List.mem_cons, List.mem_append] at hb
    rcases hb with rfl | hb | hb
    · exact h1.lt
    · exact F.at_lt k h3 b hb
    · exact F.at_lt r h4 b hb
theorem keep5_below {w w' : World} (h : Below w.heap.size w w') : Keep5 w w' := fun g C fz hg => h.block g (Array.getElem?_eq_some_iff.1 hg).1
theorem F.at_below {w w' : World} {f : F} (h : f.at w) (hb : Below w.heap.size w w') : f.at w' :=
  F.at_same (keep5_below hb) f h (fun b hm => hb.block b (F.at_lt f h b hm))
theorem Lone.below {w w' : World} {a : Nat} {d : ND} {k : F} (h : Lone w a d k) (hb : Below w.heap.size w w') : Lone w' a d k :=
  h.same (keep5_below hb) (hb.block a h.1.lt) (fun b hm => hb.block b (F.at_lt k h.2.2 b hm))

/-- The callback of a byte. -/
def cbN (ext : Nat) (c : UInt8) : Option Nat :=
  if c = 32 then some 46 else if c = 42 ∨ c = 95 then some 47 else if c = 126 then (if ext.testBit 5 then some 47 else none)
  else if c = 96 then some 48 else if c = 10 then some 49 else if c = 91 then some 50 else if c = 60 then some 51 else if c = 92 then some 52
  else if c = 38 then some 53 else if c = 33 then some 54 else if c = 94 then some 55
  else if c = 104 ∨ c = 109 ∨ c = 102 ∨ c = 72 ∨ c = 77 ∨ c = 70 then (if ext.testBit 4 then some 56 else none) else none
def cbV (ext : Nat) (c : UInt8) : Value := match cbN ext c with
  | some f => .func (.func f) #[] #[]
  | none => .nilFunc
/-- The parser: its extensions, how deep it is nested, whether it is in a link. -/
def MdArr (C : Array Value) (ext k : Nat) (ins : Bool) : Prop :=
  (∀ x : UInt8, C[3 + x.toNat]? = some (cbV ext x)) ∧ C[259]? = some (.int .i64 ext) ∧ C[260]? = some (.int .i64 k) ∧ C[261]? = some (.int .i64 16) ∧ C[262]? = some (.bool ins)
def MdIs (w : World) (M : Nat) (C : Array Value) : Prop := w.heap[M]? = some (.cells C 107 (0, 0))
theorem MdIs.cell {w : World} {a : Nat} {A : Array Value} (h : MdIs w a A) (i : Nat) : w.cell? ⟨a, i, none⟩ = A[i]? := by
  unfold World.cell?
  rw [show w.heap[(⟨a, i, none⟩ : Addr).block]? = _ from h]
  rfl
theorem MdIs.free {w : World} {a : Nat} {A : Array Value} (h : MdIs w a A) (i : Nat) : w.frozen? ⟨a, i, none⟩ = false := by
  unfold World.frozen?
  rw [show w.heap[(⟨a, i, none⟩ : Addr).block]? = _ from h]
  simp
theorem MdIs.lt {w : World} {a : Nat} {A : Array Value} (h : MdIs w a A) : a < w.heap.size := (Array.getElem?_eq_some_iff.1 h).1
theorem MdIs.set {w : World} {a : Nat} {A : Array Value} (h : MdIs w a A) (i : Nat) (v : Value) : MdIs (w.setCell ⟨a, i, none⟩ v) a (A.setIfInBounds i v) := by
  unfold MdIs World.setCell
  rw [Array.getElem?_modify]
  simp only [↓reduceIte]
  rw [show w.heap[a]? = _ from h]
  rfl
theorem MdArr.nest {C : Array Value} {ext k k' : Nat} {ins : Bool} (h : MdArr C ext k ins) : MdArr (C.setIfInBounds 260 (.int .i64 k')) ext k' ins := by
  obtain ⟨h1, h2, h3, h4, h5⟩ := h
  have hs : 260 < C.size := (Array.getElem?_eq_some_iff.1 h3).1
  refine ⟨fun x => ?_, ?_, ?_, ?_, ?_⟩
  · rw [Array.getElem?_setIfInBounds, if_neg (by have := x.toNat_lt; omega)]; exact h1 x
  · rw [Array.getElem?_setIfInBounds, if_neg (by decide)]; exact h2
  · rw [Array.getElem?_setIfInBounds, if_pos rfl, if_pos hs]
  · rw [Array.getElem?_setIfInBounds, if_neg (by decide)]; exact h4
  · rw [Array.getElem?_setIfInBounds, if_neg (by decide)]; exact h5
theorem MdArr.inside {C : Array Value} {ext k : Nat} {ins ins' : Bool} (h : MdArr C ext k ins) : MdArr (C.setIfInBounds 262 (.bool ins')) ext k ins' := by
  obtain ⟨h1, h2, h3, h4, h5⟩ := h
  have hs : 262 < C.size := (Array.getElem?_eq_some_iff.1 h5).1
  refine ⟨fun x => ?_, ?_, ?_, ?_, ?_⟩
  · rw [Array.getElem?_setIfInBounds, if_neg (by have := x.toNat_lt; omega)]; exact h1 x
  · rw [Array.getElem?_setIfInBounds, if_neg (by decide)]; exact h2
  · rw [Array.getElem?_setIfInBounds, if_neg (by decide)]; exact h3
  · rw [Array.getElem?_setIfInBounds, if_neg (by decide)]; exact h4
  · rw [Array.getElem?_setIfInBounds, if_pos rfl, if_pos hs]
theorem set_back {C : Array Value} {i : Nat} {v u : Value} (h : C[i]? = some v) : (C.setIfInBounds i u).setIfInBounds i v = C := by
  apply Array.ext_getElem?
  intro j
  rw [Array.getElem?_setIfInBounds, Array.getElem?_setIfInBounds]
  by_cases hj : i = j
  · subst hj
    rw [if_pos rfl, h, if_pos (by rw [Array.size_setIfInBounds]; exact (Array.getElem?_eq_some_iff.1 h).1)]
  · rw [if_neg hj, if_neg hj]

/-- A text that is parsed: where it lies, and the parser. -/
structure Ctx where
  M : Nat
  ext : Nat
  g : Nat
  off : Nat
  cap : Nat
  D : Bs
def Ctx.val (x : Ctx) : Value := .slice (some ⟨x.g, x.off, none⟩) x.D.length x.cap
def Ctx.inv (x : Ctx) (k : Nat) (ins : Bool) (w : World) : Prop :=
  (∃ C, MdIs w x.M C ∧ MdArr C x.ext k ins) ∧ RdO w x.g x.off x.D ∧ (∃ C fz, w.heap[x.g]? = some (.cells C 5 fz)) ∧ (x.D.length ≤ x.cap ∧ x.D.length ≤ 140737488355328) ∧ x.cap ≤ 9223372036854775807
theorem Ctx.inv.same {x : Ctx} {k : Nat} {ins : Bool} {w w' : World} (h : x.inv k ins w) (hM : w'.heap[x.M]? = w.heap[x.M]?) (hg : w'.heap[x.g]? = w.heap[x.g]?) : x.inv k ins w' := by
  obtain ⟨⟨C, h1, h2⟩, h3, ⟨C', fz, h4⟩, h5⟩ := h
  exact ⟨⟨C, hM.trans h1, h2⟩, rdO_block h3 hg, ⟨C', fz, hg.trans h4⟩, h5⟩
theorem Ctx.inv.ltM {x : Ctx} {k : Nat} {ins : Bool} {w : World} (h : x.inv k ins w) : x.M < w.heap.size := by
  obtain ⟨⟨C, h1, h2⟩, _⟩ := h
  exact h1.lt
theorem Ctx.inv.ltg {x : Ctx} {k : Nat} {ins : Bool} {w : World} (h : x.inv k ins w) : x.g < w.heap.size := by
  obtain ⟨_, _, ⟨C, fz, h1⟩, _⟩ := h
  exact (Array.getElem?_eq_some_iff.1 h1).1
theorem Ctx.inv.below {x : Ctx} {k : Nat} {ins : Bool} {w w' : World} (h : x.inv k ins w) (hb : Below w.heap.size w w') : x.inv k ins w' :=
  h.same (hb.block _ h.ltM) (hb.block _ h.ltg)

/-- The callback at e does nothing. -/
def Quiet (x : Ctx) (k : Nat) (ins : Bool) (e : Nat) : Prop :=
  ∀ f, cbN x.ext (x.D.getD e 0) = some f → ∀ w, x.inv k ins w → Calls Tryz.prog f #[ptr x.M, x.val, .int .i64 e] w fun r w' => (∃ v, r = .returned (.tuple #[.int .i64 0, v])) ∧ Below w.heap.size w w'
/-- A node made by a call, with its children: new, and alone. -/
def Made (w : World) (t : G) (a : Nat) (w' : World) : Prop :=
  ∃ d kf, Lone w' a d kf ∧ (a :: kf.blocks).Nodup ∧ (∀ b ∈ a :: kf.blocks, w.heap.size ≤ b) ∧ (F.one a d kf).abs = t
/-- What a callback answers: n bytes are consumed, and there is a node or none. -/
def Took (w : World) (n : Nat) (o : Option G) (r : Ending) (w' : World) : Prop :=
  Below w.heap.size w w' ∧ match o with
    | none => r = .returned (.tuple #[.int .i64 n, nilP])
    | some t => ∃ a, r = .returned (.tuple #[.int .i64 n, ptr a]) ∧ Made w t a w'
def Takes (x : Ctx) (k : Nat) (ins : Bool) (e n : Nat) (o : Option G) : Prop :=
  ∃ f, cbN x.ext (x.D.getD e 0) = some f ∧ ∀ w, x.inv k ins w → Calls Tryz.prog f #[ptr x.M, x.val, .int .i64 e] w (Took w n o)

inductive Seg where
  | q (n : Nat)
  | t (n : Nat) (o : Option G)
def SegsOk (x : Ctx) (k : Nat) (ins : Bool) : List Seg → Nat → Prop
  | [], e => e = x.D.length
  | .q n :: r, e => (∀ i, i < n → Quiet x k ins (e + i)) ∧ e + n ≤ x.D.length ∧ SegsOk x k ins r (e + n)
  | .t n o :: r, e => 0 < n ∧ Takes x k ins e n o ∧ e + n ≤ x.D.length ∧ SegsOk x k ins r (e + n)
def textG (l : Bs) : G := G.one 12 (some l) none none .nil
def outG (D : Bs) : List Seg → Nat → Nat → G
  | [], b, e => if b < e then textG ((D.drop b).take (e - b)) else .nil
  | .q n :: r, b, e => outG D r b (e + n)
  | .t n o :: r, b, e => (textG ((D.drop b).take (e - b))).app ((o.getD .nil).app (outG D r (e + n) (e + n)))
theorem segs_le {x : Ctx} {k : Nat} {ins : Bool} : ∀ (s : List Seg) (e : Nat), SegsOk x k ins s e → e ≤ x.D.length
  | [], e, h => Nat.le_of_eq h
  | .q n :: r, e, h => by have := h.2.1; omega
  | .t n o :: r, e, h => by have := h.2.2.1; omega
theorem segs_end {x : Ctx} {k : Nat} {ins : Bool} : ∀ (s : List Seg) (e : Nat), SegsOk x k ins s e → e = x.D.length → ∀ b, outG x.D s b e = if b < e then textG ((x.D.drop b).take (e - b)) else .nil
  | [], e, h, he, b => rfl
  | .q n :: r, e, h, he, b => by
    obtain ⟨h1, h2, h3⟩ := h
    obtain rfl : n = 0 := by omega
    rw [outG]
    exact segs_end r e h3 he b
  | .t n o :: r, e, h, he, b => by
    obtain ⟨h1, h2, h3, h4⟩ := h
    omega
theorem segs_step {x : Ctx} {k : Nat} {ins : Bool} : ∀ (s : List Seg) (e : Nat), SegsOk x k ins s e → e < x.D.length →
    (Quiet x k ins e ∧ ∃ s', SegsOk x k ins s' (e + 1) ∧ ∀ b, outG x.D s b e = outG x.D s' b (e + 1)) ∨
    ∃ n o s', 0 < n ∧ Takes x k ins e n o ∧ e + n ≤ x.D.length ∧ SegsOk x k ins s' (e + n) ∧ ∀ b, outG x.D s b e = (textG ((x.D.drop b).take (e - b))).app ((o.getD .nil).app (outG x.D s' (e + n) (e + n)))
  | [], e, h, he => absurd h (by show ¬ e = _; omega)
  | .q 0 :: r, e, h, he => by
    obtain ⟨h1, h2, h3⟩ := h
    exact segs_step r e h3 he
  | .q (n + 1) :: r, e, h, he => by
    obtain ⟨h1, h2, h3⟩ := h
    refine Or.inl ⟨h1 0 (by omega), .q n :: r, ⟨fun i hi => ?_, by omega, ?_⟩, fun b => ?_⟩
    · rw [show e + 1 + i = e + (i + 1) by omega]; exact h1 (i + 1) (by omega)
    · rw [show e + 1 + n = e + (n + 1) by omega]; exact h3
    · rw [outG, outG, show e + 1 + n = e + (n + 1) by omega]
  | .t n o :: r, e, h, he => by
    obtain ⟨h1, h2, h3, h4⟩ := h
    exact Or.inr ⟨n, o, r, h1, h2, h3, h4, fun b => rfl⟩

/-- Nodes have been hung below c: since w1, c alone of the old blocks has turned. -/
structure St (w1 : World) (c : Nat) (tc : Int) (par prv nxt lit dst ttl : Value) (f : F) (w : World) : Prop where
  kids : Kids w c tc par prv nxt lit dst ttl f
  grown : w1.grownBy w (some c)
  new : ∀ b ∈ f.blocks, w1.heap.size ≤ b
  nodup : f.blocks.Nodup
  old : c < w1.heap.size
theorem grownBy_below' {a w w' : World} {row : Option Nat} (h : a.grownBy w row) (hb : Below w.heap.size w w') : a.grownBy w' row :=
  ⟨hb.os.trans h.os, hb.tape.trans h.tape, hb.output.trans h.output, Nat.le_trans h.size hb.size, fun i hi hne => (hb.block i (Nat.lt_of_lt_of_le hi h.size)).trans (h.block i hi hne)⟩
theorem St.below {w1 w w' : World} {c : Nat} {tc : Int} {par prv nxt lit dst ttl : Value} {f : F} (h : St w1 c tc par prv nxt lit dst ttl f w) (hb : Below w.heap.size w w') : St w1 c tc par prv nxt lit dst ttl f w' :=
  ⟨⟨h.kids.1.below hb, F.at_below h.kids.2 hb⟩, grownBy_below' h.grown hb, h.new, h.nodup, h.old⟩
theorem St.append {w1 w : World} {c : Nat} {tc : Int} {par prv nxt lit dst ttl : Value} {f : F} (h : St w1 c tc par prv nxt lit dst ttl f w) (a : Nat) (d : ND) (k : F) (ha : Lone w a d k) (hnd : (a :: k.blocks).Nodup)
    (hnew : ∀ b ∈ a :: k.blocks, w1.heap.size ≤ b) (hdis : ∀ b ∈ a :: k.blocks, b ∉ f.blocks) :
    Calls Tryz.prog 44 #[ptr c, ptr a] w fun e w' => e = .returned (.tuple #[]) ∧ St w1 c tc par prv nxt lit dst ttl (f.app (F.one a d k)) w' ∧ SameBut (c :: a :: f.blocks) w w' ∧ Keep5 w w' := by
  have hbl : (f.app (F.one a d k)).blocks = f.blocks ++ (a :: k.blocks) := by rw [F.app_blocks, F.one, F.blocks, F.blocks]; simp
  have hc1 := h.old
  have hall : (c :: a :: (f.blocks ++ k.blocks)).Nodup := by
    rw [List.nodup_cons, List.nodup_cons, List.nodup_append]
    rw [List.nodup_cons] at hnd
    refine ⟨?_, ?_, h.nodup, hnd.2, fun x hx y hy he => hdis y (by simp [hy]) (he ▸ hx)⟩
    · simp only [List.mem_cons, List.mem_append, not_or]
      refine ⟨fun e => ?_, fun e => ?_, fun e => ?_⟩
      · have := hnew a (by simp); omega
      · have := h.new c e; omega
      · have := hnew c (by simp [e]); omega
    · simp only [List.mem_append, not_or]
      exact ⟨hdis a (by simp), hnd.1⟩
  refine (append44 c a tc par prv nxt lit dst ttl f d k w hall h.kids ha).mono ?_
  rintro e w' ⟨rfl, hs, hk, hkids⟩
  refine ⟨rfl, ⟨hkids, ⟨hs.1.trans h.grown.os, hs.2.1.trans h.grown.tape, hs.2.2.1.trans h.grown.output, by rw [hs.2.2.2.1]; exact h.grown.size, fun i hi hne => ?_⟩, fun b hb => ?_, ?_, h.old⟩, hs, hk⟩
  · refine (hs.2.2.2.2 i ?_).trans (h.grown.block i hi hne)
    simp only [List.mem_cons, not_or]
    refine ⟨fun e => hne (by rw [e]), fun e => ?_, fun e => ?_⟩
    · have := hnew a (by simp); omega
    · have := h.new i e; omega
  · rw [hbl] at hb
    rcases List.mem_append.1 hb with hb | hb
    · exact h.new b hb
    · exact hnew b hb
  · rw [hbl, List.nodup_append]
    exact ⟨h.nodup, hnd, fun x hx y hy he => hdis y hy (he ▸ hx)⟩
end Go.Proofs.YtalajbfpilhfgaaGreatDoor
