/-
  FnInlineAlone: pieces: what they are, how they are written, what they mean.
  FnInlineAlone: words.
  FnInlineAlone: one word.
  FnInlineAlone: targets.
  FnInlineAlone: right pieces.
-/
import Derived.Test.YtalajbfpilhfgaaGreatDoorK20
import Derived.Test.YtalajbfpilhfgaaGreatDoorK22
set_option linter.unusedVariables false
set_option linter.unusedSimpArgs false
namespace Go.Proofs.YtalajbfpilhfgaaGreatDoor
open Go.RowKit

/-- One to four words. -/
structure Words (l : Bs) : Prop where
  all : ∀ c ∈ l, isLet c = true ∨ c = 32
  pos : 0 < l.length
  first : isLet (l.getD 0 0) = true
  last : isLet (l.getD (l.length - 1) 0) = true
  gap : ∀ j, l.getD j 0 = 32 → l.getD (j + 1) 0 ≠ 32
  len : l.length ≤ 60
def WordsTo (l : Bs) (i W n : Nat) : Prop :=
  (∀ j, j < i → isLet (l.getD j 0) = true ∨ l.getD j 0 = 32) ∧ (0 < i → isLet (l.getD 0 0) = true) ∧ (0 < n → 0 < i ∧ isLet (l.getD (i - 1) 0) = true) ∧ (∀ j, j + 1 < i → l.getD j 0 = 32 → l.getD (j + 1) 0 ≠ 32) ∧ i + 11 ≤ 11 * W + n
theorem let_ne32 {c : UInt8} (h : isLet c = true) : c ≠ 32 := by rintro rfl; exact absurd h (by decide)
theorem WordsTo.lett {l : Bs} {i W n : Nat} (h : WordsTo l i W n) (hc : isLet (l.getD i 0) = true) : WordsTo l (i + 1) W (n + 1) := by
  obtain ⟨h1, h2, h3, h4, h5⟩ := h
  refine ⟨fun j hj => ?_, fun _ => ?_, fun _ => ⟨by omega, by simpa using hc⟩, fun j hj hq => ?_, by omega⟩
  · by_cases e : j = i
    · subst e; exact .inl hc
    · exact h1 j (by omega)
  · by_cases e : i = 0
    · subst e; exact hc
    · exact h2 (by omega)
  · by_cases e : j + 1 = i
    · rw [e]; exact let_ne32 hc
    · exact h4 j (by omega) hq
theorem WordsTo.blank {l : Bs} {i W n : Nat} (h : WordsTo l i W n) (hn : 0 < n) (hn2 : n ≤ 10) (hc : l.getD i 0 = 32) : WordsTo l (i + 1) (W + 1) 0 := by
  obtain ⟨h1, h2, h3, h4, h5⟩ := h
  obtain ⟨h6, h7⟩ := h3 hn
  refine ⟨fun j hj => ?_, fun _ => h2 h6, fun h => absurd h (by omega), fun j hj hq => ?_, by omega⟩
  · by_cases e : j = i
    · subst e; exact .inr hc
    · exact h1 j (by omega)
  · by_cases e : j + 1 = i
    · have : j = i - 1 := by omega
      rw [← this] at h7
      exact absurd hq (let_ne32 h7)
    · exact h4 j (by omega) hq
theorem mem_getD' {l : Bs} {c : UInt8} (h : c ∈ l) : ∃ j, j < l.length ∧ l.getD j 0 = c := by
  obtain ⟨j, hj, e⟩ := List.getElem_of_mem h
  exact ⟨j, hj, by rw [List.getD_eq_getElem?_getD, List.getElem?_eq_getElem hj, e]; rfl⟩
theorem WordsTo.ends {l : Bs} {W n : Nat} (h : WordsTo l l.length W n) (hn : 0 < n) (hn2 : n ≤ 10) (hW : W ≤ 4) : Words l := by
  obtain ⟨h1, h2, h3, h4, h5⟩ := h
  obtain ⟨h6, h7⟩ := h3 hn
  refine ⟨fun c hc => ?_, h6, h2 h6, h7, fun j hj hq => ?_, by omega⟩
  · obtain ⟨j, hj, rfl⟩ := mem_getD' hc
    exact h1 j hj
  · by_cases e : j + 1 < l.length
    · exact h4 j e hj hq
    · rw [List.getD_eq_getElem?_getD, List.getElem?_eq_none (by omega)] at hq
      exact absurd hq (by decide)
/-- A truth is told: true only where it holds. -/
def SaysB (p : Prop) (e : Ending) : Prop := ∃ b, e = .returned (.bool b) ∧ (b = true → p)
theorem SaysB.no {p : Prop} : SaysB p (.returned (.bool false)) := ⟨false, rfl, fun h => by cases h⟩
/-- A letter, a digit, or a sign of a target. -/
def tOk (c : UInt8) : Bool := isAln c || c == 47 || c == 35 || c == 46 || c == 45 || c == 63 || c == 61 || c == 38 || c == 58
structure Target (l : Bs) : Prop where
  all : ∀ c ∈ l, tOk c = true
  pos : 0 < l.length
  len : l.length ≤ 40
def One (l : Bs) : Prop := Words l ∧ ∀ c ∈ l, c ≠ 32

/-- A piece, as its cells tell it. -/
structure Pc where
  kind : Int
  ch : Int
  var : Int
  sep : Int
  a : Bs
  b : Bs
  c : Bs
def Pc.vals (p : Pc) : List Value := [.int .i64 p.kind, .int .i64 p.ch, .int .i64 p.var, .int .i64 p.sep, strV p.a, strV p.b, strV p.c]
/-- What a kind asks for. -/
def RightK (p : Pc) (bg : Bool) : Prop :=
  ((p.kind = 0 ∨ p.kind = 1 ∨ p.kind = 2 ∨ p.kind = 3 ∨ p.kind = 4) ∧ Words p.a) ∨
  (p.kind = 5 ∧ p.var < 4 ∧ Words p.a ∧ Words p.b) ∨
  ((p.kind = 6 ∨ p.kind = 7) ∧ p.var < 5 ∧ Words p.a ∧ Target p.b ∧ Words p.c) ∨
  (p.kind = 8 ∧ p.var < 5 ∧ One p.a ∧ One p.b) ∨
  (p.kind = 9 ∧ One p.a ∧ One p.b) ∨
  (p.kind = 10 ∧ p.var < 21 ∧ (p.a = [] ∨ One p.a) ∧ (p.b = [] ∨ One p.b)) ∨
  (p.kind = 11 ∧ p.var < 5) ∨
  (p.kind = 12 ∧ p.var < 5 ∧ bg = false) ∨
  (p.kind = 13 ∧ p.var < 7 ∧ bg = false ∧ p.sep = 0) ∨
  ((p.kind = 14 ∨ p.kind = 15 ∨ p.kind = 18 ∨ p.kind = 19) ∧ Words p.a ∧ Words p.b ∧ Words p.c) ∨
  ((p.kind = 16 ∨ p.kind = 17) ∧ Words p.a ∧ Words p.b ∧ Target p.c) ∨
  (p.kind = 20 ∧ Words p.a ∧ Target p.b ∧ Target p.c)
def Right (p : Pc) (bg : Bool) : Prop := 0 ≤ p.ch ∧ p.ch ≤ 1 ∧ 0 ≤ p.var ∧ 0 ≤ p.sep ∧ p.sep < 4 ∧ RightK p bg

/-- How a piece is written. -/
def lkW (a b c : Bs) : Nat → Bs
  | 1 => 91 :: (a ++ (93 :: 40 :: (b ++ (32 :: 34 :: (c ++ [34, 41])))))
  | 2 => 91 :: (a ++ (93 :: 40 :: (b ++ (32 :: 39 :: (c ++ [39, 41])))))
  | 3 => 91 :: (a ++ (93 :: 40 :: 60 :: (b ++ (62 :: 32 :: 34 :: (c ++ [34, 41])))))
  | 4 => 91 :: (a ++ (93 :: 40 :: 32 :: (b ++ [32, 41])))
  | _ => 91 :: (a ++ (93 :: 40 :: (b ++ [41])))
def bareW (a b : Bs) : Bs := [104, 116, 116, 112, 58, 47, 47] ++ (a ++ ([46, 111, 114, 103, 47] ++ b))
def mailW (a b : Bs) : Bs := a ++ (64 :: (b ++ [46, 111, 114, 103]))
def autoW (a b : Bs) : Nat → Bs
  | 0 => bareW a b
  | 1 => [104, 116, 116, 112, 115, 58, 47, 47] ++ (a ++ ([46, 111, 114, 103, 47, 63] ++ (b ++ [61, 49, 38, 99, 61, 50])))
  | 2 => [102, 116, 112, 58, 47, 47] ++ (a ++ [46, 111, 114, 103])
  | 3 => m7L ++ mailW a b
  | _ => mailW a b
def autoTo (a b : Bs) : Nat → Bs
  | 4 => m7L ++ mailW a b
  | v => autoW a b v
def entW : Nat → Bs
  | 0 => [38, 97, 109, 112, 59]
  | 1 => [38, 108, 116, 59]
  | 2 => [38, 103, 116, 59]
  | 3 => [38, 113, 117, 111, 116, 59]
  | _ => [38, 99, 111, 112, 121, 59]
def entT : Nat → Bs
  | 0 => [38]
  | v => entW v
def tagW : Nat → Bs
  | 0 => [60, 98, 62]
  | 1 => [60, 47, 98, 62]
  | 2 => [60, 105, 32, 99, 108, 97, 115, 115, 61, 34, 97, 34, 62]
  | 3 => [60, 115, 112, 97, 110, 47, 62]
  | _ => [60, 33, 45, 45, 32, 97, 32, 45, 45, 62]
def loneW : Nat → Bs
  | 0 => [42]
  | 1 => [95]
  | 2 => [42, 42]
  | 3 => [38]
  | 4 => [60]
  | 5 => [62]
  | _ => [33]
def wrK (o x : UInt8) (a b c : Bs) : Nat → Nat → Bs
  | 1, _ => o :: (a ++ [o])
  | 2, _ => o :: o :: (a ++ [o, o])
  | 3, _ => o :: o :: o :: (a ++ [o, o, o])
  | 4, _ => 126 :: 126 :: (a ++ [126, 126])
  | 5, 0 => 96 :: (a ++ [96])
  | 5, 1 => 96 :: 96 :: (a ++ [96, 96])
  | 5, 2 => 96 :: 32 :: (a ++ [32, 96])
  | 5, _ => 96 :: 96 :: 32 :: (a ++ (96 :: (b ++ [32, 96, 96])))
  | 6, v => lkW a b c v
  | 7, v => 33 :: lkW a b c v
  | 8, v => 60 :: (autoW a b v ++ [62])
  | 9, _ => bareW a b
  | 10, v => a ++ (92 :: escL.getD v 0 :: b)
  | 11, v => entW v
  | 12, v => tagW v
  | 13, v => loneW v
  | 14, _ => o :: o :: (a ++ (32 :: x :: (b ++ (x :: 32 :: (c ++ [o, o])))))
  | 15, _ => o :: (a ++ (32 :: x :: x :: (b ++ (x :: x :: 32 :: (c ++ [o])))))
  | 16, _ => 91 :: (a ++ (32 :: o :: (b ++ (o :: 93 :: 40 :: (c ++ [41])))))
  | 17, _ => 91 :: (a ++ (32 :: 96 :: (b ++ (96 :: 93 :: 40 :: (c ++ [41])))))
  | 18, _ => 126 :: 126 :: (a ++ (32 :: o :: (b ++ (o :: 32 :: (c ++ [126, 126])))))
  | 19, _ => o :: (a ++ (32 :: 126 :: 126 :: (b ++ (126 :: 126 :: 32 :: (c ++ [o])))))
  | 20, _ => 91 :: 33 :: 91 :: (a ++ (93 :: 40 :: (b ++ (41 :: 93 :: 40 :: (c ++ [41])))))
  | _, _ => a
def oneC (ch : Int) : UInt8 := if ch = 0 then 42 else 95
def oddC (ch : Int) : UInt8 := if ch = 0 then 95 else 42
def wr (p : Pc) : Bs := wrK (oneC p.ch) (oddC p.ch) p.a p.b p.c p.kind.toNat p.var.toNat

/-- What a piece means. -/
def inT (d : Int) (s : Bs) : InN := ⟨d, 12, s, [], [], false⟩
def inO (d t : Int) : InN := ⟨d, t, [], [], [], false⟩
def inL (t : Int) (l : Bs) : InN := ⟨0, t, [], l, [], false⟩
def lkM (t : Int) (a b c : Bs) (v : Nat) : List InN := if 1 ≤ v ∧ v ≤ 3 then [⟨0, t, [], b, c, true⟩, inT 1 a] else [⟨0, t, [], b, [], false⟩, inT 1 a]
def meK (del auto : Bool) (o x : UInt8) (a b c : Bs) : Nat → Nat → List InN
  | 1, _ => [inO 0 7, inT 1 a]
  | 2, _ => [inO 0 8, inT 1 a]
  | 3, _ => [inO 0 8, inO 1 7, inT 2 a]
  | 4, v => if del then [inO 0 9, inT 1 a] else [inT 0 (wrK o x a b c 4 v)]
  | 5, 3 => [⟨0, 17, a ++ (96 :: b), [], [], false⟩]
  | 5, _ => [⟨0, 17, a, [], [], false⟩]
  | 6, v => lkM 10 a b c v
  | 7, v => lkM 11 a b c v
  | 8, v => [inL 10 (autoTo a b v), inT 1 (if v = 3 then (autoW a b v).drop 7 else autoW a b v)]
  | 9, v => if auto then [inL 10 (bareW a b), inT 1 (bareW a b)] else [inT 0 (bareW a b)]
  | 10, v => [inT 0 (a ++ (escL.getD v 0 :: b))]
  | 11, v => [inT 0 (entT v)]
  | 12, v => [⟨0, 18, tagW v, [], [], false⟩]
  | 14, _ => [inO 0 8, inT 1 (a ++ [32]), inO 1 7, inT 2 b, inT 1 (32 :: c)]
  | 15, _ => [inO 0 7, inT 1 (a ++ [32]), inO 1 8, inT 2 b, inT 1 (32 :: c)]
  | 16, _ => [inL 10 c, inT 1 (a ++ [32]), inO 1 7, inT 2 b]
  | 17, _ => [inL 10 c, inT 1 (a ++ [32]), ⟨1, 17, b, [], [], false⟩]
  | 18, _ => if del then [inO 0 9, inT 1 (a ++ [32]), inO 1 7, inT 2 b, inT 1 (32 :: c)]
    else [inT 0 (126 :: 126 :: (a ++ [32])), inO 0 7, inT 1 b, inT 0 (32 :: (c ++ [126, 126]))]
  | 19, _ => if del then [inO 0 7, inT 1 (a ++ [32]), inO 1 9, inT 2 b, inT 1 (32 :: c)]
    else [inO 0 7, inT 1 (a ++ (32 :: 126 :: 126 :: (b ++ (126 :: 126 :: 32 :: c))))]
  | 20, _ => [inL 10 c, ⟨1, 11, [], b, [], false⟩, inT 2 a]
  | k, v => [inT 0 (wrK o x a b c k v)]
def me (ext : Nat) (p : Pc) : List InN := meK (ext.testBit 5) (ext.testBit 4) (oneC p.ch) (oddC p.ch) p.a p.b p.c p.kind.toNat p.var.toNat

/-- How pieces are parted. -/
def sepW : Nat → Bs
  | 1 => [10]
  | 2 => [32, 32, 10]
  | 3 => [92, 10]
  | _ => [32]
def sepM (ext : Nat) (s : Nat) : List InN :=
  if s = 2 ∨ (s = 1 ∧ ext.testBit 8 = true) ∨ (s = 3 ∧ ext.testBit 15 = true) then [inO 0 16] else [inT 0 (sepW s)]
/-- A paragraph's text of pieces, and its nodes. -/
def lineW : List Pc → Bs
  | [] => []
  | [p] => wr p
  | p :: q :: r => wr p ++ (sepW p.sep.toNat ++ lineW (q :: r))
def lineM (ext : Nat) : List Pc → List InN
  | [] => []
  | [p] => me ext p
  | p :: q :: r => me ext p ++ (sepM ext p.sep.toNat ++ lineM ext (q :: r))
def SepOk (ext : Nat) (p : Pc) : Prop := p.sep = 3 → p.kind ≠ 9 ∧ (ext.testBit 8 = true → ext.testBit 15 = true)
def AllRight (ext : Nat) : Bool → List Pc → Prop
  | _, [] => True
  | bg, p :: r => Right p bg ∧ SepOk ext p ∧ AllRight ext (decide (p.sep ≠ 0)) r

theorem str_getD (s : ByteArray) (k : Nat) (h : k < s.size) : s.data.toList.getD k 0 = s[k] := by
  rw [List.getD_eq_getElem?_getD, List.getElem?_eq_getElem (by simpa using h)]
  rfl
theorem str_len (s : ByteArray) : s.data.toList.length = s.size := by simp
set_option maxHeartbeats 1000000 in
theorem words26 (s : ByteArray) (w : World) (hs : s.size ≤ 1000000000000) :
    Calls Tryz.prog 26 #[.string s] w fun e w' => SaysB (Words s.data.toList) e ∧ w = w' := by
  go_enter Tryz.func26, Tryz.ntmps26
  go_wp2
  go_loopg [3, 4, 5] (s.size + 1) (fun q v3 v4 v5 wr => w = wr ∧ ∃ W n i : Nat, v3 = .int .i64 W ∧ v4 = .int .i64 n ∧ v5 = .int .i64 i ∧ q + i = s.size + 1 ∧ i ≤ s.size ∧ n ≤ 10 ∧ W ≤ i + 1 ∧ Hid (WordsTo s.data.toList i W n))
  case atStart => exact ⟨rfl, 1, 0, 0, rfl, rfl, rfl, by omega, by omega, by omega, by omega, Lib.hid ⟨fun j hj => by omega, fun h => by omega, fun h => by omega, fun j hj => by omega, by omega⟩⟩
  case round =>
    obtain ⟨rfl, W, n, i, rfl, rfl, rfl, hq, hi, hn, hW, HW⟩ := hrel
    have HQ := Lib.hid hq
    clear hq
    by_cases hin : i < s.size
    · have HG := Lib.hid (str_getD s i hin)
      have e32 : ((s[i].toNat : Int) == 32) = decide (s[i].toNat = 32) := by rw [Bool.eq_iff_iff]; simp; omega
      have HX : Hid (s[i].toNat = 32 → s[i] = 32) := Lib.hid (fun h => UInt8.toNat_inj.mp h)
      have HL : Hid (isLet s[i] = ((97 ≤ s[i].toNat && s[i].toNat ≤ 122) || (65 ≤ s[i].toNat && s[i].toNat ≤ 90))) := Lib.hid rfl
      by_cases h0 : 97 ≤ s[i].toNat <;> by_cases h1 : s[i].toNat ≤ 122 <;> by_cases h2 : 65 ≤ s[i].toNat <;> by_cases h3 : s[i].toNat ≤ 90 <;> first | (exfalso; omega) | skip
      all_goals (
        have k0 : (97 ≤ (s[i].toNat : Int)) ↔ 97 ≤ s[i].toNat := by omega
        have k1 : ((s[i].toNat : Int) ≤ 122) ↔ s[i].toNat ≤ 122 := by omega
        have k2 : (65 ≤ (s[i].toNat : Int)) ↔ 65 ≤ s[i].toNat := by omega
        have k3 : ((s[i].toNat : Int) ≤ 90) ↔ s[i].toNat ≤ 90 := by omega
        by_cases h5 : s[i].toNat = 32 <;> by_cases hn0 : 0 < n <;> by_cases hn9 : n ≤ 9 <;> first | (exfalso; omega) | skip)
      all_goals (
        go_wp2
        first
        | (go_ret
           exact ⟨SaysB.no, rfl⟩)
        | (go_roundg (s.size - i)
           case measure => have := HQ.out; omega
           case rel => exact ⟨rfl, W, n + 1, i + 1, rfl, by go_num, by go_num, by have := HQ.out; omega, by omega, by omega, by omega, Lib.hid (HW.out.lett (by rw [HG.out, HL.out]; simp [h0, h1, h2, h3]))⟩)
        | (go_roundg (s.size - i)
           case measure => have := HQ.out; omega
           case rel => exact ⟨rfl, W + 1, 0, i + 1, by go_num, rfl, by go_num, by have := HQ.out; omega, by omega, by omega, by omega, Lib.hid (HW.out.blank hn0 hn (by rw [HG.out]; exact HX.out h5))⟩))
    · obtain rfl : i = s.size := by omega
      by_cases hn0 : 0 < n <;> by_cases hw : W ≤ 4
      all_goals (
        go_wp2
        go_ret
        first
        | exact ⟨SaysB.no, rfl⟩
        | (refine ⟨⟨_, rfl, fun h => ?_⟩, rfl⟩
           have h1 := HW.out
           rw [← str_len] at h1
           exact h1.ends hn0 hn hw)
        | (refine ⟨⟨_, rfl, fun h => ?_⟩, rfl⟩
           exfalso
           simp at h
           omega))


theorem bs_nil (s : ByteArray) : (s.toList == ([] : List UInt8)) = decide (s.size = 0) := by
  have h1 : s.toList = s.data.toList := ByteArray.toList_eq s
  have h : (s.data.toList = []) ↔ s.size = 0 := by rw [← List.length_eq_zero_iff, str_len]
  rw [h1, Bool.eq_iff_iff]
  simp only [beq_iff_eq, decide_eq_true_eq]
  exact h
set_option maxHeartbeats 1000000 in
theorem one28 (s : ByteArray) (em : Bool) (w : World) (hs : s.size ≤ 1000000000000) :
    Calls Tryz.prog 28 #[.string s, .bool em] w fun e w' => SaysB ((em = true ∧ s.data.toList = []) ∨ One s.data.toList) e ∧ w = w' := by
  have HF0 : Hid (∀ b : Bool, (b = true → One s.data.toList) → SaysB ((em = true ∧ s.data.toList = []) ∨ One s.data.toList) (.returned (.bool b))) := Lib.hid (fun b hb => ⟨b, rfl, fun h => .inr (hb h)⟩)
  have HF1 : Hid (em = true → s.data.toList = [] → SaysB ((em = true ∧ s.data.toList = []) ∨ One s.data.toList) (.returned (.bool true))) := Lib.hid (fun h1 h2 => ⟨true, rfl, fun h => .inl ⟨h1, h2⟩⟩)
  generalize ((em = true ∧ s.data.toList = []) ∨ One s.data.toList) = PP at HF0 HF1 ⊢
  have CL := Lib.hid (fun w => words26 s w hs)
  have HE : Hid (s.size = 0 → s.data.toList = []) := Lib.hid (fun h => List.length_eq_zero_iff.1 (by rw [str_len]; exact h))
  have q0 := bs_nil s
  go_enter Tryz.func28, Tryz.ntmps28
  go_wp2
  go_loopg [5] (s.size + 1) (fun q v3 wr => w = wr ∧ ∃ i : Nat, v3 = .int .i64 i ∧ q + i = s.size + 1 ∧ i ≤ s.size ∧ Hid (∀ j, j < i → s.data.toList.getD j 0 ≠ 32))
  case atStart => exact ⟨rfl, 0, rfl, by omega, by omega, Lib.hid (fun j hj => by omega)⟩
  case round =>
    obtain ⟨rfl, i, rfl, hq, hi, HT⟩ := hrel
    have HQ := Lib.hid hq
    clear hq
    by_cases hin : i < s.size
    · have HG := Lib.hid (str_getD s i hin)
      have e32 : ((s[i].toNat : Int) == 32) = decide (s[i].toNat = 32) := by rw [Bool.eq_iff_iff]; simp; omega
      by_cases h5 : s[i].toNat = 32
      · go_wp2
        go_ret
        exact ⟨SaysB.no, rfl⟩
      · have HN : Hid (s[i] ≠ 32) := Lib.hid (fun h => h5 (by rw [h]; rfl))
        go_wp2
        go_roundg (s.size - i)
        case measure => have := HQ.out; omega
        case rel =>
          refine ⟨rfl, i + 1, by go_num, by have := HQ.out; omega, by omega, Lib.hid (fun j hj => ?_)⟩
          by_cases e : j = i
          · subst e; rw [HG.out]; exact HN.out
          · exact HT.out j (by omega)
    · obtain rfl : i = s.size := by omega
      have HA : Hid (∀ c ∈ s.data.toList, c ≠ 32) := Lib.hid (fun c hc => by
        obtain ⟨j, hj, rfl⟩ := mem_getD' hc
        exact HT.out j (by rwa [str_len] at hj))
      have HF : Hid (∀ b : Bool, (b = true → Words s.data.toList) → SaysB PP (.returned (.bool b))) := Lib.hid (fun b hb => HF0.out b (fun h => ⟨hb h, HA.out⟩))
      clear HT HA HF0
      by_cases hz : s.size = 0
      · rw [decide_eq_true hz] at q0
        have HZ := Lib.hid hz
        cases em with
        | true =>
          go_wp2
          go_ret
          exact ⟨HF1.out (by simp) (HE.out HZ.out), rfl⟩
        | false =>
          go_wp2_with (go_at_call 26; refine (CL.out _).mono ?_; rintro e w' ⟨⟨b, rfl, hb⟩, rfl⟩; have HB := Lib.hid hb; clear hb)
          go_ret
          exact ⟨HF.out b HB.out, rfl⟩
      · rw [decide_eq_false hz] at q0
        cases em <;> (
          go_wp2_with (go_at_call 26; refine (CL.out _).mono ?_; rintro e w' ⟨⟨b, rfl, hb⟩, rfl⟩; have HB := Lib.hid hb; clear hb)
          go_ret
          exact ⟨HF.out b HB.out, rfl⟩)

set_option maxRecDepth 100000 in
set_option maxHeartbeats 4000000 in
theorem target27 (s : ByteArray) (w : World) :
    Calls Tryz.prog 27 #[.string s] w fun e w' => SaysB (Target s.data.toList) e ∧ w = w' := by
  have CL := Lib.hid (fun c w => word43 c w)
  go_enter Tryz.func27, Tryz.ntmps27
  by_cases hz1 : s.size < 1
  · go_wp2
    go_ret
    exact ⟨SaysB.no, rfl⟩
  by_cases hz2 : 40 < s.size
  · go_wp2
    go_ret
    exact ⟨SaysB.no, rfl⟩
  go_wp2
  go_loopg [3] (s.size + 1) (fun q v3 wr => w = wr ∧ ∃ i : Nat, v3 = .int .i64 i ∧ q + i = s.size + 1 ∧ i ≤ s.size ∧ Hid (∀ j, j < i → tOk (s.data.toList.getD j 0) = true))
  case atStart => exact ⟨rfl, 0, rfl, by omega, by omega, Lib.hid (fun j hj => by omega)⟩
  case round =>
    obtain ⟨rfl, i, rfl, hq, hi, HT⟩ := hrel
    have HQ := Lib.hid hq
    clear hq
    by_cases hin : i < s.size
    · have HG := Lib.hid (str_getD s i hin)
      have HS : Hid (tOk s[i] = true → ∀ j, j < i + 1 → tOk (s.data.toList.getD j 0) = true) := Lib.hid (fun h j hj => by
        by_cases e : j = i
        · subst e; rw [HG.out]; exact h
        · exact HT.out j (by omega))
      have HB : Hid (isAln s[i] = true ∨ s[i].toNat = 47 ∨ s[i].toNat = 35 ∨ s[i].toNat = 46 ∨ s[i].toNat = 45 ∨ s[i].toNat = 63 ∨ s[i].toNat = 61 ∨ s[i].toNat = 38 ∨ s[i].toNat = 58 → tOk s[i] = true) := Lib.hid (fun h => by
        have eU : ∀ v : UInt8, s[i].toNat = v.toNat → (s[i] == v) = true := fun v hv => by rw [beq_iff_eq]; exact UInt8.toNat_inj.mp hv
        unfold tOk
        rcases h with h | h | h | h | h | h | h | h | h
        · rw [h]; rfl
        · rw [eU 47 h]; simp
        · rw [eU 35 h]; simp
        · rw [eU 46 h]; simp
        · rw [eU 45 h]; simp
        · rw [eU 63 h]; simp
        · rw [eU 61 h]; simp
        · rw [eU 38 h]; simp
        · rw [eU 58 h]; simp)
      obtain ⟨b, hb⟩ : ∃ b, b = isAln s[i] := ⟨_, rfl⟩
      have CB := Lib.hid (CL.out s[i])
      have HA : Hid (b = true → tOk s[i] = true) := Lib.hid (fun h => HB.out (.inl (hb ▸ h)))
      rw [← hb] at CB
      clear hb CL
      cases b with
      | true =>
        go_wp2_with (go_at_call 43; refine (CB.out _).mono ?_; rintro e w' ⟨rfl, rfl⟩)
        go_roundg (s.size - i)
        case measure => have := HQ.out; omega
        case rel => exact ⟨rfl, i + 1, by go_num, by have := HQ.out; omega, by omega, Lib.hid (HS.out (HA.out (by simp)))⟩
      | false =>
        go_wp2_with (go_at_call 43; refine (CB.out _).mono ?_; rintro e w' ⟨rfl, rfl⟩)
        all_goals first
        | (go_ret
           exact ⟨SaysB.no, rfl⟩)
        | (go_roundg (s.size - i)
           case measure => have := HQ.out; omega
           case rel => exact ⟨rfl, i + 1, by go_num, by have := HQ.out; omega, by omega, Lib.hid (HS.out (HB.out (by omega)))⟩)
    · obtain rfl : i = s.size := by omega
      go_wp2
      go_ret
      refine ⟨⟨_, rfl, fun _ => ⟨fun c hc => ?_, by rw [str_len]; omega, by rw [str_len]; omega⟩⟩, rfl⟩
      obtain ⟨j, hj, rfl⟩ := mem_getD' hc
      exact HT.out j (by rwa [str_len] at hj)

theorem SaysB.mono {p q : Prop} {e : Ending} (h : SaysB p e) (hpq : p → q) : SaysB q e := by
  obtain ⟨b, h1, h2⟩ := h
  exact ⟨b, h1, fun h => hpq (h2 h)⟩
theorem words26l (l : Bs) (hl : l.length ≤ 1000000000000) (w : World) : Calls Tryz.prog 26 #[strV l] w fun e w' => SaysB (Words l) e ∧ w = w' := by
  have := words26 ⟨l.toArray⟩ w (show l.toArray.size ≤ 1000000000000 by simpa using hl)
  simpa using this
theorem target27l (l : Bs) (w : World) : Calls Tryz.prog 27 #[strV l] w fun e w' => SaysB (Target l) e ∧ w = w' := by
  have := target27 ⟨l.toArray⟩ w
  simpa using this
theorem one28l (l : Bs) (em : Bool) (hl : l.length ≤ 1000000000000) (w : World) : Calls Tryz.prog 28 #[strV l, .bool em] w fun e w' => SaysB ((em = true ∧ l = []) ∨ One l) e ∧ w = w' := by
  have := one28 ⟨l.toArray⟩ em w (show l.toArray.size ≤ 1000000000000 by simpa using hl)
  simpa using this
/-- What the calls say of a piece's texts. -/
structure Told (A B C : ByteArray) (WA WB WC TB TC OA OB EA EB : Prop) : Prop where
  a26 : ∀ w, Calls Tryz.prog 26 #[.string A] w fun e w' => SaysB WA e ∧ w = w'
  b26 : ∀ w, Calls Tryz.prog 26 #[.string B] w fun e w' => SaysB WB e ∧ w = w'
  c26 : ∀ w, Calls Tryz.prog 26 #[.string C] w fun e w' => SaysB WC e ∧ w = w'
  b27 : ∀ w, Calls Tryz.prog 27 #[.string B] w fun e w' => SaysB TB e ∧ w = w'
  c27 : ∀ w, Calls Tryz.prog 27 #[.string C] w fun e w' => SaysB TC e ∧ w = w'
  a28 : ∀ w, Calls Tryz.prog 28 #[.string A, .bool false] w fun e w' => SaysB OA e ∧ w = w'
  b28 : ∀ w, Calls Tryz.prog 28 #[.string B, .bool false] w fun e w' => SaysB OB e ∧ w = w'
  a28t : ∀ w, Calls Tryz.prog 28 #[.string A, .bool true] w fun e w' => SaysB EA e ∧ w = w'
  b28t : ∀ w, Calls Tryz.prog 28 #[.string B, .bool true] w fun e w' => SaysB EB e ∧ w = w'
set_option maxRecDepth 100000 in
set_option maxHeartbeats 4000000 in
theorem piece_bad (kind ch var sep : Int) (A B C : ByteArray) (bg : Bool) (PP : Prop) (w : World) (h : ¬ (0 ≤ kind ∧ kind < 21 ∧ 0 ≤ ch ∧ ch ≤ 1 ∧ 0 ≤ var ∧ 0 ≤ sep ∧ sep < 4)) :
    Calls Tryz.prog 13 #[.agg #[.int .i64 kind, .int .i64 ch, .int .i64 var, .int .i64 sep, .string A, .string B, .string C], .bool bg] w fun e w' => SaysB PP e ∧ Below w.heap.size w w' := by
  have HBD := Lib.hid (fun o => (Below.refl w.heap.size w).alloc (Nat.le_refl _) o)
  go_enter Tryz.func13, Tryz.ntmps13
  go_upto_region 3 with fail
  all_goals first
  | (exfalso; omega)
  | (go_ret
     exact ⟨SaysB.no, HBD.out _⟩)
end Go.Proofs.YtalajbfpilhfgaaGreatDoor
