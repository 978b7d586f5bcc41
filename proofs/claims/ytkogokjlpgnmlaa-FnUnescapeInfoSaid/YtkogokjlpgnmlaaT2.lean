/- The walk of zzFind: the first entry of a name. -/
import Derived.Test.YtkogokjlpgnmlaaT1
namespace Go.Proofs.Ytkogokjlpgnmlaa
open Go.RowKit

def findT (name : Bs) : List (Bs × Bs) → Option Bs
  | [] => none
  | (n, v) :: r => if n = name then some v else findT name r

theorem flatT_append (a b : List (Bs × Bs)) : flatT (a ++ b) = flatT a ++ flatT b := by
  induction a with
  | nil => rfl
  | cons x r ih => obtain ⟨n, v⟩ := x; simp [flatT, ih, List.append_assoc]
theorem okT_append (a b : List (Bs × Bs)) (h : okT (a ++ b) = true) : okT b = true := by
  induction a with
  | nil => exact h
  | cons x r ih => obtain ⟨n, v⟩ := x; simp [okT] at h; exact ih h.2
theorem noB_get (x : Nat) (l : Bs) (h : noB x l = true) (m : Nat) (hm : m < l.length) : (l[m]).toNat ≠ x := by
  induction l generalizing m with
  | nil => simp at hm
  | cons c r ih =>
    simp only [noB, Bool.and_eq_true, Bool.not_eq_true'] at h
    cases m with
    | zero => simpa using Nat.ne_of_beq_eq_false h.1
    | succ m => simpa using ih h.2 m (by simpa using hm)
theorem ba_get (E : ByteArray) (k : Nat) (h : k < E.size) : E[k] = E.data.toList[k]'(by simpa using h) := rfl
theorem at_pre {L pre seg post : Bs} {x : UInt8} (hL : L = pre ++ (seg ++ x :: post)) (m : Nat) (hm : m ≤ seg.length) (h : pre.length + m < L.length) :
    L[pre.length + m] = if hq : m < seg.length then seg[m] else x := by
  subst hL
  rw [List.getElem_append_right (by omega)]
  simp only [Nat.add_sub_cancel_left]
  split
  · rw [List.getElem_append_left]
  · have : m = seg.length := by omega
    subst this
    rw [List.getElem_append_right (by omega)]
    simp
theorem ext_pre {E : ByteArray} {pre seg post : Bs} (hL : E.data.toList = pre ++ (seg ++ post)) : (E.extract pre.length (pre.length + seg.length)).data.toList = seg := by
  rw [ByteArray.data_extract, Array.toList_extract, List.extract_eq_take_drop, hL]
  simp


/-- The same code, its constant text a variable. -/
def absOp (E : ByteArray) : Op → Op
  | .index t (.const (.string _)) i => .index t (.const (.string E)) i
  | .slice t (.const (.string _)) a b c => .slice t (.const (.string E)) a b c
  | o => o
def absOps (E : ByteArray) : List Oper → List Oper
  | [] => []
  | o :: r => { o with op := absOp E o.op } :: absOps E r
def absCode (E : ByteArray) : Code → Code
  | .region i ops d => .region i (absOps E ops.toList).toArray d
  | .seq a b => .seq (absCode E a) (absCode E b)
  | .block i a => .block i (absCode E a)
  | .loop a => .loop (absCode E a)
  | .cond c a b => .cond c (absCode E a) (absCode E b)
  | c => c
noncomputable def bodyOf (f : Func) : Code := f.body.getD .skip
set_option maxRecDepth 1000000 in
theorem f55_abs : Try.f55.body = some (absCode zzEnt (bodyOf Try.f55)) := by kernel_rfl


def FindPost (s : Bs) (T : List (Bs × Bs)) (w : World) (e : Ending) (w' : World) : Prop :=
  (∃ v : ByteArray, v.data.toList = (findT s T).getD [] ∧ e = .returned (.tuple #[.string v, .bool (findT s T).isSome])) ∧ w = w'
set_option maxRecDepth 1000000 in
set_option maxHeartbeats 1000000 in
theorem find_core (fn : Func) (hres : Hid (fn.results = #[.tmp 2, .tmp 3])) (E : ByteArray) (T : List (Bs × Bs)) (HS : Hid (E.size = 29709)) (HF : Hid (E.data.toList = flatT T)) (HO : Hid (okT T = true)) (s : ByteArray) (w : World) (_hs : s.size ≤ 9223372036854775807) :
    (absCode E (bodyOf Try.f55)).wp Try.prog (bodyPost Try.prog fn (FindPost s.data.toList T w)) { tmps := #[.string s] ++ Array.replicate (Try.f55.ntmps - 1) undef, defers := [] } w := by
  simp only [bodyOf, Try.f55, Option.getD, absCode, absOps, absOp]
  simp (config := { decide := false }) only [Nat.reduceSub, Array.replicate_succ, Array.replicate_zero, List.push_toArray, List.append_toArray, List.nil_append, List.cons_append]
  go_wp2
  go_loop [4] (fun i => ∃ T1 T2, T = T1 ++ T2 ∧ findT s.data.toList T = findT s.data.toList T2 ∧ i = .int .i64 (flatT T1).length) (fun i => 29709 - (intOf i).toNat)
  case atStart => exact ⟨[], T, rfl, rfl, rfl⟩
  case round =>
    obtain ⟨T1, T2, hT, hfind, rfl⟩ := hrel
    have hfl : E.data.toList = flatT T1 ++ flatT T2 := by rw [HF.out, hT, flatT_append]
    have hlen : E.size = (flatT T1).length + (flatT T2).length := by
      rw [← ByteArray.size_data, ← Array.length_toList, hfl, List.length_append]
    have hok2 : okT T2 = true := okT_append T1 T2 (hT ▸ HO.out)
    obtain ⟨a, ha⟩ : ∃ a, a = (flatT T1).length := ⟨_, rfl⟩
    rw [← ha] at hlen ⊢
    have H := Lib.hid hfind
    have H1 := Lib.hid hfl
    have H2 := Lib.hid hT
    have H3 := Lib.hid ha
    clear hfind hfl hT ha
    cases T2 with
    | nil =>
      have hge : ¬ a < 29709 := by have := HS.out; simp [flatT] at hlen; omega
      have H4 := Lib.hid hlen
      have H5 := Lib.hid hok2
      clear hlen hok2
      go_wp2
      (try simp only [Exit.inBlock, Exit.then]); refine bodyPost_ret (results_tmp2 hres.out _ _ _) rfl ?_
      exact ⟨⟨⟨#[]⟩, by rw [H.out]; rfl, by rw [H.out]; rfl⟩, rfl⟩
    | cons x T3 =>
      obtain ⟨n, v⟩ := x
      have hok := hok2
      simp only [okT, Bool.and_eq_true] at hok
      obtain ⟨⟨hn, hv⟩, hok3⟩ := hok
      have e1 : E.data.toList = flatT T1 ++ (n ++ 61 :: (v ++ 10 :: flatT T3)) := H1.out
      have e2 : E.data.toList = (flatT T1 ++ n ++ [61]) ++ (v ++ 10 :: flatT T3) := by rw [e1]; simp
      have hl : a + n.length + 1 + v.length + 1 + (flatT T3).length = 29709 := by
        have := HS.out; simp [flatT] at hlen; omega
      have hLn : E.data.toList.length = 29709 := by rw [Array.length_toList]; exact HS.out
      have c1 : ∀ j, a ≤ j → j < a + n.length → ∀ h : j < E.size, E[j] ≠ 61 := by
        intro j h1 h2 h
        obtain ⟨m, rfl⟩ : ∃ m, j = (flatT T1).length + m := ⟨j - a, by rw [← H3.out]; omega⟩
        have hm : m < n.length := by rw [← H3.out] at h2; omega
        rw [ba_get, at_pre e1 m (by omega) (by simpa using h), dif_pos hm]
        intro hx
        exact noB_get 61 n hn m hm (by rw [hx]; rfl)
      have c2 : ∀ h : a + n.length < E.size, E[a + n.length] = 61 := by
        intro h
        have := at_pre e1 n.length (Nat.le_refl _) (by rw [hLn, ← H3.out]; omega)
        rw [ba_get]
        simp only [← H3.out] at this
        rw [this, dif_neg (by omega)]
      have c3 : ∀ j, a + n.length ≤ j → j < a + n.length + 1 + v.length → ∀ h : j < E.size, E[j] ≠ 10 := by
        intro j h1 h2 h
        by_cases hj : j = a + n.length
        · subst hj; rw [c2]; decide
        · obtain ⟨m, rfl⟩ : ∃ m, j = (flatT T1 ++ n ++ [61]).length + m := ⟨j - (a + n.length + 1), by simp [← H3.out]; omega⟩
          have hm : m < v.length := by simp [← H3.out] at h2; omega
          rw [ba_get, at_pre e2 m (by omega) (by simpa using h), dif_pos hm]
          intro hx
          exact noB_get 10 v hv m hm (by rw [hx]; rfl)
      have c4 : ∀ h : a + n.length + 1 + v.length < E.size, E[a + n.length + 1 + v.length] = 10 := by
        intro h
        have := at_pre e2 v.length (Nat.le_refl _) (by simp [← H3.out]; omega)
        rw [ba_get]
        simp only [List.length_append, List.length_cons, List.length_nil, ← H3.out] at this
        rw [this, dif_neg (by omega)]
      have x1 : (E.extract a (a + n.length)).data.toList = n := by rw [H3.out]; exact ext_pre e1
      have x2 : (E.extract (a + n.length + 1) (a + n.length + 1 + v.length)).data.toList = v := by
        have := ext_pre e2
        simp only [List.length_append, List.length_cons, List.length_nil, ← H3.out] at this
        exact this
      have C1 := Lib.hid c1
      have C2 := Lib.hid c2
      have C3 := Lib.hid c3
      have C4 := Lib.hid c4
      have X1 := Lib.hid x1
      have X2 := Lib.hid x2
      have H4 := Lib.hid hlen
      have H5 := Lib.hid hok2
      have H6 := Lib.hid e1
      have H7 := Lib.hid e2
      have H8 := Lib.hid hLn
      have H9 := Lib.hid hl
      have hlt : a < 29709 := by omega
      have hN1 := hn
      clear c1 c2 c3 c4 x1 x2 hlen hok2 e1 e2 hLn hok3 hn hv hN1
      clear hl
      obtain ⟨b, hb⟩ : ∃ b, b = a + n.length := ⟨_, rfl⟩
      obtain ⟨c, hc⟩ : ∃ c, c = b + 1 + v.length := ⟨_, rfl⟩
      have HB := Lib.hid hb
      have HC := Lib.hid hc
      clear hb hc
      have hbb : b < 29709 := by have := HB.out; have := HC.out; have := H9.out; omega
      have hcc : c < 29709 := by have := HB.out; have := HC.out; have := H9.out; omega
      have hbc : b < c := by have := HC.out; omega
      have hab : a ≤ b := by have := HB.out; omega
      go_wp2
      go_loop [5] (fun j => ∃ k : Nat, a ≤ k ∧ k ≤ b ∧ j = .int .i64 k) (fun j => b - (intOf j).toNat)
      case atStart => exact ⟨a, Nat.le_refl _, by have := HB.out; omega, rfl⟩
      case round =>
        obtain ⟨k, hk1, hk2, rfl⟩ := hrel
        have hks : k < E.size := by have := HS.out; have := HB.out; have := HC.out; have := H9.out; omega
        by_cases hkb : k < b
        · have hx : ((E[k].toNat : Int) != 61) = true := by
            have := C1.out k hk1 (by have := HB.out; omega) hks
            simp only [bne_iff_ne, ne_eq]
            intro h
            exact this (UInt8.toNat_inj.mp (by have : E[k].toNat = 61 := by omega
                                               exact this))
          go_wp2
          go_round
          case rel => exact ⟨k + 1, by omega, by omega, by go_num⟩
          case measure => simp [intOf]; omega
        · have hkb' : k = b := by omega
          subst hkb'
          have hx : ((E[k].toNat : Int) != 61) = false := by
            have hh := HB.out
            have : E[k] = 61 := by
              have := C2.out (by omega)
              simp only [← hh] at this
              exact this
            rw [this]; rfl
          go_wp2
          go_loop [6] (fun j => ∃ q : Nat, k ≤ q ∧ q ≤ c ∧ j = .int .i64 q) (fun j => c - (intOf j).toNat)
          case atStart => exact ⟨k, Nat.le_refl _, by omega, rfl⟩
          case round =>
            obtain ⟨q, hq1, hq2, rfl⟩ := hrel
            have hqs : q < E.size := by have := HS.out; omega
            by_cases hqc : q < c
            · have hy : ((E[q].toNat : Int) != 10) = true := by
                have := C3.out q (by have := HB.out; omega) (by have := HC.out; have := HB.out; omega) hqs
                simp only [bne_iff_ne, ne_eq]
                intro h
                exact this (UInt8.toNat_inj.mp (by have : E[q].toNat = 10 := by omega
                                                   exact this))
              go_wp2
              go_round
              case rel => exact ⟨q + 1, by omega, by omega, by go_num⟩
              case measure => simp [intOf]; omega
            · have hqc' : q = c := by omega
              subst hqc'
              have hy : ((E[q].toNat : Int) != 10) = false := by
                have : E[q] = 10 := by
                  have := C4.out (by have := HC.out; have := HB.out; omega)
                  simp only [← HB.out, ← HC.out] at this
                  exact this
                rw [this]; rfl
              have hex : k < E.size := hks
              have HEX := Lib.hid hex
              clear hex
              have hsz : k ≤ E.size := by omega
              have hsq : q ≤ E.size := by omega
              by_cases hnm : n = s.data.toList
              · have hbe : ((E.extract a k).toList == s.toList) = true := by
                  rw [Go.ByteArray.toList_eq, Go.ByteArray.toList_eq, HB.out, X1.out, hnm]; exact beq_self_eq_true _
                have HN := Lib.hid hnm
                clear hnm
                go_wp2
                (try simp only [Exit.inBlock, Exit.then]); refine bodyPost_ret (results_tmp2 hres.out _ _ _) rfl ?_
                refine ⟨⟨E.extract (k + 1) q, ?_, ?_⟩, rfl⟩
                · rw [HC.out, HB.out, X2.out, H.out, findT, if_pos HN.out]; rfl
                · rw [H.out, findT, if_pos HN.out]; rfl
              · have hbe : ((E.extract a k).toList == s.toList) = false := by
                  rw [Go.ByteArray.toList_eq, Go.ByteArray.toList_eq, HB.out, X1.out]; exact beq_eq_false_iff_ne.mpr hnm
                have HN := Lib.hid hnm
                clear hnm
                go_wp2
                refine ⟨⟨T1 ++ [(n, v)], T3, ?_, ?_, ?_⟩, ?_⟩
                · rw [H2.out]; simp
                · rw [H.out, findT, if_neg HN.out]
                · have e : (flatT (T1 ++ [(n, v)])).length = q + 1 := by
                    have := H3.out; have := HB.out; have := HC.out
                    rw [flatT_append, List.length_append]; simp [flatT]; omega
                  rw [e]; rfl
                · simp [intOf]; omega

/-- zzFind: for every name the first entry's value, and whether there is one. -/
theorem find_any (s : ByteArray) (w : World) (hs : s.size ≤ 9223372036854775807) :
    Calls Try.prog 55 #[.string s] w (FindPost s.data.toList tabT w) := by
  refine calls_of_wp Try.func55 f55_abs ?_
  exact find_core Try.f55 rfl zzEnt tabT zzEnt_size flat_eq tab_ok s w hs
end Go.Proofs.Ytkogokjlpgnmlaa
