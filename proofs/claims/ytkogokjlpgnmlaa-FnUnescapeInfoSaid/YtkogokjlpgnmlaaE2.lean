/- zzEntity: the code points of a name. -/
import Derived.Test.YtkogokjlpgnmlaaE1
set_option linter.unusedVariables false
set_option linter.unusedSimpArgs false
namespace Go.Proofs.Ytkogokjlpgnmlaa
open Go.RowKit

def entDig (c : UInt8) : Int := if 97 ≤ (c.toNat : Int) then ((c.toNat : Int) - 97) % 256 + 10 else ((c.toNat : Int) - 48) % 256
def entFold : Bs → Int → Int → Bool → Int × Int
  | [], x, y, _ => (x, y)
  | c :: r, x, y, s =>
    if ((c.toNat : Int) == 44) = true then entFold r x y true
    else if s = true then entFold r x (wrap32 (wrap32 (16 * y) + entDig c)) s
    else entFold r (wrap32 (wrap32 (16 * x) + entDig c)) y s
/-- A name's code points. -/
noncomputable def entity (name : Bs) : Int × Int := entFold ((findT name tabT).getD []) 0 0 false

theorem entFold_range : ∀ (l : Bs) (x y : Int) (s : Bool), -2147483648 ≤ x → x ≤ 2147483647 → -2147483648 ≤ y → y ≤ 2147483647 →
    -2147483648 ≤ (entFold l x y s).1 ∧ (entFold l x y s).1 ≤ 2147483647 ∧ -2147483648 ≤ (entFold l x y s).2 ∧ (entFold l x y s).2 ≤ 2147483647
  | [], x, y, s, a, b, c, d => ⟨a, b, c, d⟩
  | ch :: r, x, y, s, a, b, c, d => by
    have w1 : ∀ z, -2147483648 ≤ wrap32 z ∧ wrap32 z ≤ 2147483647 := fun z => by unfold wrap32; omega
    unfold entFold
    split
    · exact entFold_range r x y true a b c d
    · split
      · exact entFold_range r x _ s a b (w1 _).1 (w1 _).2
      · exact entFold_range r _ y s (w1 _).1 (w1 _).2 c d
theorem entity_range (n : Bs) : -2147483648 ≤ (entity n).1 ∧ (entity n).1 ≤ 2147483647 ∧ -2147483648 ≤ (entity n).2 ∧ (entity n).2 ≤ 2147483647 :=
  entFold_range _ 0 0 false (by decide) (by decide) (by decide) (by decide)

def lenB : Bs → Nat
  | [] => 0
  | _ :: r => (lenB r).succ
theorem lenB_eq : ∀ l, lenB l = l.length
  | [] => rfl
  | _ :: r => by rw [lenB, lenB_eq r]; rfl
/-- How many bytes a rune has. -/
def encN (r : Int) : Nat := (Lib.encodeRuneZ r).length
theorem encN_eq (r : Int) : encN r = (encB r).length := by simp [encN, encB]
def chkT : List (Bs × Bs) → Bool
  | [] => true
  | (n, v) :: r => Nat.ble (lenB v) 20 && (match entFold v 0 0 false with
    | (x, y) => decide (x = 0) || bif decide (y = 0) then Nat.ble (encN x) (lenB n + 1) else Nat.ble (encN x + encN y) (lenB n + 1)) && chkT r
set_option maxRecDepth 1000000 in
theorem tab_chk : chkT tabT = true := by kernel_rfl
theorem chkT_find (name : Bs) : ∀ (T : List (Bs × Bs)), chkT T = true → ∀ v, findT name T = some v →
    v.length ≤ 20 ∧ ((entFold v 0 0 false).1 ≠ 0 → (encB (entFold v 0 0 false).1).length + (if (entFold v 0 0 false).2 = 0 then 0 else (encB (entFold v 0 0 false).2).length) ≤ name.length + 1)
  | [], _, v, h => by simp [findT] at h
  | (n, v0) :: r, hc, v, h => by
    simp only [chkT, Bool.and_eq_true] at hc
    obtain ⟨⟨h1, h2⟩, h3⟩ := hc
    rw [findT] at h
    split at h
    · rename_i hn
      obtain rfl := Option.some.inj h
      subst hn
      refine ⟨by rw [← lenB_eq]; exact Nat.le_of_ble_eq_true h1, fun hx => ?_⟩
      rw [Bool.or_eq_true] at h2
      rcases h2 with h2 | h2
      · exact absurd (of_decide_eq_true h2) hx
      · split
        · rename_i hy
          rw [decide_eq_true hy, cond_true] at h2
          rw [← encN_eq, ← lenB_eq n]
          exact Nat.le_of_ble_eq_true h2
        · rename_i hy
          rw [decide_eq_false hy, cond_false] at h2
          rw [← encN_eq, ← encN_eq, ← lenB_eq n]
          exact Nat.le_of_ble_eq_true h2
    · exact chkT_find name r h3 v h
theorem entity_le (n : Bs) (h : (entity n).1 ≠ 0) : (encB (entity n).1).length + (if (entity n).2 = 0 then 0 else (encB (entity n).2).length) ≤ n.length + 1 := by
  unfold entity at h ⊢
  cases hf : findT n tabT with
  | none => rw [hf] at h; exact absurd rfl h
  | some v => rw [hf] at h; exact (chkT_find n tabT tab_chk v hf).2 h
theorem find_short (n : Bs) : ((findT n tabT).getD []).length ≤ 20 := by
  cases hf : findT n tabT with
  | none => simp
  | some v => exact (chkT_find n tabT tab_chk v hf).1

theorem fold_step (v : ByteArray) (k : Nat) (h : k < v.size) (x y : Int) (s : Bool) :
    entFold (v.data.toList.drop k) x y s = if ((v[k].toNat : Int) == 44) = true then entFold (v.data.toList.drop (k + 1)) x y true
      else if s = true then entFold (v.data.toList.drop (k + 1)) x (wrap32 (wrap32 (16 * y) + entDig v[k])) s
      else entFold (v.data.toList.drop (k + 1)) (wrap32 (wrap32 (16 * x) + entDig v[k])) y s := by
  have : v.data.toList.drop k = v[k] :: v.data.toList.drop (k + 1) := by
    rw [List.drop_eq_getElem_cons (by simpa using h)]; rfl
  rw [this, entFold]

set_option maxRecDepth 100000 in
set_option maxHeartbeats 1000000 in
theorem entity_any (s : ByteArray) (w : World) (hs : s.size ≤ 9223372036854775807) :
    Calls Try.prog 49 #[.string s] w fun e w' => e = .returned (.tuple #[.int .i32 (entity s.data.toList).1, .int .i32 (entity s.data.toList).2]) ∧ w = w' := by
  have w1 : ∀ z, -2147483648 ≤ wrap32 z ∧ wrap32 z ≤ 2147483647 := fun z => by unfold wrap32; omega
  have W1 := Lib.hid w1
  clear w1
  go_enter Try.func49, Try.ntmps49
  go_wp2_with (go_at_call 55; refine (find_any s _ hs).mono ?_; rintro e w' ⟨⟨v, hv, rfl⟩, rfl⟩)
  have hvs : v.size ≤ 20 := by
    have := find_short s.data.toList
    rw [← hv, Array.length_toList] at this
    exact this
  have hE : entity s.data.toList = entFold v.data.toList 0 0 false := by rw [entity, hv]
  have HV := Lib.hid hv
  have HE := Lib.hid hE
  clear hv hE
  go_loop [2, 3, 6, 7] (fun x y sec i => ∃ (k : Nat) (x0 y0 : Int) (sc : Bool), k ≤ v.size ∧ i = .int .i64 k ∧ x = .int .i32 x0 ∧ y = .int .i32 y0 ∧ sec = .bool sc ∧ -2147483648 ≤ x0 ∧ x0 ≤ 2147483647 ∧ -2147483648 ≤ y0 ∧ y0 ≤ 2147483647 ∧ Hid (entity s.data.toList = entFold (v.data.toList.drop k) x0 y0 sc)) (fun _ _ _ i => v.size - (intOf i).toNat)
  case atStart => exact ⟨0, 0, 0, false, by omega, rfl, rfl, rfl, rfl, by omega, by omega, by omega, by omega, HE.out⟩
  case round =>
    obtain ⟨k, x0, y0, sc, hk, rfl, rfl, rfl, rfl, hx1, hx2, hy1, hy2, HR⟩ := hrel
    by_cases hlt : k < v.size
    · have HS := Lib.hid (HR.out.trans (fold_step v k hlt x0 y0 sc))
      by_cases h44 : ((v[k].toNat : Int) == 44) = true
      · go_wp2
        go_round
        case rel => exact ⟨k + 1, x0, y0, true, by omega, by go_num, rfl, rfl, rfl, hx1, hx2, hy1, hy2, by show _ = _; rw [HS.out, if_pos h44]⟩
        case measure => simp [intOf]; omega
      · have h44' : ((v[k].toNat : Int) == 44) = false := by simpa using h44
        have H44 := Lib.hid h44
        clear h44
        obtain ⟨d, hd⟩ : ∃ d, d = entDig v[k] := ⟨_, rfl⟩
        have HD := Lib.hid hd
        clear hd
        cases sc
        · by_cases h97 : 97 ≤ (v[k].toNat : Int)
          · go_wp2
            go_round
            case rel => exact ⟨k + 1, _, y0, false, by omega, by go_num, rfl, rfl, rfl, (W1.out _).1, (W1.out _).2, hy1, hy2, by show _ = _; rw [HS.out, if_neg H44.out, if_neg (by decide), entDig, if_pos h97]⟩
            case measure => simp [intOf]; omega
          · go_wp2
            go_round
            case rel => exact ⟨k + 1, _, y0, false, by omega, by go_num, rfl, rfl, rfl, (W1.out _).1, (W1.out _).2, hy1, hy2, by show _ = _; rw [HS.out, if_neg H44.out, if_neg (by decide), entDig, if_neg (by omega)]⟩
            case measure => simp [intOf]; omega
        · by_cases h97 : 97 ≤ (v[k].toNat : Int)
          · go_wp2
            go_round
            case rel => exact ⟨k + 1, x0, _, true, by omega, by go_num, rfl, rfl, rfl, hx1, hx2, (W1.out _).1, (W1.out _).2, by show _ = _; rw [HS.out, if_neg H44.out, if_pos rfl, entDig, if_pos h97]⟩
            case measure => simp [intOf]; omega
          · go_wp2
            go_round
            case rel => exact ⟨k + 1, x0, _, true, by omega, by go_num, rfl, rfl, rfl, hx1, hx2, (W1.out _).1, (W1.out _).2, by show _ = _; rw [HS.out, if_neg H44.out, if_pos rfl, entDig, if_neg (by omega)]⟩
            case measure => simp [intOf]; omega
    · have hk' : k = v.size := by omega
      have HK := Lib.hid hk'
      clear hk'
      go_wp2
      go_ret2
      have : v.data.toList.drop k = [] := by rw [HK.out]; exact List.drop_eq_nil_of_le (by simp)
      rw [HR.out, this]
      exact ⟨rfl, rfl⟩
end Go.Proofs.Ytkogokjlpgnmlaa
