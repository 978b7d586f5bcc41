/- nodeIsEntity. -/
import Derived.Test.YtkogokjlpgnmlaaG4
import Derived.Test.YtkogokjlpgnmlaaU4
set_option linter.unusedVariables false
set_option linter.unusedSimpArgs false
namespace Go.Proofs.Ytkogokjlpgnmlaa
open Go.RowKit

/-- The bytes of block g, from its head on. -/
def Rd (w : World) (g : Nat) (l : Bs) : Prop := ∀ i, i < l.length → w.cell? ⟨g, i, none⟩ = some (.int .u8 (l.getD i 0).toNat)
theorem conv_rd (w : World) (g : Nat) (l : Bs) (hB : Rd w g l) (off k cap : Nat) (h : off + k ≤ l.length) :
    (convert 29 9 (.slice (some ⟨g, off, none⟩) k cap)).run Try.prog w = .ok (.string ⟨((l.drop off).take k).toArray⟩) w := by
  have hk : ((l.drop off).take k).length = k := by simp; omega
  have := run_convert_bytes_back (P := Try.prog) w 29 9 5 ⟨g, off, none⟩ cap ((l.drop off).take k) Try.underlying29 Try.underlying5 Try.underlying9 (fun j hj => by
    rw [hk] at hj
    rw [add_pl g off j, hB (off + j) (by omega)]
    simp [List.getD_eq_getElem?_getD, List.getElem?_eq_getElem (show off + j < l.length by omega)])
  rw [hk] at this
  exact this

noncomputable def nieF (nm : Bs) : Bs → Nat → Option Nat
  | [], _ => none
  | c :: r, k => if c = 59 ∧ isEnt (nm ++ [c]) = true then some k else if isAln c = true ∨ c = 38 ∨ c = 35 then nieF (nm ++ [c]) r (k + 1) else none
/-- Where the entity that begins at e ends. -/
noncomputable def nodeT (l : Bs) (e : Nat) : Option Nat := if l.getD e 0 = 38 then nieF [] (l.drop (e + 1)) (e + 1) else none
def NodePost (w : World) (r : Option Nat) (e : Ending) (w' : World) : Prop :=
  ∃ pos : Int, e = .returned (.tuple #[.bool r.isSome, .int .i64 pos]) ∧ (∀ k, r = some k → pos = k) ∧ w = w'

theorem take_succ_getD (l : Bs) (e k : Nat) (h1 : e ≤ k) (h2 : k < l.length) : (l.drop e).take (k - e) ++ [l.getD k 0] = (l.drop e).take (k + 1 - e) := by
  have : k + 1 - e = (k - e) + 1 := by omega
  rw [this, List.take_add_one]
  congr 1
  rw [List.getElem?_drop, show e + (k - e) = k by omega]
  simp [List.getD_eq_getElem?_getD, List.getElem?_eq_getElem h2]

theorem byte_ne {c : UInt8} {k : Nat} (hk : k < 256) (h : c ≠ UInt8.ofNat k) : ((c.toNat : Int) == (k : Int)) = false := by
  rw [Bool.eq_false_iff]
  intro h'
  exact h (eq_of_int hk h')

theorem byte_bne {c : UInt8} {k : Nat} (hk : k < 256) (h : c ≠ UInt8.ofNat k) : ((c.toNat : Int) != (k : Int)) = true := by
  rw [bne, byte_ne hk h]
  rfl

set_option maxRecDepth 100000 in
set_option maxHeartbeats 8000000 in
theorem node_any (g n c e : Nat) (l : Bs) (w : World) (hn : l.length = n) (hnc : n ≤ c) (hc : c ≤ 9223372036854775807) (he : e < n) (hB : Rd w g l) :
    Calls Try.prog 51 #[.slice (some ⟨g, 0, none⟩) n c, .int .i64 e] w (NodePost w (nodeT l e)) := by
  have hcell := hB e (by omega)
  obtain ⟨r, hr⟩ : ∃ r, r = nodeT l e := ⟨_, rfl⟩
  rw [← hr]
  unfold nodeT at hr
  obtain ⟨x, hx⟩ : ∃ x, x = l.getD e 0 := ⟨_, rfl⟩
  rw [← hx] at hcell hr
  have HB := Lib.hid hB
  have HN := Lib.hid hn
  have HX := Lib.hid hx
  clear hB hn hx
  by_cases h38 : x = 38
  · rw [if_pos h38] at hr
    have hb1 : ((x.toNat : Int) == 38) = true := by rw [h38]; rfl
    have HR0 := Lib.hid hr
    clear hr h38
    go_enter Try.func51, Try.ntmps51
    go_wp2
    go_loopg [4, 5] (n - e) (fun q b i wr => ∃ k : Nat, b = .bool false ∧ i = .int .i64 k ∧ q + k = n + 1 ∧ e + 1 ≤ k ∧ k ≤ n ∧ w = wr ∧ Hid (r = nieF ((l.drop (e + 1)).take (k - (e + 1))) (l.drop k) k))
    case atStart => exact ⟨e + 1, rfl, by go_num, by omega, Nat.le_refl _, by omega, rfl, by show _ = _; rw [HR0.out]; simp⟩
    case round =>
      obtain ⟨k, rfl, rfl, hq, hk1, hkn, rfl, HR⟩ := hrel
      have HQ := Lib.hid hq
      clear hq
      by_cases hlt : k < n
      · obtain ⟨ch, hch⟩ : ∃ ch, ch = l.getD k 0 := ⟨_, rfl⟩
        have hck : w.cell? ⟨g, k, none⟩ = some (.int .u8 ch.toNat) := by rw [hch]; exact HB.out k (by rw [HN.out]; exact hlt)
        obtain ⟨nm, hnm⟩ : ∃ nm, nm = (l.drop (e + 1)).take (k + 1 - (e + 1)) := ⟨_, rfl⟩
        have hst : r = if ch = 59 ∧ isEnt nm = true then some k else if isAln ch = true ∨ ch = 38 ∨ ch = 35 then nieF nm (l.drop (k + 1)) (k + 1) else none := by
          rw [HR.out, getD_drop_cons l k (by rw [HN.out]; exact hlt), nieF, take_succ_getD l (e + 1) k hk1 (by rw [HN.out]; exact hlt), hch, hnm]
        have hnl : nm.length ≤ 9223372036854775807 := by rw [hnm]; simp; omega
        have hcv : (convert 29 9 (.slice (some ⟨g, e + 1, none⟩) (k - e) (c - (e + 1)))).run Try.prog w = .ok (.string ⟨nm.toArray⟩) w := by
          rw [hnm, Nat.add_sub_add_right]
          exact conv_rd w g l HB.out (e + 1) (k - e) _ (by rw [HN.out]; omega)
        have ce : Calls Try.prog 56 #[.string ⟨nm.toArray⟩] w fun e w' => e = .returned (.bool (isEnt nm)) ∧ w = w' := by
          have := ent_any ⟨nm.toArray⟩ w (by simpa [ByteArray.size] using hnl)
          simpa using this
        have CA := Lib.hid (aln_any ch w)
        have HST := Lib.hid hst
        have HNM := Lib.hid hnm
        have CE := Lib.hid ce
        clear hst hnm ce hnl HR
        obtain ⟨al, hal⟩ : ∃ al, al = isAln ch := ⟨_, rfl⟩
        rw [← hal] at CA HST
        obtain ⟨en, hen⟩ : ∃ en, en = isEnt nm := ⟨_, rfl⟩
        rw [← hen] at CE HST
        clear hal hen hch
        have hgo : al = true ∨ ch = 38 ∨ ch = 35 → (ch = 59 ∧ en = true → False) → Hid (r = nieF nm (l.drop (k + 1)) (k + 1)) := fun h1 h2 => by
          show _ = _
          rw [HST.out, if_neg h2, if_pos h1]
        have hno : (al = true ∨ ch = 38 ∨ ch = 35 → False) → (ch = 59 ∧ en = true → False) → Hid (r = none) := fun h1 h2 => by
          show _ = _
          rw [HST.out, if_neg h2, if_neg h1]
        have hyes : ch = 59 → en = true → Hid (r = some k) := fun h1 h2 => by
          show _ = _
          rw [HST.out, if_pos ⟨h1, h2⟩]
        have HGO := Lib.hid hgo
        have HNO := Lib.hid hno
        have HYES := Lib.hid hyes
        clear hgo hno hyes HST
        by_cases h59 : ch = 59
        · have b59 : ((ch.toNat : Int) == 59) = true := by rw [h59]; rfl
          cases en with
          | true =>
            have HR := HYES.out h59 rfl
            clear h59
            go_wp2_with (first | (go_at_call 56; refine CE.out.mono ?_; rintro e w' ⟨rfl, rfl⟩) | (go_at_call 57; refine CA.out.mono ?_; rintro e w' ⟨rfl, rfl⟩))
            go_ret2
            rw [HR.out]
            exact ⟨_, rfl, by simp, rfl⟩
          | false =>
            have b38 : ((ch.toNat : Int) != 38) = true := by rw [h59]; rfl
            have b35 : ((ch.toNat : Int) != 35) = true := by rw [h59]; rfl
            cases al with
            | true =>
              have HR := HGO.out (Or.inl rfl) (fun h => by cases h.2)
              clear h59
              go_wp2_with (first | (go_at_call 56; refine CE.out.mono ?_; rintro e w' ⟨rfl, rfl⟩) | (go_at_call 57; refine CA.out.mono ?_; rintro e w' ⟨rfl, rfl⟩))
              go_roundg (gk - 1)
              case measure => have := HQ.out; omega
              case rel => exact ⟨k + 1, rfl, by go_num, by have := HQ.out; omega, by omega, by omega, rfl, by rw [← HNM.out]; exact HR⟩
            | false =>
              have HR := HNO.out (fun h => by rcases h with h | h | h <;> first | exact absurd (h59.symm.trans h) (by decide) | exact absurd h (by decide)) (fun h => by cases h.2)
              clear h59
              go_wp2_with (first | (go_at_call 56; refine CE.out.mono ?_; rintro e w' ⟨rfl, rfl⟩) | (go_at_call 57; refine CA.out.mono ?_; rintro e w' ⟨rfl, rfl⟩))
              go_ret2
              rw [HR.out]
              exact ⟨_, rfl, by simp, rfl⟩
        · have b59 : ((ch.toNat : Int) == 59) = false := byte_ne (by decide) h59
          by_cases h38 : ch = 38
          · have b38 : ((ch.toNat : Int) != 38) = false := by rw [h38]; rfl
            have HR := HGO.out (Or.inr (Or.inl h38)) (fun h => h59 h.1)
            clear h59 h38
            cases al with
            | true =>
              go_wp2_with (first | (go_at_call 57; refine CA.out.mono ?_; rintro e w' ⟨rfl, rfl⟩))
              go_roundg (gk - 1)
              case measure => have := HQ.out; omega
              case rel => exact ⟨k + 1, rfl, by go_num, by have := HQ.out; omega, by omega, by omega, rfl, by rw [← HNM.out]; exact HR⟩
            | false =>
              go_wp2_with (first | (go_at_call 57; refine CA.out.mono ?_; rintro e w' ⟨rfl, rfl⟩))
              go_roundg (gk - 1)
              case measure => have := HQ.out; omega
              case rel => exact ⟨k + 1, rfl, by go_num, by have := HQ.out; omega, by omega, by omega, rfl, by rw [← HNM.out]; exact HR⟩
          · have b38 : ((ch.toNat : Int) != 38) = true := byte_bne (k := 38) (by decide) h38
            by_cases h35 : ch = 35
            · have b35 : ((ch.toNat : Int) != 35) = false := by rw [h35]; rfl
              have HR := HGO.out (Or.inr (Or.inr h35)) (fun h => h59 h.1)
              clear h59 h38 h35
              cases al with
              | true =>
                go_wp2_with (first | (go_at_call 57; refine CA.out.mono ?_; rintro e w' ⟨rfl, rfl⟩))
                go_roundg (gk - 1)
                case measure => have := HQ.out; omega
                case rel => exact ⟨k + 1, rfl, by go_num, by have := HQ.out; omega, by omega, by omega, rfl, by rw [← HNM.out]; exact HR⟩
              | false =>
                go_wp2_with (first | (go_at_call 57; refine CA.out.mono ?_; rintro e w' ⟨rfl, rfl⟩))
                go_roundg (gk - 1)
                case measure => have := HQ.out; omega
                case rel => exact ⟨k + 1, rfl, by go_num, by have := HQ.out; omega, by omega, by omega, rfl, by rw [← HNM.out]; exact HR⟩
            · have b35 : ((ch.toNat : Int) != 35) = true := byte_bne (k := 35) (by decide) h35
              cases al with
              | true =>
                have HR := HGO.out (Or.inl rfl) (fun h => h59 h.1)
                clear h59 h38 h35
                go_wp2_with (first | (go_at_call 57; refine CA.out.mono ?_; rintro e w' ⟨rfl, rfl⟩))
                go_roundg (gk - 1)
                case measure => have := HQ.out; omega
                case rel => exact ⟨k + 1, rfl, by go_num, by have := HQ.out; omega, by omega, by omega, rfl, by rw [← HNM.out]; exact HR⟩
              | false =>
                have HR := HNO.out (fun h => by rcases h with h | h | h <;> first | exact h38 h | exact h35 h | exact absurd h (by decide)) (fun h => h59 h.1)
                clear h59 h38 h35
                go_wp2_with (first | (go_at_call 57; refine CA.out.mono ?_; rintro e w' ⟨rfl, rfl⟩))
                go_ret2
                rw [HR.out]
                exact ⟨_, rfl, by simp, rfl⟩
      · have hk : k = n := by omega
        have hd : l.drop k = [] := List.drop_eq_nil_of_le (by rw [HN.out]; omega)
        have HR1 : Hid (r = none) := by show _ = _; rw [HR.out, hd]; rfl
        clear hd hk
        clear HR
        go_wp2_with fail
        go_ret2
        rw [HR1.out]
        exact ⟨_, rfl, by simp, rfl⟩
  · rw [if_neg h38] at hr
    have hb1 : ((x.toNat : Int) == 38) = false := byte_ne (by decide) h38
    clear h38
    subst hr
    go_enter Try.func51, Try.ntmps51
    go_wp2
    go_ret2
    exact ⟨_, rfl, by simp, rfl⟩
end Go.Proofs.Ytkogokjlpgnmlaa
