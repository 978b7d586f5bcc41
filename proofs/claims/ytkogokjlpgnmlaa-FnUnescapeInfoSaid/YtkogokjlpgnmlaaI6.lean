/- FnUnescapeInfo: is there an ampersand; are all bytes plain. -/
import Derived.Test.YtkogokjlpgnmlaaI5
import Derived.Test.YtkogokjlpgnmlaaA1
set_option linter.unusedVariables false
set_option linter.unusedSimpArgs false
namespace Go.Proofs.Ytkogokjlpgnmlaa
open Go.RowKit

def plainB : Bs → Bool
  | [] => true
  | c :: r => if 128 ≤ c.toNat then false else plainB r

set_option maxRecDepth 100000 in
set_option maxHeartbeats 2000000 in
theorem plain15 (s : ByteArray) (w : World) (hs : s.size ≤ 9223372036854775807) : Calls Try.prog 15 #[.string s] w fun e w' => e = .returned (.bool (plainB s.data.toList)) ∧ w = w' := by
  obtain ⟨r, hr⟩ : ∃ r, r = plainB s.data.toList := ⟨_, rfl⟩
  rw [← hr]
  have HR0 := Lib.hid hr
  clear hr
  go_enter Try.func15, Try.ntmps15
  go_wp2
  go_loop [3] (fun i => ∃ k : Nat, k ≤ s.size ∧ i = .int .i64 k ∧ Hid (r = plainB (s.data.toList.drop k))) (fun i => s.size - (intOf i).toNat)
  case atStart => exact ⟨0, Nat.zero_le _, rfl, HR0.out⟩
  case round =>
    obtain ⟨k, hk, rfl, HR⟩ := hrel
    by_cases hlt : k < s.size
    · have H : Hid (r = if 128 ≤ s[k].toNat then false else plainB (s.data.toList.drop (k + 1))) := by show _ = _; rw [HR.out, drop_get s k hlt, plainB]
      clear HR
      by_cases hc : 128 ≤ s[k].toNat
      · have hb : (128 : Int) ≤ (s[k].toNat : Int) := by omega
        have H2 : Hid (r = false) := by show _ = _; rw [H.out, if_pos hc]
        clear hc H
        go_wp2
        go_ret
        rw [H2.out]
        exact ⟨rfl, rfl⟩
      · have hb : ¬ (128 : Int) ≤ (s[k].toNat : Int) := by omega
        have H2 : Hid (r = plainB (s.data.toList.drop (k + 1))) := by show _ = _; rw [H.out, if_neg hc]
        clear hc H
        go_wp2
        go_round
        case rel => exact ⟨k + 1, by omega, by go_num, H2⟩
        case measure => simp [intOf]; omega
    · have he : s.data.toList.drop k = [] := List.drop_eq_nil_of_le (by simp; omega)
      have H : Hid (r = true) := by show _ = _; rw [HR.out, he]; rfl
      clear he HR
      go_wp2
      go_ret
      rw [H.out]
      exact ⟨rfl, rfl⟩

set_option maxRecDepth 100000 in
set_option maxHeartbeats 2000000 in
theorem amp16 (A : Option Addr) (b off n c : Nat) (l : Bs) (w : World) (hA : 0 < n → A = some ⟨b, off, none⟩) (hn : l.length = n) (hc : n ≤ 9223372036854775807) (hR : RdO w b off l) :
    Calls Try.prog 16 #[.slice A n c] w fun e w' => e = .returned (.bool (memF 38 l)) ∧ w = w' := by
  obtain ⟨r, hr⟩ : ∃ r, r = memF 38 l := ⟨_, rfl⟩
  rw [← hr]
  have HR0 := Lib.hid hr
  have HA := Lib.hid hA
  have HN := Lib.hid hn
  have HR := Lib.hid hR
  clear hr hA hn hR
  go_enter Try.func16, Try.ntmps16
  go_wp2
  go_loopg [7] n (fun q v wr => ∃ k : Nat, v = .int .i64 k ∧ q + k = n ∧ k ≤ n ∧ w = wr ∧ Hid (r = memF 38 (l.drop k)))
  case atStart => exact ⟨0, rfl, by omega, Nat.zero_le _, rfl, HR0.out⟩
  case round =>
    obtain ⟨k, rfl, hq, hkn, rfl, HI⟩ := hrel
    have HQ := Lib.hid hq
    clear hq
    by_cases hlt : k < n
    · obtain rfl := HA.out (by omega)
      obtain ⟨x, hx⟩ : ∃ x, x = l.getD k 0 := ⟨_, rfl⟩
      have hck : w.cell? ⟨b, off + k, none⟩ = some (.int .u8 x.toNat) := by rw [hx]; exact HR.out k (by rw [HN.out]; exact hlt)
      have hst : r = if 38 = x then true else memF 38 (l.drop (k + 1)) := by rw [HI.out, getD_drop_cons l k (by rw [HN.out]; exact hlt), memF, hx]
      by_cases h38 : x = 38
      · have hb : ((x.toNat : Int) == 38) = true := by rw [h38]; rfl
        have H : Hid (r = true) := by show _ = _; rw [hst, if_pos h38.symm]
        clear hst h38 hx HI
        go_wp2_with fail
        go_ret
        rw [H.out]
        exact ⟨rfl, rfl⟩
      · have hb : ((x.toNat : Int) == 38) = false := byte_ne (by decide) h38
        have H : Hid (r = memF 38 (l.drop (k + 1))) := by show _ = _; rw [hst, if_neg (fun h => h38 h.symm)]
        clear hst h38 hx HI
        go_wp2_with fail
        go_roundg (gk - 1)
        case measure => have := HQ.out; omega
        case rel => exact ⟨k + 1, by go_num, by have := HQ.out; omega, by omega, rfl, H⟩
    · have hd : l.drop k = [] := List.drop_eq_nil_of_le (by rw [HN.out]; omega)
      have H : Hid (r = false) := by show _ = _; rw [HI.out, hd]; rfl
      clear hd HI
      go_wp2_with fail
      go_ret
      rw [H.out]
      exact ⟨rfl, rfl⟩

set_option maxRecDepth 100000 in
set_option maxHeartbeats 2000000 in
theorem amp44 (A : Option Addr) (b off n c : Nat) (l : Bs) (w : World) (hA : 0 < n → A = some ⟨b, off, none⟩) (hn : l.length = n) (hc : n ≤ 9223372036854775807) (hR : RdO w b off l) :
    Calls Try.prog 44 #[.slice A n c] w fun e w' => e = .returned (.bool (memF 38 l)) ∧ w = w' := by
  obtain ⟨r, hr⟩ : ∃ r, r = memF 38 l := ⟨_, rfl⟩
  rw [← hr]
  have HR0 := Lib.hid hr
  have HA := Lib.hid hA
  have HN := Lib.hid hn
  have HR := Lib.hid hR
  clear hr hA hn hR
  go_enter Try.func44, Try.ntmps44
  go_wp2
  go_loopg [7] n (fun q v wr => ∃ k : Nat, v = .int .i64 k ∧ q + k = n ∧ k ≤ n ∧ w = wr ∧ Hid (r = memF 38 (l.drop k)))
  case atStart => exact ⟨0, rfl, by omega, Nat.zero_le _, rfl, HR0.out⟩
  case round =>
    obtain ⟨k, rfl, hq, hkn, rfl, HI⟩ := hrel
    have HQ := Lib.hid hq
    clear hq
    by_cases hlt : k < n
    · obtain rfl := HA.out (by omega)
      obtain ⟨x, hx⟩ : ∃ x, x = l.getD k 0 := ⟨_, rfl⟩
      have hck : w.cell? ⟨b, off + k, none⟩ = some (.int .u8 x.toNat) := by rw [hx]; exact HR.out k (by rw [HN.out]; exact hlt)
      have hst : r = if 38 = x then true else memF 38 (l.drop (k + 1)) := by rw [HI.out, getD_drop_cons l k (by rw [HN.out]; exact hlt), memF, hx]
      by_cases h38 : x = 38
      · have hb : ((x.toNat : Int) == 38) = true := by rw [h38]; rfl
        have H : Hid (r = true) := by show _ = _; rw [hst, if_pos h38.symm]
        clear hst h38 hx HI
        go_wp2_with fail
        go_ret
        rw [H.out]
        exact ⟨rfl, rfl⟩
      · have hb : ((x.toNat : Int) == 38) = false := byte_ne (by decide) h38
        have H : Hid (r = memF 38 (l.drop (k + 1))) := by show _ = _; rw [hst, if_neg (fun h => h38 h.symm)]
        clear hst h38 hx HI
        go_wp2_with fail
        go_roundg (gk - 1)
        case measure => have := HQ.out; omega
        case rel => exact ⟨k + 1, by go_num, by have := HQ.out; omega, by omega, rfl, H⟩
    · have hd : l.drop k = [] := List.drop_eq_nil_of_le (by rw [HN.out]; omega)
      have H : Hid (r = false) := by show _ = _; rw [HI.out, hd]; rfl
      clear hd HI
      go_wp2_with fail
      go_ret
      rw [H.out]
      exact ⟨rfl, rfl⟩
end Go.Proofs.Ytkogokjlpgnmlaa
