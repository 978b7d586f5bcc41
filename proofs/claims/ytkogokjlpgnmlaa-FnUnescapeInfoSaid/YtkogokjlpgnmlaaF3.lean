/- entityPart: numbers and texts. -/
import Derived.Test.YtkogokjlpgnmlaaF2
set_option linter.unusedVariables false
set_option linter.unusedSimpArgs false
namespace Go.Proofs.Ytkogokjlpgnmlaa
open Go.RowKit

theorem ret_part {w w' : World} {a b : ByteArray} {r : Bs × Bs × Bool} (ha : a = ⟨r.1.toArray⟩) (hb : b = ⟨r.2.1.toArray⟩) (hw : Below w.heap.size w w') {c : Bool} (hc : c = r.2.2) : PartPost w r (.returned (.tuple #[.string a, .string b, .bool c])) w' :=
  ⟨by rw [ha, hb, hc], hw⟩
theorem bytes_runeB (n : Int) : Utf8.encode (IntKind.i32.wrap n) = ⟨(runeB n).toArray⟩ := rfl
set_option maxRecDepth 100000 in
set_option maxHeartbeats 1000000 in
theorem part_num (k n : Int) (t : ByteArray) (w : World) (hk : k = 2 ∨ k = 3) :
    Calls Try.prog 8 #[.agg #[.int .i64 k, .int .i64 n, .string t]] w (PartPost w (if isCh n then ((if k = 2 then [38, 35] else [38, 35, 120]) ++ digs (if k = 2 then 10 else 16) (n.toNat + 1) n.toNat ++ [59], runeB n, true) else ([], [], false))) := by
  by_cases hc : isCh n = true
  · rw [if_pos hc]
    have hn : 0 ≤ n ∧ n ≤ 1114111 := by
      have := of_decide_eq_true hc
      omega
    obtain ⟨N, rfl⟩ : ∃ N : Nat, n = N := ⟨n.toNat, by omega⟩
    have cd : ∀ base : Nat, base = 10 ∨ base = 16 → ∀ W, Calls Try.prog 22 #[.int .i64 N, .int .i64 base] W fun e w' => e = .returned (.string ⟨(digs base (N + 1) N).toArray⟩) ∧ ∃ q, w' = W.drewN q := by
      intro base hb W
      exact dec_any (N + 1) (by omega) N base W (by omega) (by omega) (by omega) (by omega)
    have hch : ∀ W, Calls Try.prog 21 #[.int .i64 N] W fun e w' => e = .returned (.bool true) ∧ W = w' := by
      intro W
      have := isCh_any N W
      rw [hc] at this
      exact this
    have HCH := Lib.hid hch
    have hw : IntKind.i32.wrap (N : Int) = (N : Int) := by simp [IntKind.wrap, IntKind.bits, IntKind.signed]; omega
    have hrb : Utf8.encode (N : Int) = ⟨(runeB N).toArray⟩ := by rw [← bytes_runeB, hw]
    have HRB := Lib.hid hrb
    have HW := Lib.hid hw
    rcases hk with rfl | rfl
    · have c10 := Lib.hid (cd 10 (by omega))
      obtain ⟨ds, hds⟩ : ∃ ds, ds = digs 10 (N + 1) N := ⟨_, rfl⟩
      have hif : ((if (2 : Int) = 2 then [38, 35] else [38, 35, 120]) ++ digs (if (2 : Int) = 2 then 10 else 16) ((N : Int).toNat + 1) (N : Int).toNat ++ [59], runeB (N : Int), true) = (([38, 35] ++ ds ++ [59] : Bs), runeB (N : Int), true) := by
        rw [hds, Int.toNat_natCast]; rfl
      rw [hif]
      rw [← hds] at c10
      have hlen : ds.length ≤ 1114112 := by rw [hds]; exact Nat.le_trans (digs_len _ _ _) (by omega)
      have HDS := Lib.hid hds
      clear hds cd hch hc hif hrb hw
      go_enter Try.func8, Try.ntmps8
      go_wp2_with (go_at_call 21; refine (HCH.out _).mono ?_; rintro e w' ⟨rfl, rfl⟩)
      have hw2 := HW.out
      go_quiet ((go_at_call 22; exact Calls.quiet_of (c10.out _)))
      clear hw2
      go_wp2_with fail
      go_ret3
      refine ret_part ?_ ?_ ?_ rfl
      · show _ = (⟨([38, 35] ++ ds ++ [59] : Bs).toArray⟩ : ByteArray)
        apply ByteArray.ext
        simp
      · exact HRB.out
      · exact below_drewN ((Below.refl _ _).alloc (Nat.le_refl _) _) _
    · have c10 := Lib.hid (cd 16 (by omega))
      obtain ⟨ds, hds⟩ : ∃ ds, ds = digs 16 (N + 1) N := ⟨_, rfl⟩
      have hif : ((if (3 : Int) = 2 then [38, 35] else [38, 35, 120]) ++ digs (if (3 : Int) = 2 then 10 else 16) ((N : Int).toNat + 1) (N : Int).toNat ++ [59], runeB (N : Int), true) = (([38, 35, 120] ++ ds ++ [59] : Bs), runeB (N : Int), true) := by
        rw [hds, Int.toNat_natCast]; rfl
      rw [hif]
      rw [← hds] at c10
      have hlen : ds.length ≤ 1114112 := by rw [hds]; exact Nat.le_trans (digs_len _ _ _) (by omega)
      have HDS := Lib.hid hds
      clear hds cd hch hc hif hrb hw
      go_enter Try.func8, Try.ntmps8
      go_wp2_with (go_at_call 21; refine (HCH.out _).mono ?_; rintro e w' ⟨rfl, rfl⟩)
      have hw2 := HW.out
      go_quiet ((go_at_call 22; exact Calls.quiet_of (c10.out _)))
      clear hw2
      go_wp2_with fail
      go_ret3
      refine ret_part ?_ ?_ ?_ rfl
      · show _ = (⟨([38, 35, 120] ++ ds ++ [59] : Bs).toArray⟩ : ByteArray)
        apply ByteArray.ext
        simp
      · exact HRB.out
      · exact below_drewN ((Below.refl _ _).alloc (Nat.le_refl _) _) _
  · have hcf : isCh n = false := by simpa using hc
    rw [hcf]
    simp only [Bool.false_eq_true, if_false]
    have hch : ∀ W, Calls Try.prog 21 #[.int .i64 n] W fun e w' => e = .returned (.bool false) ∧ W = w' := by
      intro W
      have := isCh_any n W
      rw [hcf] at this
      exact this
    have HCH := Lib.hid hch
    clear hch hc hcf
    rcases hk with rfl | rfl
    all_goals
      go_enter Try.func8, Try.ntmps8
      go_wp2_with (go_at_call 21; refine (HCH.out _).mono ?_; rintro e w' ⟨rfl, rfl⟩)
      go_ret3
      exact ⟨rfl, (Below.refl _ _).alloc (Nat.le_refl _) _⟩
end Go.Proofs.Ytkogokjlpgnmlaa
