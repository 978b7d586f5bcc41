/- What is written for a byte that is escaped; letters and digits; names of entities. -/
import Derived.Test.YtkogokjlpgnmlaaG3
set_option linter.unusedVariables false
set_option linter.unusedSimpArgs false
namespace Go.Proofs.Ytkogokjlpgnmlaa
open Go.RowKit

def EscPost (o : Bs) (w : World) (e : Ending) (w' : World) : Prop :=
  ∃ g cap, e = .returned (.slice (some ⟨g, 0, none⟩) o.length cap) ∧ SlB w' (.slice (some ⟨g, 0, none⟩) o.length cap) o ∧ Below w.heap.size w w' ∧ w.heap.size ≤ g

theorem esc_end (o : Bs) (w : World) (fr : Nat × Nat) (n : Nat) (hn : n = o.length) (hm : n ≤ maxLen) : EscPost o w (.returned (.slice (some ⟨w.heap.size, 0, none⟩) n n)) (w.alloc (.cells (cellsB o).toArray 5 fr)) := by
  subst hn
  have hh : (w.alloc (.cells (cellsB o).toArray 5 fr)).heap[w.heap.size]? = some (.cells (cellsB o).toArray 5 fr) := by
    show (w.heap.push _)[w.heap.size]? = _
    simp
  refine ⟨w.heap.size, o.length, rfl, Or.inr ⟨w.heap.size, o.length, rfl, Nat.le_refl _, hm, Lib.lt_of_heap hh, fun j x hj => ?_⟩, (Below.refl _ w).alloc (Nat.le_refl _) _, Nat.le_refl _⟩
  unfold World.cell?
  rw [hh]
  simpa using hj

set_option maxHeartbeats 1000000
theorem esc38 (w : World) : Calls Try.prog 50 #[.int .u8 38] w (EscPost [38, 97, 109, 112, 59] w) := by
  have hcv : ∀ (w : World) (C : Array Value) (n c : Nat), (convert 29 29 (.slice (some ⟨w.heap.size, 0, none⟩) n c)).run Try.prog (w.alloc (.cells C 5)) = .ok (.slice (some ⟨w.heap.size, 0, none⟩) n c) (w.alloc (.cells C 5 (C.size, C.size + 1))) := fun w C n c => Lib.run_convert_bytes_const w 29 5 C n c Try.underlying29 Try.underlying5
  go_enter Try.func50, Try.ntmps50
  go_wp2
  go_ret
  exact esc_end _ w _ _ rfl (by unfold maxLen; decide)
theorem esc60 (w : World) : Calls Try.prog 50 #[.int .u8 60] w (EscPost [38, 108, 116, 59] w) := by
  have hcv : ∀ (w : World) (C : Array Value) (n c : Nat), (convert 29 29 (.slice (some ⟨w.heap.size, 0, none⟩) n c)).run Try.prog (w.alloc (.cells C 5)) = .ok (.slice (some ⟨w.heap.size, 0, none⟩) n c) (w.alloc (.cells C 5 (C.size, C.size + 1))) := fun w C n c => Lib.run_convert_bytes_const w 29 5 C n c Try.underlying29 Try.underlying5
  go_enter Try.func50, Try.ntmps50
  go_wp2
  go_ret
  exact esc_end _ w _ _ rfl (by unfold maxLen; decide)
theorem esc62 (w : World) : Calls Try.prog 50 #[.int .u8 62] w (EscPost [38, 103, 116, 59] w) := by
  have hcv : ∀ (w : World) (C : Array Value) (n c : Nat), (convert 29 29 (.slice (some ⟨w.heap.size, 0, none⟩) n c)).run Try.prog (w.alloc (.cells C 5)) = .ok (.slice (some ⟨w.heap.size, 0, none⟩) n c) (w.alloc (.cells C 5 (C.size, C.size + 1))) := fun w C n c => Lib.run_convert_bytes_const w 29 5 C n c Try.underlying29 Try.underlying5
  go_enter Try.func50, Try.ntmps50
  go_wp2
  go_ret
  exact esc_end _ w _ _ rfl (by unfold maxLen; decide)
theorem esc34 (w : World) : Calls Try.prog 50 #[.int .u8 34] w (EscPost [38, 113, 117, 111, 116, 59] w) := by
  have hcv : ∀ (w : World) (C : Array Value) (n c : Nat), (convert 29 29 (.slice (some ⟨w.heap.size, 0, none⟩) n c)).run Try.prog (w.alloc (.cells C 5)) = .ok (.slice (some ⟨w.heap.size, 0, none⟩) n c) (w.alloc (.cells C 5 (C.size, C.size + 1))) := fun w C n c => Lib.run_convert_bytes_const w 29 5 C n c Try.underlying29 Try.underlying5
  go_enter Try.func50, Try.ntmps50
  go_wp2
  go_ret
  exact esc_end _ w _ _ rfl (by unfold maxLen; decide)
theorem esc_some (c : UInt8) (w : World) (h : isE c = true) : Calls Try.prog 50 #[.int .u8 c.toNat] w (EscPost (escOf c) w) := by
  simp [isE] at h
  rcases h with ((rfl | rfl) | rfl) | rfl
  · exact esc38 w
  · exact esc60 w
  · exact esc62 w
  · exact esc34 w

def isLet (c : UInt8) : Bool := (97 ≤ c.toNat && c.toNat ≤ 122) || (65 ≤ c.toNat && c.toNat ≤ 90)
def isAln (c : UInt8) : Bool := (48 ≤ c.toNat && c.toNat ≤ 57) || isLet c
theorem let_any (c : UInt8) (w : World) : Calls Try.prog 62 #[.int .u8 c.toNat] w fun e w' => e = .returned (.bool (isLet c)) ∧ w = w' := by
  unfold isLet
  obtain ⟨n, hn⟩ : ∃ n : Nat, n = c.toNat := ⟨_, rfl⟩
  rw [← hn]
  clear hn
  by_cases h1 : 97 ≤ n <;> by_cases h2 : n ≤ 122 <;> by_cases h3 : 65 ≤ n <;> by_cases h4 : n ≤ 90 <;> simp only [h1, h2, h3, h4, decide_true, decide_false, Bool.and_true, Bool.and_false, Bool.or_true, Bool.or_false, Bool.true_or, Bool.false_or, Bool.true_and, Bool.false_and] <;> first | (exfalso; omega) | (
    go_enter Try.func62, Try.ntmps62
    go_wp2
    go_ret
    have k1 : ((97 : Int) ≤ (n : Int)) ↔ 97 ≤ n := by omega
    have k2 : ((n : Int) ≤ 122) ↔ n ≤ 122 := by omega
    have k3 : ((65 : Int) ≤ (n : Int)) ↔ 65 ≤ n := by omega
    have k4 : ((n : Int) ≤ 90) ↔ n ≤ 90 := by omega
    first | exact ⟨rfl, rfl⟩ | (refine ⟨?_, rfl⟩; simp [k1, k2, k3, k4, h1, h2, h3, h4]))
theorem aln_any (c : UInt8) (w : World) : Calls Try.prog 57 #[.int .u8 c.toNat] w fun e w' => e = .returned (.bool (isAln c)) ∧ w = w' := by
  unfold isAln
  have CL := Lib.hid (fun w => let_any c w)
  obtain ⟨b, hb⟩ : ∃ b : Bool, b = isLet c := ⟨_, rfl⟩
  rw [← hb] at CL ⊢
  obtain ⟨n, hn⟩ : ∃ n : Nat, n = c.toNat := ⟨_, rfl⟩
  rw [← hn] at CL ⊢
  clear hn hb
  by_cases h1 : 48 ≤ n <;> by_cases h2 : n ≤ 57 <;> simp only [h1, h2, decide_true, decide_false, Bool.and_true, Bool.and_false, Bool.or_true, Bool.or_false, Bool.true_or, Bool.false_or, Bool.true_and, Bool.false_and] <;> first | (exfalso; omega) | (
    go_enter Try.func57, Try.ntmps57
    go_wp2_with (go_at_call 62; refine (CL.out _).mono ?_; rintro e w' ⟨rfl, rfl⟩)
    all_goals (
      go_ret
      have k1 : ((48 : Int) ≤ (n : Int)) ↔ 48 ≤ n := by omega
      have k2 : ((n : Int) ≤ 57) ↔ n ≤ 57 := by omega
      first | exact ⟨rfl, rfl⟩ | (refine ⟨?_, rfl⟩; simp [k1, k2, h1, h2]) | (refine ⟨?_, rfl⟩; simp_all)))

noncomputable def isEnt (nm : Bs) : Bool := (findT nm tabT).isSome
theorem ent_any (s : ByteArray) (w : World) (hs : s.size ≤ 9223372036854775807) : Calls Try.prog 56 #[.string s] w fun e w' => e = .returned (.bool (isEnt s.data.toList)) ∧ w = w' := by
  unfold isEnt
  have cf : Calls Try.prog 55 #[.string s] w fun e w' => (∃ v : ByteArray, e = .returned (.tuple #[.string v, .bool (findT s.data.toList tabT).isSome])) ∧ w = w' := by
    refine (find_any s w hs).mono ?_
    rintro e w' ⟨⟨v, -, he⟩, hw⟩
    exact ⟨⟨v, he⟩, hw⟩
  obtain ⟨b, hb⟩ : ∃ b : Bool, b = (findT s.data.toList tabT).isSome := ⟨_, rfl⟩
  rw [← hb] at cf ⊢
  have CF := Lib.hid cf
  clear cf hb
  go_enter Try.func56, Try.ntmps56
  go_wp2_with (go_at_call 55; refine CF.out.mono ?_; rintro e w' ⟨⟨v, rfl⟩, rfl⟩)
  go_ret
  exact ⟨rfl, rfl⟩

/-- No name of the table bears a byte that is escaped. -/
def okN : List (Bs × Bs) → Bool
  | [] => true
  | (n, _) :: r => noB 38 n && noB 60 n && noB 62 n && noB 34 n && okN r
set_option maxRecDepth 1000000 in
theorem tab_names : okN tabT = true := by kernel_rfl
theorem isE_of (c : UInt8) (h1 : c.toNat ≠ 38) (h2 : c.toNat ≠ 60) (h3 : c.toNat ≠ 62) (h4 : c.toNat ≠ 34) : isE c = false := by
  unfold isE
  have q : ∀ k : UInt8, c.toNat ≠ k.toNat → (c == k) = false := fun k hk => by
    rw [beq_eq_false_iff_ne]
    rintro rfl
    exact hk rfl
  rw [q 38 h1, q 60 h2, q 62 h3, q 34 h4]
  rfl
theorem names_of (nm : Bs) : ∀ T, okN T = true → (findT nm T).isSome = true → ∀ i (h : i < nm.length), isE nm[i] = false
  | [], _, h => by simp [findT] at h
  | (n, v) :: r, hT, h => by
    simp only [okN, Bool.and_eq_true] at hT
    unfold findT at h
    split at h
    · rename_i he
      subst he
      intro i hi
      exact isE_of _ (noB_get 38 _ hT.1.1.1.1 i hi) (noB_get 60 _ hT.1.1.1.2 i hi) (noB_get 62 _ hT.1.1.2 i hi) (noB_get 34 _ hT.1.2 i hi)
    · exact names_of nm r hT.2 h
theorem isEnt_names (nm : Bs) (h : isEnt nm = true) : ∀ i (h : i < nm.length), isE nm[i] = false := names_of nm tabT tab_names h
end Go.Proofs.Ytkogokjlpgnmlaa
