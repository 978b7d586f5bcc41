/-
  FnInlineAlone: marks.
  FnInlineAlone: how a piece is written: marks.
  FnInlineAlone: small functions of the statement.
-/
import Derived.Test.YtalajbfpilhfgaaGreatDoorK27
set_option linter.unusedVariables false
set_option linter.unusedSimpArgs false
namespace Go.Proofs.YtalajbfpilhfgaaGreatDoor
open Go.RowKit

theorem bdn {B : Nat} {a w : World} (h : Below B a w) (n : Nat) : Below B a (w.drewN n) := h.trans ⟨rfl, rfl, rfl, Nat.le_refl _, fun _ _ => rfl⟩
theorem rep_app (o : UInt8) (i : Nat) : (⟨(List.replicate i o).toArray⟩ : ByteArray) ++ ⟨#[o]⟩ = ⟨(List.replicate (i + 1) o).toArray⟩ := by
  rw [show (⟨#[o]⟩ : ByteArray) = ⟨[o].toArray⟩ from rfl, str_app, List.replicate_succ']
set_option maxRecDepth 100000 in
set_option maxHeartbeats 4000000 in
theorem marks29 (kind ch var sep : Int) (A B C : ByteArray) (hch : ch = 0 ∨ ch = 1) (n : Nat) (hn : n ≤ 3) (w : World) :
    Calls Tryz.prog 29 #[.agg #[.int .i64 kind, .int .i64 ch, .int .i64 var, .int .i64 sep, .string A, .string B, .string C], .int .i64 n] w fun e w' => e = .returned (.tuple #[strV (List.replicate n (oneC ch)), strV (List.replicate n (oddC ch))]) ∧ Below w.heap.size w w' := by
  have HBD := Lib.hid (fun o m => bdn ((Below.refl w.heap.size w).alloc (Nat.le_refl _) o) m)
  have HR := Lib.hid rep_app
  rcases hch with rfl | rfl
  · show Calls _ _ _ _ fun e w' => e = .returned (.tuple #[strV (List.replicate n 42), strV (List.replicate n 95)]) ∧ Below w.heap.size w w'
    go_enter Tryz.func29, Tryz.ntmps29
    go_wp2
    generalize hW : w.alloc _ = W
    have c1 : W.cell? ⟨w.heap.size, 1, none⟩ = some (.int .i64 0) := by rw [← hW]; exact (Lib.cell_of_heap (heap_alloc_new w _) 1).trans rfl
    have HBW : Hid (∀ m, Below w.heap.size w (W.drewN m)) := by rw [← hW]; exact Lib.hid (fun m => HBD.out _ m)
    clear hW HBD
    go_loopg [4, 5, 7] (n + 1) (fun q v4 v5 v7 wr => (∃ m, wr = W.drewN m) ∧ ∃ i : Nat, v7 = .int .i64 (i : Nat) ∧ v4 = strV (List.replicate i 42) ∧ v5 = strV (List.replicate i 95) ∧ q + i = n + 1 ∧ i ≤ n)
    case atStart => exact ⟨⟨0, rfl⟩, 0, rfl, rfl, rfl, by omega, by omega⟩
    case round =>
      obtain ⟨⟨m, rfl⟩, i, rfl, rfl, rfl, hq, hi⟩ := hrel
      have HQ := Lib.hid hq
      clear hq
      by_cases hin : i < n
      · obtain ⟨S1, hS1⟩ : ∃ S : ByteArray, S = ⟨(List.replicate i 42).toArray⟩ := ⟨_, rfl⟩
        obtain ⟨S2, hS2⟩ : ∃ S : ByteArray, S = ⟨(List.replicate i 95).toArray⟩ := ⟨_, rfl⟩
        have z1 : S1.size + 1 ≤ 9223372036854775807 := by rw [hS1]; show (List.replicate i (42 : UInt8)).toArray.size + 1 ≤ _; simp; omega
        have z2 : S2.size + 1 ≤ 9223372036854775807 := by rw [hS2]; show (List.replicate i (95 : UInt8)).toArray.size + 1 ≤ _; simp; omega
        simp only [strV]
        rw [← hS1, ← hS2]
        have HS1 := Lib.hid hS1
        have HS2 := Lib.hid hS2
        clear hS1 hS2
        go_wp2
        go_quiet (fail)
        go_wp2
        go_roundg (n - i)
        case measure => have := HQ.out; omega
        case rel =>
          refine ⟨⟨m + nq, by simp [World.drewN, Nat.add_assoc]⟩, i + 1, by go_num, ?_, ?_, by have := HQ.out; omega, by omega⟩
          · rw [HS1.out, show (⟨#[42, 95]⟩ : ByteArray).extract 0 1 = ⟨#[42]⟩ from by decide, HR.out]
          · rw [HS2.out, show (⟨#[95, 42]⟩ : ByteArray).extract 0 1 = ⟨#[95]⟩ from by decide, HR.out]
      · obtain rfl : i = n := by omega
        go_wp2
        go_ret2
        exact ⟨rfl, HBW.out m⟩
  · show Calls _ _ _ _ fun e w' => e = .returned (.tuple #[strV (List.replicate n 95), strV (List.replicate n 42)]) ∧ Below w.heap.size w w'
    go_enter Tryz.func29, Tryz.ntmps29
    go_wp2
    generalize hW : w.alloc _ = W
    have c1 : W.cell? ⟨w.heap.size, 1, none⟩ = some (.int .i64 1) := by rw [← hW]; exact (Lib.cell_of_heap (heap_alloc_new w _) 1).trans rfl
    have HBW : Hid (∀ m, Below w.heap.size w (W.drewN m)) := by rw [← hW]; exact Lib.hid (fun m => HBD.out _ m)
    clear hW HBD
    go_loopg [4, 5, 7] (n + 1) (fun q v4 v5 v7 wr => (∃ m, wr = W.drewN m) ∧ ∃ i : Nat, v7 = .int .i64 (i : Nat) ∧ v4 = strV (List.replicate i 95) ∧ v5 = strV (List.replicate i 42) ∧ q + i = n + 1 ∧ i ≤ n)
    case atStart => exact ⟨⟨0, rfl⟩, 0, rfl, rfl, rfl, by omega, by omega⟩
    case round =>
      obtain ⟨⟨m, rfl⟩, i, rfl, rfl, rfl, hq, hi⟩ := hrel
      have HQ := Lib.hid hq
      clear hq
      by_cases hin : i < n
      · obtain ⟨S1, hS1⟩ : ∃ S : ByteArray, S = ⟨(List.replicate i 95).toArray⟩ := ⟨_, rfl⟩
        obtain ⟨S2, hS2⟩ : ∃ S : ByteArray, S = ⟨(List.replicate i 42).toArray⟩ := ⟨_, rfl⟩
        have z1 : S1.size + 1 ≤ 9223372036854775807 := by rw [hS1]; show (List.replicate i (95 : UInt8)).toArray.size + 1 ≤ _; simp; omega
        have z2 : S2.size + 1 ≤ 9223372036854775807 := by rw [hS2]; show (List.replicate i (42 : UInt8)).toArray.size + 1 ≤ _; simp; omega
        simp only [strV]
        rw [← hS1, ← hS2]
        have HS1 := Lib.hid hS1
        have HS2 := Lib.hid hS2
        clear hS1 hS2
        go_wp2
        go_quiet (fail)
        go_wp2
        go_roundg (n - i)
        case measure => have := HQ.out; omega
        case rel =>
          refine ⟨⟨m + nq, by simp [World.drewN, Nat.add_assoc]⟩, i + 1, by go_num, ?_, ?_, by have := HQ.out; omega, by omega⟩
          · rw [HS1.out, show (⟨#[42, 95]⟩ : ByteArray).extract 1 2 = ⟨#[95]⟩ from by decide, HR.out]
          · rw [HS2.out, show (⟨#[95, 42]⟩ : ByteArray).extract 1 2 = ⟨#[42]⟩ from by decide, HR.out]
      · obtain rfl : i = n := by omega
        go_wp2
        go_ret2
        exact ⟨rfl, HBW.out m⟩
set_option maxHeartbeats 1000000 in
theorem ent31 (v : Nat) (hv : v < 5) (w : World) : Calls Tryz.prog 31 #[.int .i64 v] w fun e w' => e = .returned (.tuple #[strV (entW v), strV (entT v)]) ∧ w = w' := by
  have : v = 0 ∨ v = 1 ∨ v = 2 ∨ v = 3 ∨ v = 4 := by omega
  rcases this with rfl | rfl | rfl | rfl | rfl <;> (
    go_enter Tryz.func31, Tryz.ntmps31
    go_wp2
    go_ret2
    exact ⟨rfl, rfl⟩)
set_option maxHeartbeats 1000000 in
theorem tag32 (v : Nat) (hv : v < 5) (w : World) : Calls Tryz.prog 32 #[.int .i64 v] w fun e w' => e = .returned (strV (tagW v)) ∧ w = w' := by
  have : v = 0 ∨ v = 1 ∨ v = 2 ∨ v = 3 ∨ v = 4 := by omega
  rcases this with rfl | rfl | rfl | rfl | rfl <;> (
    go_enter Tryz.func32, Tryz.ntmps32
    go_wp2
    go_ret
    exact ⟨rfl, rfl⟩)
set_option maxHeartbeats 1000000 in
theorem lone33 (v : Nat) (hv : v < 7) (w : World) : Calls Tryz.prog 33 #[.int .i64 v] w fun e w' => e = .returned (strV (loneW v)) ∧ w = w' := by
  have : v = 0 ∨ v = 1 ∨ v = 2 ∨ v = 3 ∨ v = 4 ∨ v = 5 ∨ v = 6 := by omega
  rcases this with rfl | rfl | rfl | rfl | rfl | rfl | rfl <;> (
    go_enter Tryz.func33, Tryz.ntmps33
    go_wp2
    go_ret
    exact ⟨rfl, rfl⟩)
set_option maxHeartbeats 1000000 in
theorem sep17 (v : Nat) (hv : v < 4) (w : World) : Calls Tryz.prog 17 #[.int .i64 v] w fun e w' => e = .returned (strV (sepW v)) ∧ w = w' := by
  have : v = 0 ∨ v = 1 ∨ v = 2 ∨ v = 3 := by omega
  rcases this with rfl | rfl | rfl | rfl <;> (
    go_enter Tryz.func17, Tryz.ntmps17
    go_wp2
    go_ret
    exact ⟨rfl, rfl⟩)
theorem str_eq {s : ByteArray} {l : Bs} (h : s.data.toList = l) : Value.string s = strV l := by subst h; rfl
theorem ret_pair {v v' u u' : Value} (h1 : v = v') (h2 : u = u') : Ending.returned (.tuple #[v, u]) = .returned (.tuple #[v', u']) := by rw [h1, h2]
theorem ret_one' {v v' : Value} (h1 : v = v') : Ending.returned v = .returned v' := by rw [h1]
set_option maxRecDepth 100000 in
set_option maxHeartbeats 4000000 in
theorem auto30 (kind ch sep : Int) (v : Nat) (hv : v < 5) (a b : Bs) (C : ByteArray) (ha : a.length ≤ 100) (hb : b.length ≤ 100) (w : World) :
    Calls Tryz.prog 30 #[.agg #[.int .i64 kind, .int .i64 ch, .int .i64 v, .int .i64 sep, strV a, strV b, .string C]] w fun e w' => e = .returned (.tuple #[strV (autoW a b v), strV (autoTo a b v)]) ∧ Below w.heap.size w w' := by
  have HBD := Lib.hid (fun o m => bdn ((Below.refl w.heap.size w).alloc (Nat.le_refl _) o) m)
  obtain ⟨A, hA⟩ : ∃ S : ByteArray, S = ⟨a.toArray⟩ := ⟨_, rfl⟩
  obtain ⟨B, hB⟩ : ∃ S : ByteArray, S = ⟨b.toArray⟩ := ⟨_, rfl⟩
  have zA : A.size ≤ 100 := by rw [hA]; show a.toArray.size ≤ _; simpa using ha
  have zB : B.size ≤ 100 := by rw [hB]; show b.toArray.size ≤ _; simpa using hb
  have HE : Hid (A.data.toList = a ∧ B.data.toList = b) := Lib.hid ⟨by rw [hA], by rw [hB]⟩
  simp only [strV]
  rw [← hA, ← hB]
  clear hA hB
  have : v = 0 ∨ v = 1 ∨ v = 2 ∨ v = 3 ∨ v = 4 := by omega
  rcases this with rfl | rfl | rfl | rfl | rfl <;> (
    go_enter Tryz.func30, Tryz.ntmps30
    go_wp2
    try go_quiet (fail)
    try go_wp2
    go_ret2
    refine ⟨ret_pair (str_eq ?_) (str_eq ?_), by first | exact HBD.out _ 0 | exact HBD.out _ _⟩ <;> simp [autoW, bareW, mailW, autoTo, m7L, HE.out.1, HE.out.2, ByteArray.data_append])

/-- The seven cells of a piece. -/
abbrev C7 (w : World) (b : Nat) (a0 a1 a2 a3 a4 a5 a6 : Value) : Prop := w.cell? ⟨b, 0, none⟩ = some a0 ∧ w.cell? ⟨b, 1, none⟩ = some a1 ∧ w.cell? ⟨b, 2, none⟩ = some a2 ∧ w.cell? ⟨b, 3, none⟩ = some a3 ∧ w.cell? ⟨b, 4, none⟩ = some a4 ∧ w.cell? ⟨b, 5, none⟩ = some a5 ∧ w.cell? ⟨b, 6, none⟩ = some a6
theorem autoW_len (a b : Bs) (v : Nat) (ha : a.length ≤ 100) (hb : b.length ≤ 100) : (autoW a b v).length ≤ 300 := by
  match v with
  | 0 | 1 | 2 | 3 => simp [autoW, bareW, mailW, m7L]; omega
  | n + 4 => simp [autoW, mailW]; omega
theorem esc_ext (v : Nat) (h : v < 21) : List.take 1 (List.drop v ([92, 96, 42, 95, 123, 125, 91, 93, 40, 41, 35, 43, 45, 46, 33, 58, 124, 38, 60, 62, 126] : Bs)) = [escL[v]?.getD 0] := by
  have : ∀ v, v < 21 → List.take 1 (List.drop v ([92, 96, 42, 95, 123, 125, 91, 93, 40, 41, 35, 43, 45, 46, 33, 58, 124, 38, 60, 62, 126] : Bs)) = [escL[v]?.getD 0] := by decide
  exact this v h
theorem marks_all (kind ch var sep : Int) (A B C : ByteArray) (hch : ch = 0 ∨ ch = 1) : ∃ O1 X1 O2 X2 O3 X3 : ByteArray, O1.size = 1 ∧ X1.size = 1 ∧ O2.size = 2 ∧ X2.size = 2 ∧ O3.size = 3 ∧ X3.size = 3 ∧
    O1.data.toList = [oneC ch] ∧ X1.data.toList = [oddC ch] ∧ O2.data.toList = [oneC ch, oneC ch] ∧ X2.data.toList = [oddC ch, oddC ch] ∧ O3.data.toList = [oneC ch, oneC ch, oneC ch] ∧ X3.data.toList = [oddC ch, oddC ch, oddC ch] ∧
    (∀ w, Calls Tryz.prog 29 #[.agg #[.int .i64 kind, .int .i64 ch, .int .i64 var, .int .i64 sep, .string A, .string B, .string C], .int .i64 1] w fun e w' => e = .returned (.tuple #[.string O1, .string X1]) ∧ Below w.heap.size w w') ∧
    (∀ w, Calls Tryz.prog 29 #[.agg #[.int .i64 kind, .int .i64 ch, .int .i64 var, .int .i64 sep, .string A, .string B, .string C], .int .i64 2] w fun e w' => e = .returned (.tuple #[.string O2, .string X2]) ∧ Below w.heap.size w w') ∧
    (∀ w, Calls Tryz.prog 29 #[.agg #[.int .i64 kind, .int .i64 ch, .int .i64 var, .int .i64 sep, .string A, .string B, .string C], .int .i64 3] w fun e w' => e = .returned (.tuple #[.string O3, .string X3]) ∧ Below w.heap.size w w') :=
  ⟨⟨[oneC ch].toArray⟩, ⟨[oddC ch].toArray⟩, ⟨[oneC ch, oneC ch].toArray⟩, ⟨[oddC ch, oddC ch].toArray⟩, ⟨[oneC ch, oneC ch, oneC ch].toArray⟩, ⟨[oddC ch, oddC ch, oddC ch].toArray⟩, rfl, rfl, rfl, rfl, rfl, rfl, rfl, rfl, rfl, rfl, rfl, rfl,
    fun w => marks29 kind ch var sep A B C hch 1 (by decide) w, fun w => marks29 kind ch var sep A B C hch 2 (by decide) w, fun w => marks29 kind ch var sep A B C hch 3 (by decide) w⟩

theorem results_cell1 {fn : Func} {p : Tmp} {ty : TypeId} (h : fn.results = #[.cell p ty]) (tmps : Array Value) (P : Program) (w : World) (g : Nat) (t : TypeId) (cs : Array Value) (fr : Nat × Nat) (fs : Array Field)
    (hp : tmps.getD p undef = .pointer (some ⟨g, 0, none⟩)) (hg : w.heap[g]? = some (.cells cs t fr))
    (hu : P.underlying ty = some (.struct fs)) (hi : (P.info? ty).map (·.size) = some cs.size) :
    (results fn tmps).run P w = .ok (.agg cs) w := by
  have hp' : tmps[p]?.getD undef = .pointer (some ⟨g, 0, none⟩) := by simpa using hp
  simp [results, h, hp', asAddr, run_loadVar_row w g t ty cs fr (.struct fs) hg hu rfl hi]
theorem size52 : (Tryz.prog.info? 52).map (·.size) = some 6 := by kernel_rfl
theorem of34 (d t : Int) (w : World) : Calls Tryz.prog 34 #[.int .i64 d, .int .i64 t] w fun e w' => e = .returned (.agg #[.int .i64 d, .int .i64 t, .string ⟨#[]⟩, .string ⟨#[]⟩, .string ⟨#[]⟩, .bool false]) ∧ Below w.heap.size w w' := by
  have HBD := Lib.hid (fun o => ((Below.refl w.heap.size w).alloc (Nat.le_refl _) o))
  go_enter Tryz.func34, Tryz.ntmps34
  go_wp2
  exact bodyPost_ret (results_cell1 rfl _ _ _ w.heap.size 52 _ (0, 0) _ rfl (heap_alloc_new w _) Tryz.underlying52 size52) rfl ⟨rfl, HBD.out _⟩
theorem text35 (d : Int) (s : ByteArray) (w : World) : Calls Tryz.prog 35 #[.int .i64 d, .string s] w fun e w' => e = .returned (.agg #[.int .i64 d, .int .i64 12, .string s, .string ⟨#[]⟩, .string ⟨#[]⟩, .bool false]) ∧ Below w.heap.size w w' := by
  have HBD := Lib.hid (fun o => ((Below.refl w.heap.size w).alloc (Nat.le_refl _) o))
  go_enter Tryz.func35, Tryz.ntmps35
  go_wp2
  exact bodyPost_ret (results_cell1 rfl _ _ _ w.heap.size 52 _ (0, 0) _ rfl (heap_alloc_new w _) Tryz.underlying52 size52) rfl ⟨rfl, HBD.out _⟩
theorem link36 (t : Int) (s : ByteArray) (w : World) : Calls Tryz.prog 36 #[.int .i64 t, .string s] w fun e w' => e = .returned (.agg #[.int .i64 0, .int .i64 t, .string ⟨#[]⟩, .string s, .string ⟨#[]⟩, .bool false]) ∧ Below w.heap.size w w' := by
  have HBD := Lib.hid (fun o => ((Below.refl w.heap.size w).alloc (Nat.le_refl _) o))
  go_enter Tryz.func36, Tryz.ntmps36
  go_wp2
  exact bodyPost_ret (results_cell1 rfl _ _ _ w.heap.size 52 _ (0, 0) _ rfl (heap_alloc_new w _) Tryz.underlying52 size52) rfl ⟨rfl, HBD.out _⟩
theorem testBit_div (e i m : Nat) (hm : m = 2 ^ i) : e.testBit i = (e / m % 2 == 1) := by
  subst hm
  rw [Nat.testBit_eq_decide_div_mod_eq, Bool.eq_iff_iff]
  simp
theorem has14 (e i m : Nat) (hm : m = 2 ^ i) (h0 : 1 ≤ m) (hm2 : m ≤ 1000000) (he : e ≤ 1000000) (w : World) : Calls Tryz.prog 14 #[.int .i64 e, .int .i64 m] w fun r w' => r = .returned (.bool (e.testBit i)) ∧ w = w' := by
  have ht := testBit_div e i m hm
  have HB : Hid ((((e : Int) / (m : Int)).tmod 2 == 1) = (e.testBit i)) := Lib.hid (by
    rw [ht, ← Int.natCast_ediv, Bool.eq_iff_iff]
    generalize e / m = q
    simp only [beq_iff_eq]
    show ((q % 2 : Nat) : Int) = 1 ↔ q % 2 = 1
    omega)
  have hlt : (e : Int) / (m : Int) ≤ 1000000 := by rw [← Int.natCast_ediv]; have := Nat.div_le_self e m; omega
  have hge : (0 : Int) ≤ (e : Int) / (m : Int) := by rw [← Int.natCast_ediv]; exact Int.natCast_nonneg _
  have hm0 : ¬ ((m : Int) = 0) := by omega
  have hm1 : ¬ (m = 0) := by omega
  obtain ⟨q, hq⟩ : ∃ q, q = (e : Int) / (m : Int) := ⟨_, rfl⟩
  have hw : wrap64 ((e : Int) / (m : Int)) = (e : Int) / (m : Int) := by rw [← hq] at hlt hge ⊢; unfold wrap64; omega
  clear hm ht hq hlt hge
  go_enter Tryz.func14, Tryz.ntmps14
  go_wp2
  go_ret
  exact ⟨ret_one' (congrArg Value.bool HB.out), rfl⟩
theorem inline21 (t : Nat) (h : (7 ≤ t ∧ t ≤ 12) ∨ (15 ≤ t ∧ t ≤ 18)) (w : World) : Calls Tryz.prog 21 #[.int .i64 t] w fun r w' => r = .returned (.bool true) ∧ w = w' := by
  have : t = 7 ∨ t = 8 ∨ t = 9 ∨ t = 10 ∨ t = 11 ∨ t = 12 ∨ t = 15 ∨ t = 16 ∨ t = 17 ∨ t = 18 := by omega
  clear h
  rcases this with rfl | rfl | rfl | rfl | rfl | rfl | rfl | rfl | rfl | rfl <;> (
    go_enter Tryz.func21, Tryz.ntmps21
    go_wp2
    go_ret
    exact ⟨rfl, rfl⟩)
theorem ext12 (e : Int) (w : World) : Calls Tryz.prog 12 #[.int .i64 e] w fun r w' => SaysB (0 ≤ e ∧ e ≤ 131070) r ∧ w = w' := by
  have HP := Lib.hid (fun h : 0 ≤ e ∧ e ≤ 131070 => h)
  obtain ⟨PP, hPP⟩ : ∃ PP : Prop, PP = (0 ≤ e ∧ e ≤ 131070) := ⟨_, rfl⟩
  have HP := Lib.hid (fun h : 0 ≤ e ∧ e ≤ 131070 => (hPP ▸ h : PP))
  rw [← hPP]
  clear hPP
  go_enter Tryz.func12, Tryz.ntmps12
  go_wp2
  all_goals (
    go_ret
    first
    | exact ⟨SaysB.no, rfl⟩
    | exact ⟨⟨_, rfl, fun _ => HP.out ⟨by omega, by omega⟩⟩, rfl⟩)
theorem fits19 (A B C : ByteArray) (i1 i2 i3 i4 : Int) (w : World) : Calls Tryz.prog 11 #[.agg #[.int .i64 i1, .int .i64 i2, .int .i64 i3, .int .i64 i4, .string A, .string B, .string C]] w fun r w' => SaysB True r ∧ Below w.heap.size w w' := by
  obtain ⟨PP, hPP⟩ : ∃ PP : Prop, PP = True := ⟨_, rfl⟩
  have HP := Lib.hid (hPP ▸ trivial : PP)
  have HBD := Lib.hid (fun o => ((Below.refl w.heap.size w).alloc (Nat.le_refl _) o))
  rw [← hPP]
  clear hPP
  go_enter Tryz.func11, Tryz.ntmps11
  go_wp2
  all_goals (
    go_ret
    first
    | exact ⟨SaysB.no, HBD.out _⟩
    | exact ⟨⟨_, rfl, fun _ => HP.out⟩, HBD.out _⟩)
end Go.Proofs.YtalajbfpilhfgaaGreatDoor
