/-
  FnInlineAlone: right pieces, by their kinds.
-/
import Derived.Test.YtalajbfpilhfgaaGreatDoorK27
set_option linter.unusedVariables false
set_option linter.unusedSimpArgs false
namespace Go.Proofs.YtalajbfpilhfgaaGreatDoor
open Go.RowKit

set_option maxRecDepth 100000 in
set_option maxHeartbeats 4000000 in
theorem piece_14 (ch var sep : Int) (A B C : ByteArray) (bg : Bool) (PP WA WB WC TB TC OA OB EA EB : Prop) (w : World) (h0 : 0 ≤ ch) (h1 : ch ≤ 1) (h2 : 0 ≤ var) (h3 : 0 ≤ sep) (h4 : sep < 4) (hT : Told A B C WA WB WC TB TC OA OB EA EB) (hP : WA → WB → WC → PP) :
    Calls Tryz.prog 13 #[.agg #[.int .i64 14, .int .i64 ch, .int .i64 var, .int .i64 sep, .string A, .string B, .string C], .bool bg] w fun e w' => SaysB PP e ∧ Below w.heap.size w w' := by
  have HBD := Lib.hid (fun o => (Below.refl w.heap.size w).alloc (Nat.le_refl _) o)
  have HP := Lib.hid hP
  have C0 := Lib.hid hT.a26
  have C1 := Lib.hid hT.b26
  have C2 := Lib.hid hT.c26
  clear hT hP
  (
    go_enter Tryz.func13, Tryz.ntmps13
    go_wp2_with (first | (go_at_call 26; refine (C0.out _).mono ?_; rintro e w' ⟨⟨b0, rfl, hb0⟩, rfl⟩; have HB0 := Lib.hid hb0; clear hb0 C0; cases b0 <;> try (replace HB0 := Lib.hid (HB0.out rfl))) | (go_at_call 26; refine (C1.out _).mono ?_; rintro e w' ⟨⟨b1, rfl, hb1⟩, rfl⟩; have HB1 := Lib.hid hb1; clear hb1 C1; cases b1 <;> try (replace HB1 := Lib.hid (HB1.out rfl))) | (go_at_call 26; refine (C2.out _).mono ?_; rintro e w' ⟨⟨b2, rfl, hb2⟩, rfl⟩; have HB2 := Lib.hid hb2; clear hb2 C2; cases b2 <;> try (replace HB2 := Lib.hid (HB2.out rfl))))
    all_goals (
      go_ret
      first
      | exact ⟨SaysB.no, HBD.out _⟩
      | exact ⟨⟨_, rfl, fun _ => HP.out HB0.out HB1.out HB2.out⟩, HBD.out _⟩
      | (refine ⟨⟨_, rfl, fun h => ?_⟩, HBD.out _⟩; exfalso; simp at h; omega)))
set_option maxRecDepth 100000 in
set_option maxHeartbeats 4000000 in
theorem piece_15 (ch var sep : Int) (A B C : ByteArray) (bg : Bool) (PP WA WB WC TB TC OA OB EA EB : Prop) (w : World) (h0 : 0 ≤ ch) (h1 : ch ≤ 1) (h2 : 0 ≤ var) (h3 : 0 ≤ sep) (h4 : sep < 4) (hT : Told A B C WA WB WC TB TC OA OB EA EB) (hP : WA → WB → WC → PP) :
    Calls Tryz.prog 13 #[.agg #[.int .i64 15, .int .i64 ch, .int .i64 var, .int .i64 sep, .string A, .string B, .string C], .bool bg] w fun e w' => SaysB PP e ∧ Below w.heap.size w w' := by
  have HBD := Lib.hid (fun o => (Below.refl w.heap.size w).alloc (Nat.le_refl _) o)
  have HP := Lib.hid hP
  have C0 := Lib.hid hT.a26
  have C1 := Lib.hid hT.b26
  have C2 := Lib.hid hT.c26
  clear hT hP
  (
    go_enter Tryz.func13, Tryz.ntmps13
    go_wp2_with (first | (go_at_call 26; refine (C0.out _).mono ?_; rintro e w' ⟨⟨b0, rfl, hb0⟩, rfl⟩; have HB0 := Lib.hid hb0; clear hb0 C0; cases b0 <;> try (replace HB0 := Lib.hid (HB0.out rfl))) | (go_at_call 26; refine (C1.out _).mono ?_; rintro e w' ⟨⟨b1, rfl, hb1⟩, rfl⟩; have HB1 := Lib.hid hb1; clear hb1 C1; cases b1 <;> try (replace HB1 := Lib.hid (HB1.out rfl))) | (go_at_call 26; refine (C2.out _).mono ?_; rintro e w' ⟨⟨b2, rfl, hb2⟩, rfl⟩; have HB2 := Lib.hid hb2; clear hb2 C2; cases b2 <;> try (replace HB2 := Lib.hid (HB2.out rfl))))
    all_goals (
      go_ret
      first
      | exact ⟨SaysB.no, HBD.out _⟩
      | exact ⟨⟨_, rfl, fun _ => HP.out HB0.out HB1.out HB2.out⟩, HBD.out _⟩
      | (refine ⟨⟨_, rfl, fun h => ?_⟩, HBD.out _⟩; exfalso; simp at h; omega)))
set_option maxRecDepth 100000 in
set_option maxHeartbeats 4000000 in
theorem piece_16 (ch var sep : Int) (A B C : ByteArray) (bg : Bool) (PP WA WB WC TB TC OA OB EA EB : Prop) (w : World) (h0 : 0 ≤ ch) (h1 : ch ≤ 1) (h2 : 0 ≤ var) (h3 : 0 ≤ sep) (h4 : sep < 4) (hT : Told A B C WA WB WC TB TC OA OB EA EB) (hP : WA → WB → TC → PP) :
    Calls Tryz.prog 13 #[.agg #[.int .i64 16, .int .i64 ch, .int .i64 var, .int .i64 sep, .string A, .string B, .string C], .bool bg] w fun e w' => SaysB PP e ∧ Below w.heap.size w w' := by
  have HBD := Lib.hid (fun o => (Below.refl w.heap.size w).alloc (Nat.le_refl _) o)
  have HP := Lib.hid hP
  have C0 := Lib.hid hT.a26
  have C1 := Lib.hid hT.b26
  have C2 := Lib.hid hT.c27
  clear hT hP
  (
    go_enter Tryz.func13, Tryz.ntmps13
    go_wp2_with (first | (go_at_call 26; refine (C0.out _).mono ?_; rintro e w' ⟨⟨b0, rfl, hb0⟩, rfl⟩; have HB0 := Lib.hid hb0; clear hb0 C0; cases b0 <;> try (replace HB0 := Lib.hid (HB0.out rfl))) | (go_at_call 26; refine (C1.out _).mono ?_; rintro e w' ⟨⟨b1, rfl, hb1⟩, rfl⟩; have HB1 := Lib.hid hb1; clear hb1 C1; cases b1 <;> try (replace HB1 := Lib.hid (HB1.out rfl))) | (go_at_call 27; refine (C2.out _).mono ?_; rintro e w' ⟨⟨b2, rfl, hb2⟩, rfl⟩; have HB2 := Lib.hid hb2; clear hb2 C2; cases b2 <;> try (replace HB2 := Lib.hid (HB2.out rfl))))
    all_goals (
      go_ret
      first
      | exact ⟨SaysB.no, HBD.out _⟩
      | exact ⟨⟨_, rfl, fun _ => HP.out HB0.out HB1.out HB2.out⟩, HBD.out _⟩
      | (refine ⟨⟨_, rfl, fun h => ?_⟩, HBD.out _⟩; exfalso; simp at h; omega)))
set_option maxRecDepth 100000 in
set_option maxHeartbeats 4000000 in
theorem piece_17 (ch var sep : Int) (A B C : ByteArray) (bg : Bool) (PP WA WB WC TB TC OA OB EA EB : Prop) (w : World) (h0 : 0 ≤ ch) (h1 : ch ≤ 1) (h2 : 0 ≤ var) (h3 : 0 ≤ sep) (h4 : sep < 4) (hT : Told A B C WA WB WC TB TC OA OB EA EB) (hP : WA → WB → TC → PP) :
    Calls Tryz.prog 13 #[.agg #[.int .i64 17, .int .i64 ch, .int .i64 var, .int .i64 sep, .string A, .string B, .string C], .bool bg] w fun e w' => SaysB PP e ∧ Below w.heap.size w w' := by
  have HBD := Lib.hid (fun o => (Below.refl w.heap.size w).alloc (Nat.le_refl _) o)
  have HP := Lib.hid hP
  have C0 := Lib.hid hT.a26
  have C1 := Lib.hid hT.b26
  have C2 := Lib.hid hT.c27
  clear hT hP
  (
    go_enter Tryz.func13, Tryz.ntmps13
    go_wp2_with (first | (go_at_call 26; refine (C0.out _).mono ?_; rintro e w' ⟨⟨b0, rfl, hb0⟩, rfl⟩; have HB0 := Lib.hid hb0; clear hb0 C0; cases b0 <;> try (replace HB0 := Lib.hid (HB0.out rfl))) | (go_at_call 26; refine (C1.out _).mono ?_; rintro e w' ⟨⟨b1, rfl, hb1⟩, rfl⟩; have HB1 := Lib.hid hb1; clear hb1 C1; cases b1 <;> try (replace HB1 := Lib.hid (HB1.out rfl))) | (go_at_call 27; refine (C2.out _).mono ?_; rintro e w' ⟨⟨b2, rfl, hb2⟩, rfl⟩; have HB2 := Lib.hid hb2; clear hb2 C2; cases b2 <;> try (replace HB2 := Lib.hid (HB2.out rfl))))
    all_goals (
      go_ret
      first
      | exact ⟨SaysB.no, HBD.out _⟩
      | exact ⟨⟨_, rfl, fun _ => HP.out HB0.out HB1.out HB2.out⟩, HBD.out _⟩
      | (refine ⟨⟨_, rfl, fun h => ?_⟩, HBD.out _⟩; exfalso; simp at h; omega)))
set_option maxRecDepth 100000 in
set_option maxHeartbeats 4000000 in
theorem piece_18 (ch var sep : Int) (A B C : ByteArray) (bg : Bool) (PP WA WB WC TB TC OA OB EA EB : Prop) (w : World) (h0 : 0 ≤ ch) (h1 : ch ≤ 1) (h2 : 0 ≤ var) (h3 : 0 ≤ sep) (h4 : sep < 4) (hT : Told A B C WA WB WC TB TC OA OB EA EB) (hP : WA → WB → WC → PP) :
    Calls Tryz.prog 13 #[.agg #[.int .i64 18, .int .i64 ch, .int .i64 var, .int .i64 sep, .string A, .string B, .string C], .bool bg] w fun e w' => SaysB PP e ∧ Below w.heap.size w w' := by
  have HBD := Lib.hid (fun o => (Below.refl w.heap.size w).alloc (Nat.le_refl _) o)
  have HP := Lib.hid hP
  have C0 := Lib.hid hT.a26
  have C1 := Lib.hid hT.b26
  have C2 := Lib.hid hT.c26
  clear hT hP
  (
    go_enter Tryz.func13, Tryz.ntmps13
    go_wp2_with (first | (go_at_call 26; refine (C0.out _).mono ?_; rintro e w' ⟨⟨b0, rfl, hb0⟩, rfl⟩; have HB0 := Lib.hid hb0; clear hb0 C0; cases b0 <;> try (replace HB0 := Lib.hid (HB0.out rfl))) | (go_at_call 26; refine (C1.out _).mono ?_; rintro e w' ⟨⟨b1, rfl, hb1⟩, rfl⟩; have HB1 := Lib.hid hb1; clear hb1 C1; cases b1 <;> try (replace HB1 := Lib.hid (HB1.out rfl))) | (go_at_call 26; refine (C2.out _).mono ?_; rintro e w' ⟨⟨b2, rfl, hb2⟩, rfl⟩; have HB2 := Lib.hid hb2; clear hb2 C2; cases b2 <;> try (replace HB2 := Lib.hid (HB2.out rfl))))
    all_goals (
      go_ret
      first
      | exact ⟨SaysB.no, HBD.out _⟩
      | exact ⟨⟨_, rfl, fun _ => HP.out HB0.out HB1.out HB2.out⟩, HBD.out _⟩
      | (refine ⟨⟨_, rfl, fun h => ?_⟩, HBD.out _⟩; exfalso; simp at h; omega)))
set_option maxRecDepth 100000 in
set_option maxHeartbeats 4000000 in
theorem piece_19 (ch var sep : Int) (A B C : ByteArray) (bg : Bool) (PP WA WB WC TB TC OA OB EA EB : Prop) (w : World) (h0 : 0 ≤ ch) (h1 : ch ≤ 1) (h2 : 0 ≤ var) (h3 : 0 ≤ sep) (h4 : sep < 4) (hT : Told A B C WA WB WC TB TC OA OB EA EB) (hP : WA → WB → WC → PP) :
    Calls Tryz.prog 13 #[.agg #[.int .i64 19, .int .i64 ch, .int .i64 var, .int .i64 sep, .string A, .string B, .string C], .bool bg] w fun e w' => SaysB PP e ∧ Below w.heap.size w w' := by
  have HBD := Lib.hid (fun o => (Below.refl w.heap.size w).alloc (Nat.le_refl _) o)
  have HP := Lib.hid hP
  have C0 := Lib.hid hT.a26
  have C1 := Lib.hid hT.b26
  have C2 := Lib.hid hT.c26
  clear hT hP
  (
    go_enter Tryz.func13, Tryz.ntmps13
    go_wp2_with (first | (go_at_call 26; refine (C0.out _).mono ?_; rintro e w' ⟨⟨b0, rfl, hb0⟩, rfl⟩; have HB0 := Lib.hid hb0; clear hb0 C0; cases b0 <;> try (replace HB0 := Lib.hid (HB0.out rfl))) | (go_at_call 26; refine (C1.out _).mono ?_; rintro e w' ⟨⟨b1, rfl, hb1⟩, rfl⟩; have HB1 := Lib.hid hb1; clear hb1 C1; cases b1 <;> try (replace HB1 := Lib.hid (HB1.out rfl))) | (go_at_call 26; refine (C2.out _).mono ?_; rintro e w' ⟨⟨b2, rfl, hb2⟩, rfl⟩; have HB2 := Lib.hid hb2; clear hb2 C2; cases b2 <;> try (replace HB2 := Lib.hid (HB2.out rfl))))
    all_goals (
      go_ret
      first
      | exact ⟨SaysB.no, HBD.out _⟩
      | exact ⟨⟨_, rfl, fun _ => HP.out HB0.out HB1.out HB2.out⟩, HBD.out _⟩
      | (refine ⟨⟨_, rfl, fun h => ?_⟩, HBD.out _⟩; exfalso; simp at h; omega)))
set_option maxRecDepth 100000 in
set_option maxHeartbeats 4000000 in
theorem piece_20 (ch var sep : Int) (A B C : ByteArray) (bg : Bool) (PP WA WB WC TB TC OA OB EA EB : Prop) (w : World) (h0 : 0 ≤ ch) (h1 : ch ≤ 1) (h2 : 0 ≤ var) (h3 : 0 ≤ sep) (h4 : sep < 4) (hT : Told A B C WA WB WC TB TC OA OB EA EB) (hP : WA → TB → TC → PP) :
    Calls Tryz.prog 13 #[.agg #[.int .i64 20, .int .i64 ch, .int .i64 var, .int .i64 sep, .string A, .string B, .string C], .bool bg] w fun e w' => SaysB PP e ∧ Below w.heap.size w w' := by
  have HBD := Lib.hid (fun o => (Below.refl w.heap.size w).alloc (Nat.le_refl _) o)
  have HP := Lib.hid hP
  have C0 := Lib.hid hT.a26
  have C1 := Lib.hid hT.b27
  have C2 := Lib.hid hT.c27
  clear hT hP
  (
    go_enter Tryz.func13, Tryz.ntmps13
    go_wp2_with (first | (go_at_call 26; refine (C0.out _).mono ?_; rintro e w' ⟨⟨b0, rfl, hb0⟩, rfl⟩; have HB0 := Lib.hid hb0; clear hb0 C0; cases b0 <;> try (replace HB0 := Lib.hid (HB0.out rfl))) | (go_at_call 27; refine (C1.out _).mono ?_; rintro e w' ⟨⟨b1, rfl, hb1⟩, rfl⟩; have HB1 := Lib.hid hb1; clear hb1 C1; cases b1 <;> try (replace HB1 := Lib.hid (HB1.out rfl))) | (go_at_call 27; refine (C2.out _).mono ?_; rintro e w' ⟨⟨b2, rfl, hb2⟩, rfl⟩; have HB2 := Lib.hid hb2; clear hb2 C2; cases b2 <;> try (replace HB2 := Lib.hid (HB2.out rfl))))
    all_goals (
      go_ret
      first
      | exact ⟨SaysB.no, HBD.out _⟩
      | exact ⟨⟨_, rfl, fun _ => HP.out HB0.out HB1.out HB2.out⟩, HBD.out _⟩
      | (refine ⟨⟨_, rfl, fun h => ?_⟩, HBD.out _⟩; exfalso; simp at h; omega)))
end Go.Proofs.YtalajbfpilhfgaaGreatDoor
