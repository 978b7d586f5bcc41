/-
  FnInlineAlone: for all extensions and all lists of at most 24 pieces (words, emphasis, code, links, images, automatic links, escapes, entities, tags, lone characters, one in another), the inline parser alone finds in their line just the nodes that they mean; where the pieces are none of these nothing is claimed. No condition of ours: every slice that the form reads. The card ties the four listed package-level variables to the program's text (none is read on the way).
-/
import Derived.Test.YtalajbfpilhfgaaGreatDoorK50
import Derived.Test.YtalajbfpilhfgaaGreatDoorRows
import Derived.Test.YtalajbfpilhfgaaGreatDoorCards
import Derived.Test.YtalajbfpilhfgaaGreatDoorTie
import Derived.WalkKit
import Derived.ProofKit
import Derived.LaidMore
import Derived.OpenShut
import Derived.ShutString
import Derived.ChangeOld
import Derived.Below
import Derived.Deep.Slices
import Derived.Stop.Joined
import Derived.SevenTiedAt
set_option linter.unusedVariables false
set_option linter.unusedSimpArgs false
namespace Go.Proofs.YtalajbfpilhfgaaGreatDoor
open Go.ChangeShapes Go.WideShapes Go.ChangeAt Go.RowKit
set_option linter.unusedVariables false

namespace FnInlineAloneRow
theorem own : ownKnob Tryz.prog.godebug = none := by kernel_rfl
theorem laidOut : laidOutB Tryz.prog = true := by kernel_rfl
theorem door_met (os : Os) (args : Array Value) : laidMetH Tryz.prog Rows.fnInlineAloneRow.laid ((World.doorLaid Tryz.prog 400 os).forCall (fun _ _ => 0) ⟨#[], args, []⟩).memory :=
  laidMetH_of_parts3 (fuel := 8) (laidMet_of_run' 8 (by kernel_rfl) (by kernel_rfl)) (by kernel_rfl) (by kernel_rfl)
instance : Inhabited Pc := ⟨⟨0, 0, 0, 0, [], [], []⟩⟩
theorem one3 : Tryz.prog.cellsOf 3 = 1 := by kernel_rfl
theorem one9 : Tryz.prog.cellsOf 9 = 1 := by kernel_rfl
theorem seven37 : Tryz.prog.cellsOf 37 = 7 := by kernel_rfl

set_option maxRecDepth 100000 in
/-- A piece that came in. -/
theorem open_pc {H : Type} {enc : TypeId × Value → H} {w : World} {base : Nat} {spare : Nat → Bool} {held : Bool} {fuel : Nat} {cs : List Value} {x : DataW H × List MemPlace} (hl : cs.length = 7) (h : DataW.trod enc Tryz.prog w base spare held fuel 37 cs = some x) : ∃ p : Pc, cs = p.vals := by
  obtain ⟨xs, n, _, rfl, _, hxl, hf⟩ := DataW.trod_struct Tryz.underlying37 h
  match cs, hl with
  | [c0, c1, c2, c3, c4, c5, c6], _ =>
    have hx : ∀ i, i < 7 → ∃ y, xs[i]? = some y := fun i hi => ⟨_, List.getElem?_eq_getElem (by rw [hxl]; exact hi)⟩
    have int : ∀ (i : Nat) (c : Value) (y : DataW H × List MemPlace), DataW.trod enc Tryz.prog w base spare held n 3 [c] = some y → ∃ k, c = .int .i64 k := fun i c y hy => by
      obtain ⟨k, h1, _⟩ := DataW.trod_int Tryz.underlying3 hy
      exact ⟨k, by simpa using h1⟩
    have str : ∀ (i : Nat) (c : Value) (y : DataW H × List MemPlace), DataW.trod enc Tryz.prog w base spare held n 9 [c] = some y → ∃ l : Bs, c = strV l := fun i c y hy => by
      obtain ⟨s, h1, _⟩ := DataW.trod_string Tryz.underlying9 hy
      refine ⟨s.data.toList, ?_⟩
      have : c = .string s := by simpa using h1
      rw [this]
    obtain ⟨y0, e0⟩ := hx 0 (by decide)
    obtain ⟨y1, e1⟩ := hx 1 (by decide)
    obtain ⟨y2, e2⟩ := hx 2 (by decide)
    obtain ⟨y3, e3⟩ := hx 3 (by decide)
    obtain ⟨y4, e4⟩ := hx 4 (by decide)
    obtain ⟨y5, e5⟩ := hx 5 (by decide)
    obtain ⟨y6, e6⟩ := hx 6 (by decide)
    have f0 : DataW.trod enc Tryz.prog w base spare held n 3 [c0] = some y0 := by
      have h : DataW.trod enc Tryz.prog w base spare held n 3 (([c0, c1, c2, c3, c4, c5, c6].drop 0).take (Tryz.prog.cellsOf 3)) = some y0 := (hf 0 _ rfl).trans e0
      rw [one3] at h
      exact h
    have f1 : DataW.trod enc Tryz.prog w base spare held n 3 [c1] = some y1 := by
      have h : DataW.trod enc Tryz.prog w base spare held n 3 (([c0, c1, c2, c3, c4, c5, c6].drop 1).take (Tryz.prog.cellsOf 3)) = some y1 := (hf 1 _ rfl).trans e1
      rw [one3] at h
      exact h
    have f2 : DataW.trod enc Tryz.prog w base spare held n 3 [c2] = some y2 := by
      have h : DataW.trod enc Tryz.prog w base spare held n 3 (([c0, c1, c2, c3, c4, c5, c6].drop 2).take (Tryz.prog.cellsOf 3)) = some y2 := (hf 2 _ rfl).trans e2
      rw [one3] at h
      exact h
    have f3 : DataW.trod enc Tryz.prog w base spare held n 3 [c3] = some y3 := by
      have h : DataW.trod enc Tryz.prog w base spare held n 3 (([c0, c1, c2, c3, c4, c5, c6].drop 3).take (Tryz.prog.cellsOf 3)) = some y3 := (hf 3 _ rfl).trans e3
      rw [one3] at h
      exact h
    have f4 : DataW.trod enc Tryz.prog w base spare held n 9 [c4] = some y4 := by
      have h : DataW.trod enc Tryz.prog w base spare held n 9 (([c0, c1, c2, c3, c4, c5, c6].drop 4).take (Tryz.prog.cellsOf 9)) = some y4 := (hf 4 _ rfl).trans e4
      rw [one9] at h
      exact h
    have f5 : DataW.trod enc Tryz.prog w base spare held n 9 [c5] = some y5 := by
      have h : DataW.trod enc Tryz.prog w base spare held n 9 (([c0, c1, c2, c3, c4, c5, c6].drop 5).take (Tryz.prog.cellsOf 9)) = some y5 := (hf 5 _ rfl).trans e5
      rw [one9] at h
      exact h
    have f6 : DataW.trod enc Tryz.prog w base spare held n 9 [c6] = some y6 := by
      have h : DataW.trod enc Tryz.prog w base spare held n 9 (([c0, c1, c2, c3, c4, c5, c6].drop 6).take (Tryz.prog.cellsOf 9)) = some y6 := (hf 6 _ rfl).trans e6
      rw [one9] at h
      exact h
    obtain ⟨k0, rfl⟩ := int 0 c0 y0 f0
    obtain ⟨k1, rfl⟩ := int 1 c1 y1 f1
    obtain ⟨k2, rfl⟩ := int 2 c2 y2 f2
    obtain ⟨k3, rfl⟩ := int 3 c3 y3 f3
    obtain ⟨l4, rfl⟩ := str 4 c4 y4 f4
    obtain ⟨l5, rfl⟩ := str 5 c5 y5 f5
    obtain ⟨l6, rfl⟩ := str 6 c6 y6 f6
    exact ⟨⟨k0, k1, k2, k3, l4, l5, l6⟩, rfl⟩
/-- A list of pieces that came in. -/
theorem open_pcs {H : Type} {enc : TypeId × Value → H} {w : World} {fuel : Nat} {A : Option Addr} {len cap : Nat} {x : DataW H × List MemPlace} (h : DataW.trod enc Tryz.prog w 0 (fun _ => true) true fuel 22 [.slice A len cap] = some x) : ∃ l, RdP w A len cap l := by
  rcases Deep.open_slice Tryz.underlying22 h with ⟨hcs, _⟩ | ⟨a, len', cap', m, n, D, Pl, hcs, hb, hl, hm, hmm, _, hx⟩
  · simp at hcs
    obtain ⟨rfl, rfl, rfl⟩ := hcs
    exact ⟨[], rfl, Nat.le_refl _, Nat.zero_le _, fun h => absurd h (Nat.lt_irrefl _)⟩
  · simp at hcs
    obtain ⟨rfl, rfl, rfl⟩ := hcs
    simp at hmm
    subst hmm
    rw [seven37] at hx
    obtain ⟨f, hf⟩ := Deep.choose_lt (α := Pc) (n := len) (p := fun i p => w.cells? 0 (a.add (i * 7)) 7 = some p.vals) (fun i hi => by
      obtain ⟨cs', h1, h2⟩ := hx i (by omega)
      obtain ⟨_, h3, _⟩ := World.cells?_some h1
      obtain ⟨p, rfl⟩ := open_pc h3 h2
      exact ⟨p, h1⟩)
    refine ⟨(List.range len).map f, by simp, hl, hm, fun h0 => ?_⟩
    have hc : ∀ i, i < len → ∀ j, j < 7 → w.cell? ((a.add (i * 7)).add j) = (f i).vals[j]? := fun i hi j hj => (World.cells?_some (hf i hi)).2.2 j hj
    obtain ⟨b, o, spot⟩ := a
    have hs : spot = none := by
      have h1 := hc 0 h0 0 (by decide)
      have h2 : (f 0).vals[0]? = some (.int .i64 (f 0).kind) := rfl
      rw [h2] at h1
      have := World.cell?_spot h1
      simpa [Addr.add] using this
    subst hs
    refine ⟨b, o, rfl, fun i p hp j hj => ?_⟩
    have hi : i < len := by
      have := (List.getElem?_eq_some_iff.1 hp).1
      simpa using this
    rw [List.getElem?_map, List.getElem?_range hi] at hp
    have hp' : f i = p := by simpa using hp
    subst hp'
    have := hc i hi j hj
    rw [add_at, add_at] at this
    exact this

set_option maxRecDepth 100000 in
theorem lifted (os : Os) (started : os.Started) (H : Type) (enc : TypeId × Value → H) :
    ReturnsInHanded {} Tryz.checked os 3 .any (fun w args => (Rows.fnInlineAloneSpec.pre enc Tryz.prog Tryz.f3 [] false w args ∧ laidMetH Tryz.prog Rows.fnInlineAloneRow.laid w) ∧ sizedMet enc Tryz.prog Tryz.f3 (OpenSpec.ofChange Rows.fnInlineAloneSpec) false w args)
      (Rows.fnInlineAloneSpec.post enc Tryz.prog Tryz.f3 false true false false) := by
  refine returnsInHanded_of_change_and (C := Tryz.checked) (X := fun w _ => laidMetH Tryz.prog Rows.fnInlineAloneRow.laid w) (fun _ _ _ hh h => h.of_heap hh) own started (by kernel_rfl) Tryz.func3
    (ChangeSpec.witness_shaped (enc := enc) (C := Tryz.checked) (os := os) (X := fun w _ => laidMetH Tryz.prog Rows.fnInlineAloneRow.laid w) false (World.doorLaid Tryz.prog 400 os) #[.int .i64 0, .slice none 0 0] 8 rfl (World.shaped_of_RefB (by kernel_rfl) (by kernel_rfl)) (by kernel_rfl) (by kernel_rfl) (by kernel_rfl) (door_met os _)) ?_
  intro W base args ds gs before hval0 hW _ _ _ _
  have hval : ∀ (j : Nat) t v, Tryz.f3.params[j]? = some t → args[j]? = some v → Value.okWide Tryz.prog W .any base t v := hval0
  have hW' := hW
  obtain ⟨p, q, hA0, hV, rfl, hfz, hnd⟩ := hW
  have hA : DataW.TrodAll enc Tryz.prog W 0 (fun _ => true) true Tryz.f3.params.toList args.toList ds p := hA0
  rw [Tryz.params3] at hA hval
  obtain ⟨v0, vs0, d0, ds0, p0, q0, hargs, rfl, rfl, h0, r0⟩ := trodAll_cons hA
  obtain ⟨v1, vs1, d1, ds1, p1, q1, rfl, rfl, rfl, h1, r1⟩ := trodAll_cons r0
  obtain ⟨rfl, rfl, rfl⟩ := trodAll_nil r1
  obtain rfl : args = #[v0, v1] := by cases args; simp_all
  obtain ⟨rfl, rfl⟩ := trodVars_none hV
  have k0 := h0
  have k1 := h1
  have lt0 : ∀ x ∈ p0, x.block < W.heap.size := by obtain ⟨m, hm⟩ := k0; exact DataW.trod_lt m _ _ _ hm
  have lt1 : ∀ x ∈ p1, x.block < W.heap.size := by obtain ⟨m, hm⟩ := k1; exact DataW.trod_lt m _ _ _ hm
  obtain ⟨a0, len0, cap0, rfl⟩ := okWide_slice Tryz.underlying22 (hval 1 22 v1 rfl rfl)
  obtain ⟨e, rfl⟩ : ∃ e, v0 = .int .i64 e := by
    obtain ⟨e, he, _⟩ := open_int Tryz.underlying2 (hval 0 2 v0 rfl rfl) h0
    exact ⟨e, he⟩
  obtain ⟨l, hl⟩ : ∃ l, RdP W a0 len0 cap0 l := by
    obtain ⟨fuel, hf⟩ := h1
    exact open_pcs (x := (d1, p1)) hf
  clear hA0 hval0
  refine (law3 e a0 len0 cap0 l W hl).mono fun r W' ⟨he, bel⟩ => ?_
  subst he
  exact ⟨_, rfl, _, _, _, [], _, [], hW', trodAll_mk1 (shut_bool Tryz.underlying4 _), (trodAll_cons_mk (Below.trod laidOut (by kernel_rfl) (of_decide_eq_true (by kernel_rfl)) k0 bel lt0) (trodAll_cons_mk (Below.trod laidOut (by kernel_rfl) (of_decide_eq_true (by kernel_rfl)) k1 bel lt1) trodAll_mk0)), rfl, bel.frame _, fun h => by cases h⟩

theorem over : Rows.fnInlineAloneRow.holds Tryz.pinned (OpenSpec.ofChange Rows.fnInlineAloneSpec) :=
  OpenClaim.holds_of_wide 3 Tryz.f3 rfl rfl rfl rfl rfl rfl rfl ⟨rfl, rfl, rfl, rfl, rfl⟩ rfl rfl rfl rfl rfl (by kernel_rfl) Tryz.func3 (by kernel_rfl)
    (of_decide_eq_true (by kernel_rfl)) (by unfold Func.isWrapper; first | (rw [if_pos (by decide +kernel)]; kernel_rfl) | (rw [if_neg (by decide +kernel)]; exact ⟨rfl, rfl⟩))
    (fun os started H enc _ => lifted os started H enc)
end FnInlineAloneRow

/-- The statement: the tied card. -/
theorem fnInlineAloneCard_holds : Rows.FnInlineAloneCardSaid :=
  Claim7.holds_tied_plain_at .later [] [.data, .data, .data, .sentinel] true (true, "148fdf303880c9ca6f394c67ee91bba53d9c1c18046a541bf068960b7b221b7d") false
    FnInlineAloneRow.over (fun _ h => by cases h) (by kernel_rfl) (fun _ h => by cases h) fnInlineAlone_row_tie rfl ⟨rfl, rfl⟩ (by kernel_rfl) rfl
    (fun f fn hf hfn => by
      obtain rfl : f = 3 := Option.some.inj ((show Tryz.prog.funcNamed "pub-pamphlet/laws.FnInlineAlone" = some 3 by kernel_rfl).symm.trans hf) |>.symm
      obtain rfl : fn = Tryz.f3 := (Option.some.inj (Tryz.func3.symm.trans hfn)).symm
      exact ⟨by kernel_rfl, fun j t ht => by
        rw [Tryz.params3] at ht
        have hm : t ∈ [2, 22] := by simpa using Array.mem_of_getElem? ht
        have hall : ([2, 22].all fun u => !Tryz.prog.wantsStandIn u) = true := by kernel_rfl
        exact (show Tryz.prog.wantsStandIn t = false by simpa using List.all_eq_true.1 hall t hm)⟩)
    (by kernel_rfl)
#print axioms fnInlineAloneCard_holds
end Go.Proofs.YtalajbfpilhfgaaGreatDoor
