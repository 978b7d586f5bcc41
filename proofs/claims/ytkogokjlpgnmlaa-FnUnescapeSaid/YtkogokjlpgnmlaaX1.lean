/-
  FnUnescape: for every list of parts, each of them plain text without ampersands, one of four names, or the decimal or hexadecimal number of a character, the text that they are written as is unescaped to the text that they stand for; where there are more than sixty, or one is none of these, nothing is claimed. No condition of ours: every slice that the form reads.
-/
import Derived.Test.YtkogokjlpgnmlaaRows
import Derived.Test.YtkogokjlpgnmlaaL2
import Derived.WalkKit
import Derived.ProofKit
import Derived.OpenShut
import Derived.ShutString
import Derived.ChangeOld
import Derived.Below
import Derived.Deep.Slices
import Derived.Deep.Fields
import Derived.ChangeSame
namespace Go.Proofs.Ytkogokjlpgnmlaa
open Go.ChangeShapes Go.WideShapes Go.ChangeAt Go.RowKit Go.Deep
open Go.ChangeMaps (open_string shut_string)
set_option linter.unusedVariables false

namespace FnUnescapeRow
theorem own : ownKnob Try.prog.godebug = none := by kernel_rfl
theorem laidOut : laidOutB Try.prog = true := by kernel_rfl
theorem cells25 : Try.prog.cellsOf 25 = 3 := by kernel_rfl
section
variable {H : Type} {enc : TypeId × Value → H} {P : Program} {w : World} {base : Nat} {spare : Nat → Bool} {held : Bool}
theorem open_slice_fields {t e : TypeId} {fs : Array Field} {fuel : Nat} {cs : List Value} {x : DataW H × List MemPlace} (ht : P.underlying t = some (.slice e)) (he : P.underlying e = some (.struct fs))
    (hone : oneCellFields P fs = true) (hC : P.cellsOf e = fs.size) (h : DataW.trod enc P w base spare held fuel t cs = some x) :
    (cs = [.slice none 0 0] ∧ x = (.nil, [])) ∨
    ∃ (a : Addr) (len cap m : Nat) (D : Nat → DataW H) (Pl : Nat → List MemPlace), cs = [.slice (some a) len cap] ∧ base ≤ a.block ∧ len ≤ cap ∧ cap ≤ maxLen ∧ m = (if spare a.block then cap else len) ∧
      x = (.slice ((List.range len).map D) ((List.range (m - len)).map fun j => D (len + j)), MemPlace.row a (m * fs.size) ++ (List.range m).flatMap Pl) ∧
      ∀ i, i < m → ∃ (ys : List (DataW H × List MemPlace)) (n : Nat), D i = .agg (ys.map (·.1)) ∧ Pl i = ys.flatMap (·.2) ∧ ys.length = fs.size ∧
        ∀ (j : Nat) (f : Field), fs[j]? = some f → ∃ (v : Value) (y : DataW H × List MemPlace), w.cell? (a.add (i * fs.size + j)) = some v ∧ ys[j]? = some y ∧ DataW.trod enc P w base spare held n f.type [v] = some y := by
  rcases open_slice ht h with h0 | ⟨a, len, cap, m, n, D, Pl, hcs, hb, hl, hm, hmm, hx, hi⟩
  · exact .inl h0
  · refine .inr ⟨a, len, cap, m, D, Pl, hcs, hb, hl, hm, hmm, by rw [hC] at hx; exact hx, fun i him => ?_⟩
    obtain ⟨cs', hc, ht'⟩ := hi i him
    rw [hC] at hc
    obtain ⟨ys, n', hn', hy, hlen, hyl, hf⟩ := DataW.trod_struct he ht'
    obtain ⟨_, hcl, hat⟩ := World.cells?_some hc
    simp only [Prod.mk.injEq] at hy
    refine ⟨ys, n', hy.1, hy.2, hyl, fun j f hj => ?_⟩
    obtain ⟨ho, hk⟩ := hone_of hone j f hj
    have hjl : j < fs.size := (Array.getElem?_eq_some_iff.1 hj).1
    have hcell := hat j hjl
    have hv : cs'[j]? = some (cs'[j]'(by omega)) := List.getElem?_eq_getElem (by omega)
    have h1 := hf j f hj
    rw [ho, hk] at h1
    have hone' : (cs'.drop j).take 1 = [cs'[j]'(by omega)] := by
      rw [List.drop_eq_getElem_cons (by omega)]
      rfl
    rw [hone'] at h1
    have hys : ys[j]? = some (ys[j]'(by omega)) := List.getElem?_eq_getElem (by omega)
    refine ⟨_, _, ?_, hys, h1.trans hys⟩
    rw [← Go.Deep.add_add, hcell, hv]
end

instance : Inhabited (Int × Int × ByteArray) := ⟨(0, 0, ⟨#[]⟩)⟩
/-- The argument, opened: nil, or parts in a row. -/
theorem opened {H : Type} {enc : TypeId × Value → H} {w : World} {base : Nat} {spare : Nat → Bool} {held : Bool} {fuel : Nat} {a0 : Option Addr} {len cap : Nat} {x : DataW H × List MemPlace}
    (h : DataW.trod enc Try.prog w base spare held fuel 22 [.slice a0 len cap] = some x) :
    (a0 = none ∧ len = 0 ∧ cap = 0) ∨ ∃ (ad : Addr) (K N : Nat → Int) (T : Nat → ByteArray), a0 = some ad ∧ len ≤ 9223372036854775807 ∧ (∀ i, (T i).size ≤ 9223372036854775807) ∧
      (0 < len → ∃ b off, ad = ⟨b, off, none⟩ ∧ b < w.heap.size ∧ PartsAt w b off len K N T) := by
  rcases open_slice_fields Try.underlying22 Try.underlying25 (by kernel_rfl) cells25 h with ⟨hcs, _⟩ | ⟨a, len', cap', m, D, Pl, hcs, _, hl, hm, hmm, _, hf⟩
  · simp at hcs
    exact .inl hcs
  · right
    simp at hcs
    obtain ⟨rfl, rfl, rfl⟩ := hcs
    have hlm : len ≤ m := by rw [hmm]; split <;> omega
    have hex : ∀ i, i < len → ∃ r : Int × Int × ByteArray, w.cell? (a.add (i * 3)) = some (.int .i64 r.1) ∧ w.cell? (a.add (i * 3 + 1)) = some (.int .i64 r.2.1) ∧ w.cell? (a.add (i * 3 + 2)) = some (.string r.2.2) ∧ r.2.2.size ≤ 9223372036854775807 := by
      intro i hi
      obtain ⟨ys, n, _, _, _, hg⟩ := hf i (by omega)
      obtain ⟨v0, y0, c0, _, t0⟩ := hg 0 _ rfl
      obtain ⟨v1, y1, c1, _, t1⟩ := hg 1 _ rfl
      obtain ⟨v2, y2, c2, _, t2⟩ := hg 2 _ rfl
      obtain ⟨n0, e0, _, _⟩ := DataW.trod_int Try.underlying3 t0
      obtain ⟨n1, e1, _, _⟩ := DataW.trod_int Try.underlying3 t1
      obtain ⟨s2, e2, _, hs2⟩ := DataW.trod_string Try.underlying9 t2
      simp at e0 e1 e2
      subst e0 e1 e2
      exact ⟨(n0, n1, s2), c0, c1, c2, hs2⟩
    obtain ⟨f, hff⟩ := choose_lt hex
    refine ⟨a, fun i => (f i).1, fun i => (f i).2.1, fun i => if i < len then (f i).2.2 else ⟨#[]⟩, rfl, Nat.le_trans hl hm, fun i => ?_, fun hpos => ?_⟩
    · show (if i < len then (f i).2.2 else ⟨#[]⟩ : ByteArray).size ≤ _
      split
      · rename_i hi; exact (hff i hi).2.2.2
      · decide
    · have hsp : a.spot = none := by
        have h0 := (hff 0 hpos).1
        have ha : a.add (0 * 3) = a := by simp [Addr.add]
        rw [ha] at h0
        unfold World.cell? at h0
        cases hs : a.spot with
        | none => rfl
        | some z =>
          rw [hs] at h0
          simp at h0
          split at h0 <;> simp at h0
      obtain ⟨b, off, sp⟩ := a
      simp at hsp
      subst hsp
      refine ⟨b, off, rfl, ?_, fun i hi => ?_⟩
      · have h0 := (hff 0 hpos).1
        have := World.block_lt_of_cell? w _ h0
        simpa [Addr.add] using this
      · obtain ⟨c0, c1, c2, _⟩ := hff i hi
        rw [add_pl] at c0 c1 c2
        rw [show off + i * 3 + 1 = off + (i * 3 + 1) by omega, show off + i * 3 + 2 = off + (i * 3 + 2) by omega]
        exact ⟨c0, c1, by show _ = some (Value.string (if i < len then _ else _)); rw [if_pos hi]; exact c2⟩

theorem walk (a0 : Option Addr) (len cap : Nat) (w : World) (h : (a0 = none ∧ len = 0 ∧ cap = 0) ∨ ∃ (ad : Addr) (K N : Nat → Int) (T : Nat → ByteArray), a0 = some ad ∧ len ≤ 9223372036854775807 ∧ (∀ i, (T i).size ≤ 9223372036854775807) ∧
      (0 < len → ∃ b off, ad = ⟨b, off, none⟩ ∧ b < w.heap.size ∧ PartsAt w b off len K N T)) :
    Calls Try.prog 3 #[.slice a0 len cap] w fun e w' => e = .returned (.bool true) ∧ Below w.heap.size w w' := by
  rcases h with ⟨rfl, rfl, rfl⟩ | ⟨ad, K, N, T, rfl, hl, hT, h⟩
  · exact unescape_law none 0 0 0 0 (fun h => by omega) (fun _ => 0) (fun _ => 0) (fun _ => ⟨#[]⟩) w (by omega) (fun i hi => by omega) (fun h => by omega) (fun _ => by decide)
  · by_cases hp : 0 < len
    · obtain ⟨b, off, rfl, hb, hc⟩ := h hp
      exact unescape_law _ b off len cap (fun _ => rfl) K N T w hl hc (fun _ => hb) hT
    · exact unescape_law _ 0 0 len cap (fun h => by omega) K N T w hl (fun i hi => by omega) (fun h => by omega) hT

set_option maxRecDepth 100000 in
theorem lifted (os : Os) (started : os.Started) (H : Type) (enc : TypeId × Value → H) :
    ReturnsInHanded {} Try.checked os 3 .any (Rows.fnUnescapeSpec.pre6 enc Try.prog Try.f3 Rows.fnUnescapeRow.domain false) (Rows.fnUnescapeSpec.post enc Try.prog Try.f3 false true false false) := by
  refine returnsInHanded_of_change (C := Try.checked) own started (by kernel_rfl) Try.func3
    (ChangeSpec.witness6 (enc := enc) (C := Try.checked) false ⟨#[], #[.slice none 0 0], []⟩ 8 (by kernel_rfl) (by kernel_rfl) (by kernel_rfl) (by kernel_rfl)) ?_
  intro W base args ds gs before hval0 hW hcnd _
  have hval : ∀ (j : Nat) t v, Try.f3.params[j]? = some t → args[j]? = some v → Value.okWide Try.prog W .any base t v := hval0
  have hW' := hW
  obtain ⟨p, q, hA0, hV, rfl, hfz, hnd⟩ := hW
  have hA : DataW.TrodAll enc Try.prog W 0 (fun _ => true) true Try.f3.params.toList args.toList ds p := hA0
  rw [Try.params3] at hA hval
  obtain ⟨v0, vs0, d0, ds0, p0, q0, hargs, rfl, rfl, h0, r0⟩ := trodAll_cons hA
  obtain ⟨rfl, rfl, rfl⟩ := trodAll_nil r0
  obtain rfl : args = #[v0] := by cases args; simp_all
  obtain ⟨rfl, rfl⟩ := trodVars_none hV
  obtain ⟨a0, len0, cap0, rfl⟩ := okWide_slice Try.underlying22 (hval 0 22 v0 rfl rfl)
  have k0 := h0
  have lt0 : ∀ x ∈ p0, x.block < W.heap.size := by obtain ⟨m, hm⟩ := k0; exact DataW.trod_lt m _ _ _ hm
  obtain ⟨fuel, hf⟩ := h0
  have w0 := opened hf
  clear hA0 hval0
  refine (walk a0 len0 cap0 W w0).mono fun e W' ⟨he, bel⟩ => ?_
  subst he
  exact ⟨_, rfl, _, _, _, [], _, [], hW', trodAll_mk1 (shut_bool Try.underlying4 _), (trodAll_cons_mk (Below.trod laidOut (by kernel_rfl) (of_decide_eq_true (by kernel_rfl)) k0 bel lt0) trodAll_mk0), rfl, bel.frame _, fun h => by cases h⟩

theorem over : Rows.fnUnescapeRow.holds Try.pinned (OpenSpec.ofChange Rows.fnUnescapeSpec) :=
  OpenClaim.holds_of_wide 3 Try.f3 rfl rfl rfl rfl rfl rfl rfl ⟨rfl, rfl, rfl, rfl, rfl⟩ rfl rfl rfl rfl rfl (by kernel_rfl) Try.func3 (by kernel_rfl)
    (of_decide_eq_true (by kernel_rfl)) (by unfold Func.isWrapper; first | (rw [if_pos (by decide +kernel)]; kernel_rfl) | (rw [if_neg (by decide +kernel)]; exact ⟨rfl, rfl⟩))
    (fun os started H enc _ => lifted os started H enc)
end FnUnescapeRow

/-- The statement. -/
theorem fnUnescape_holds : Rows.FnUnescapeSaid := FnUnescapeRow.over
#print axioms fnUnescape_holds
end Go.Proofs.Ytkogokjlpgnmlaa
