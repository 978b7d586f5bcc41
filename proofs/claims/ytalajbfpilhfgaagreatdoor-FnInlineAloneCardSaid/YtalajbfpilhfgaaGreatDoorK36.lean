/-
  FnInlineAlone: a piece, whatever its kind: right or not, and how it is written.
  FnInlineAlone: what a piece means: new lists of nodes.
-/
import Derived.Test.YtalajbfpilhfgaaGreatDoorK26
import Derived.Test.YtalajbfpilhfgaaGreatDoorK28
import Derived.Test.YtalajbfpilhfgaaGreatDoorK29
import Derived.Test.YtalajbfpilhfgaaGreatDoorK30
import Derived.Test.YtalajbfpilhfgaaGreatDoorK32
import Derived.Test.YtalajbfpilhfgaaGreatDoorK33
import Derived.Test.YtalajbfpilhfgaaGreatDoorK34
import Derived.Test.YtalajbfpilhfgaaGreatDoorK35
set_option linter.unusedVariables false
set_option linter.unusedSimpArgs false
namespace Go.Proofs.YtalajbfpilhfgaaGreatDoor
open Go.RowKit

theorem told (a b c : Bs) (ha : a.length ≤ 1000000000000) (hb : b.length ≤ 1000000000000) (hc : c.length ≤ 1000000000000) :
    Told ⟨a.toArray⟩ ⟨b.toArray⟩ ⟨c.toArray⟩ (Words a) (Words b) (Words c) (Target b) (Target c) (One a) (One b) (a = [] ∨ One a) (b = [] ∨ One b) where
  a26 := words26l a ha
  b26 := words26l b hb
  c26 := words26l c hc
  b27 := target27l b
  c27 := target27l c
  a28 := fun w => (one28l a false ha w).mono (fun e w' h => ⟨h.1.mono (fun h => h.resolve_left (fun h => by cases h.1)), h.2⟩)
  b28 := fun w => (one28l b false hb w).mono (fun e w' h => ⟨h.1.mono (fun h => h.resolve_left (fun h => by cases h.1)), h.2⟩)
  a28t := fun w => (one28l a true ha w).mono (fun e w' h => ⟨h.1.mono (fun h => h.imp (fun h => h.2) id), h.2⟩)
  b28t := fun w => (one28l b true hb w).mono (fun e w' h => ⟨h.1.mono (fun h => h.imp (fun h => h.2) id), h.2⟩)
theorem piece13 (p : Pc) (bg : Bool) (ha : p.a.length ≤ 1000000000000) (hb : p.b.length ≤ 1000000000000) (hc : p.c.length ≤ 1000000000000) (w : World) :
    Calls Tryz.prog 13 #[.agg p.vals.toArray, .bool bg] w fun e w' => SaysB (Right p bg) e ∧ Below w.heap.size w w' := by
  obtain ⟨kind, ch, var, sep, a, b, c⟩ := p
  show Calls Tryz.prog 13 #[.agg #[.int .i64 kind, .int .i64 ch, .int .i64 var, .int .i64 sep, .string ⟨a.toArray⟩, .string ⟨b.toArray⟩, .string ⟨c.toArray⟩], .bool bg] w _
  by_cases hh : 0 ≤ kind ∧ kind < 21 ∧ 0 ≤ ch ∧ ch ≤ 1 ∧ 0 ≤ var ∧ 0 ≤ sep ∧ sep < 4
  · obtain ⟨h1, h2, h3, h4, h5, h6, h7⟩ := hh
    have hT := told a b c ha hb hc
    have hk : kind = 0 ∨ kind = 1 ∨ kind = 2 ∨ kind = 3 ∨ kind = 4 ∨ kind = 5 ∨ kind = 6 ∨ kind = 7 ∨ kind = 8 ∨ kind = 9 ∨ kind = 10 ∨ kind = 11 ∨ kind = 12 ∨ kind = 13 ∨ kind = 14 ∨ kind = 15 ∨ kind = 16 ∨ kind = 17 ∨ kind = 18 ∨ kind = 19 ∨ kind = 20 := by omega
    rcases hk with rfl | rfl | rfl | rfl | rfl | rfl | rfl | rfl | rfl | rfl | rfl | rfl | rfl | rfl | rfl | rfl | rfl | rfl | rfl | rfl | rfl
    · exact piece_0 ch var sep _ _ _ bg _ _ _ _ _ _ _ _ _ _ w h3 h4 h5 h6 h7 hT (fun x0 => ⟨h3, h4, h5, h6, h7, .inl ⟨.inl rfl, x0⟩⟩)
    · exact piece_1 ch var sep _ _ _ bg _ _ _ _ _ _ _ _ _ _ w h3 h4 h5 h6 h7 hT (fun x0 => ⟨h3, h4, h5, h6, h7, .inl ⟨.inr (.inl rfl), x0⟩⟩)
    · exact piece_2 ch var sep _ _ _ bg _ _ _ _ _ _ _ _ _ _ w h3 h4 h5 h6 h7 hT (fun x0 => ⟨h3, h4, h5, h6, h7, .inl ⟨.inr (.inr (.inl rfl)), x0⟩⟩)
    · exact piece_3 ch var sep _ _ _ bg _ _ _ _ _ _ _ _ _ _ w h3 h4 h5 h6 h7 hT (fun x0 => ⟨h3, h4, h5, h6, h7, .inl ⟨.inr (.inr (.inr (.inl rfl))), x0⟩⟩)
    · exact piece_4 ch var sep _ _ _ bg _ _ _ _ _ _ _ _ _ _ w h3 h4 h5 h6 h7 hT (fun x0 => ⟨h3, h4, h5, h6, h7, .inl ⟨.inr (.inr (.inr (.inr rfl))), x0⟩⟩)
    · exact piece_5 ch var sep _ _ _ bg _ _ _ _ _ _ _ _ _ _ w h3 h4 h5 h6 h7 hT (fun v1 x0 x1 => ⟨h3, h4, h5, h6, h7, .inr (.inl ⟨rfl, v1, x0, x1⟩)⟩)
    · exact piece_6 ch var sep _ _ _ bg _ _ _ _ _ _ _ _ _ _ w h3 h4 h5 h6 h7 hT (fun v1 x0 x1 x2 => ⟨h3, h4, h5, h6, h7, .inr (.inr (.inl ⟨.inl rfl, v1, x0, x1, x2⟩))⟩)
    · exact piece_7 ch var sep _ _ _ bg _ _ _ _ _ _ _ _ _ _ w h3 h4 h5 h6 h7 hT (fun v1 x0 x1 x2 => ⟨h3, h4, h5, h6, h7, .inr (.inr (.inl ⟨.inr rfl, v1, x0, x1, x2⟩))⟩)
    · exact piece_8 ch var sep _ _ _ bg _ _ _ _ _ _ _ _ _ _ w h3 h4 h5 h6 h7 hT (fun v1 x0 x1 => ⟨h3, h4, h5, h6, h7, .inr (.inr (.inr (.inl ⟨rfl, v1, x0, x1⟩)))⟩)
    · exact piece_9 ch var sep _ _ _ bg _ _ _ _ _ _ _ _ _ _ w h3 h4 h5 h6 h7 hT (fun x0 x1 => ⟨h3, h4, h5, h6, h7, .inr (.inr (.inr (.inr (.inl ⟨rfl, x0, x1⟩))))⟩)
    · exact piece_10 ch var sep _ _ _ bg _ _ _ _ _ _ _ _ _ _ w h3 h4 h5 h6 h7 hT (fun v1 x0 x1 => ⟨h3, h4, h5, h6, h7, .inr (.inr (.inr (.inr (.inr (.inl ⟨rfl, v1, x0, x1⟩)))))⟩)
    · exact piece_11 ch var sep _ _ _ bg _ _ _ _ _ _ _ _ _ _ w h3 h4 h5 h6 h7 hT (fun v1 => ⟨h3, h4, h5, h6, h7, .inr (.inr (.inr (.inr (.inr (.inr (.inl ⟨rfl, v1⟩))))))⟩)
    · exact piece_12 ch var sep _ _ _ bg _ _ _ _ _ _ _ _ _ _ w h3 h4 h5 h6 h7 hT (fun v1 g1 => ⟨h3, h4, h5, h6, h7, .inr (.inr (.inr (.inr (.inr (.inr (.inr (.inl ⟨rfl, v1, g1⟩)))))))⟩)
    · exact piece_13 ch var sep _ _ _ bg _ _ _ _ _ _ _ _ _ _ w h3 h4 h5 h6 h7 hT (fun v1 g1 s1 => ⟨h3, h4, h5, h6, h7, .inr (.inr (.inr (.inr (.inr (.inr (.inr (.inr (.inl ⟨rfl, v1, g1, s1⟩))))))))⟩)
    · exact piece_14 ch var sep _ _ _ bg _ _ _ _ _ _ _ _ _ _ w h3 h4 h5 h6 h7 hT (fun x0 x1 x2 => ⟨h3, h4, h5, h6, h7, .inr (.inr (.inr (.inr (.inr (.inr (.inr (.inr (.inr (.inl ⟨.inl rfl, x0, x1, x2⟩)))))))))⟩)
    · exact piece_15 ch var sep _ _ _ bg _ _ _ _ _ _ _ _ _ _ w h3 h4 h5 h6 h7 hT (fun x0 x1 x2 => ⟨h3, h4, h5, h6, h7, .inr (.inr (.inr (.inr (.inr (.inr (.inr (.inr (.inr (.inl ⟨.inr (.inl rfl), x0, x1, x2⟩)))))))))⟩)
    · exact piece_16 ch var sep _ _ _ bg _ _ _ _ _ _ _ _ _ _ w h3 h4 h5 h6 h7 hT (fun x0 x1 x2 => ⟨h3, h4, h5, h6, h7, .inr (.inr (.inr (.inr (.inr (.inr (.inr (.inr (.inr (.inr (.inl ⟨.inl rfl, x0, x1, x2⟩))))))))))⟩)
    · exact piece_17 ch var sep _ _ _ bg _ _ _ _ _ _ _ _ _ _ w h3 h4 h5 h6 h7 hT (fun x0 x1 x2 => ⟨h3, h4, h5, h6, h7, .inr (.inr (.inr (.inr (.inr (.inr (.inr (.inr (.inr (.inr (.inl ⟨.inr rfl, x0, x1, x2⟩))))))))))⟩)
    · exact piece_18 ch var sep _ _ _ bg _ _ _ _ _ _ _ _ _ _ w h3 h4 h5 h6 h7 hT (fun x0 x1 x2 => ⟨h3, h4, h5, h6, h7, .inr (.inr (.inr (.inr (.inr (.inr (.inr (.inr (.inr (.inl ⟨.inr (.inr (.inl rfl)), x0, x1, x2⟩)))))))))⟩)
    · exact piece_19 ch var sep _ _ _ bg _ _ _ _ _ _ _ _ _ _ w h3 h4 h5 h6 h7 hT (fun x0 x1 x2 => ⟨h3, h4, h5, h6, h7, .inr (.inr (.inr (.inr (.inr (.inr (.inr (.inr (.inr (.inl ⟨.inr (.inr (.inr rfl)), x0, x1, x2⟩)))))))))⟩)
    · exact piece_20 ch var sep _ _ _ bg _ _ _ _ _ _ _ _ _ _ w h3 h4 h5 h6 h7 hT (fun x0 x1 x2 => ⟨h3, h4, h5, h6, h7, .inr (.inr (.inr (.inr (.inr (.inr (.inr (.inr (.inr (.inr (.inr (⟨rfl, x0, x1, x2⟩)))))))))))⟩)
  · exact piece_bad kind ch var sep _ _ _ bg _ w hh
theorem Words.small {l : Bs} (h : Words l) : l.length ≤ 100 := by have := h.len; omega
theorem Target.small {l : Bs} (h : Target l) : l.length ≤ 100 := by have := h.len; omega
theorem One.small {l : Bs} (h : One l) : l.length ≤ 100 := h.1.small
theorem opt_small {l : Bs} (h : l = [] ∨ One l) : l.length ≤ 100 := by
  rcases h with rfl | h
  · decide
  · exact h.small
theorem wr15 (p : Pc) (bg : Bool) (h : Right p bg) (ha : p.a.length ≤ 1000000000000) (hb : p.b.length ≤ 1000000000000) (hc : p.c.length ≤ 1000000000000) (w : World) :
    Calls Tryz.prog 15 #[.agg p.vals.toArray] w fun e w' => e = .returned (strV (wr p)) ∧ Below w.heap.size w w' := by
  obtain ⟨kind, ch, var, sep, a, b, c⟩ := p
  show Calls Tryz.prog 15 #[.agg #[.int .i64 kind, .int .i64 ch, .int .i64 var, .int .i64 sep, strV a, strV b, strV c]] w fun e w' => e = .returned (strV (wrK (oneC ch) (oddC ch) a b c kind.toNat var.toNat)) ∧ Below w.heap.size w w'
  obtain ⟨h1, h2, h3, h4, h5, hK⟩ := h
  have hch : ch = 0 ∨ ch = 1 := by simp only at h1 h2; omega
  simp only at h3
  obtain ⟨v, hv⟩ : ∃ v : Nat, var = v := ⟨var.toNat, by omega⟩
  subst hv
  rcases hK with ⟨hk, ra⟩ | ⟨hk, hv, ra, rb⟩ | ⟨hk, hv, ra, rb, rc⟩ | ⟨hk, hv, ra, rb⟩ | ⟨hk, ra, rb⟩ | ⟨hk, hv, ra, rb⟩ | ⟨hk, hv⟩ | ⟨hk, hv, -⟩ | ⟨hk, hv, -⟩ | ⟨hk, ra, rb, rc⟩ | ⟨hk, ra, rb, rc⟩ | ⟨hk, ra, rb, rc⟩
  · rcases hk with hk | hk | hk | hk | hk <;> (simp only at hk; subst hk)
    · exact wr_0 ch sep _ a b c hch (ra.small) hb hc w
    · exact wr_1 ch sep _ a b c hch (ra.small) hb hc w
    · exact wr_2 ch sep _ a b c hch (ra.small) hb hc w
    · exact wr_3 ch sep _ a b c hch (ra.small) hb hc w
    · exact wr_4 ch sep _ a b c hch (ra.small) hb hc w
  · simp only at hk hv
    subst hk
    have : v = 0 ∨ v = 1 ∨ v = 2 ∨ v = 3 := by omega
    rcases this with rfl | rfl | rfl | rfl
    · exact wr_5_0 ch sep a b c hch (ra.small) rb.small hc w
    · exact wr_5_1 ch sep a b c hch (ra.small) rb.small hc w
    · exact wr_5_2 ch sep a b c hch (ra.small) rb.small hc w
    · exact wr_5_3 ch sep a b c hch (ra.small) rb.small hc w
  · have : v = 0 ∨ v = 1 ∨ v = 2 ∨ v = 3 ∨ v = 4 := by simp only at hv; omega
    rcases hk with hk | hk <;> (simp only at hk; subst hk)
    · rcases this with rfl | rfl | rfl | rfl | rfl
      · exact wr_6_0 ch sep a b c hch (ra.small) rb.small rc.small w
      · exact wr_6_1 ch sep a b c hch (ra.small) rb.small rc.small w
      · exact wr_6_2 ch sep a b c hch (ra.small) rb.small rc.small w
      · exact wr_6_3 ch sep a b c hch (ra.small) rb.small rc.small w
      · exact wr_6_4 ch sep a b c hch (ra.small) rb.small rc.small w
    · rcases this with rfl | rfl | rfl | rfl | rfl
      · exact wr_7_0 ch sep a b c hch (ra.small) rb.small rc.small w
      · exact wr_7_1 ch sep a b c hch (ra.small) rb.small rc.small w
      · exact wr_7_2 ch sep a b c hch (ra.small) rb.small rc.small w
      · exact wr_7_3 ch sep a b c hch (ra.small) rb.small rc.small w
      · exact wr_7_4 ch sep a b c hch (ra.small) rb.small rc.small w
  · simp only at hk hv; subst hk; exact wr_8 ch sep v a b c hch (by omega) (ra.small) rb.small hc w
  · simp only at hk; subst hk; exact wr_9 ch sep _ a b c hch (ra.small) rb.small hc w
  · simp only at hk hv; subst hk; exact wr_10 ch sep v a b c hch (by omega) (opt_small ra) (opt_small rb) hc w
  · simp only at hk hv; subst hk; exact wr_11 ch sep v a b c hch (by omega) ha hb hc w
  · simp only at hk hv; subst hk; exact wr_12 ch sep v a b c hch (by omega) ha hb hc w
  · simp only at hk hv; subst hk; exact wr_13 ch sep v a b c hch (by omega) ha hb hc w
  · rcases hk with hk | hk | hk | hk <;> (simp only at hk; subst hk)
    · exact wr_14 ch sep _ a b c hch (ra.small) rb.small rc.small w
    · exact wr_15 ch sep _ a b c hch (ra.small) rb.small rc.small w
    · exact wr_18 ch sep _ a b c hch (ra.small) rb.small rc.small w
    · exact wr_19 ch sep _ a b c hch (ra.small) rb.small rc.small w
  · rcases hk with hk | hk <;> (simp only at hk; subst hk)
    · exact wr_16 ch sep _ a b c hch (ra.small) rb.small rc.small w
    · exact wr_17 ch sep _ a b c hch (ra.small) rb.small rc.small w
  · simp only at hk; subst hk; exact wr_20 ch sep _ a b c hch (ra.small) rb.small rc.small w

def MadeN (w : World) (l : List InN) (e : Ending) (w' : World) : Prop := ∃ g, e = .returned (.slice (some ⟨g, 0, none⟩) l.length l.length) ∧ w.heap.size ≤ g ∧ w'.heap[g]? = some (.cells (cellsN l).toArray 52 (0, 0)) ∧ Below w.heap.size w w'
theorem madeN {w w1 : World} {l : List InN} {cs : Array Value} {n : Nat} (hb : Below w.heap.size w w1) (hc : cs = (cellsN l).toArray) (hn : n = l.length) : MadeN w l (.returned (.slice (some ⟨w1.heap.size, 0, none⟩) n n)) (w1.alloc (.cells cs 52)) := by
  subst hc hn
  exact ⟨_, rfl, hb.size, heap_alloc_new w1 _, hb.alloc hb.size _⟩
theorem ba_app (x y : Array UInt8) : (⟨x⟩ : ByteArray) ++ ⟨y⟩ = ⟨x ++ y⟩ := by
  apply ByteArray.ext
  simp [ByteArray.data_append]
end Go.Proofs.YtalajbfpilhfgaaGreatDoor
