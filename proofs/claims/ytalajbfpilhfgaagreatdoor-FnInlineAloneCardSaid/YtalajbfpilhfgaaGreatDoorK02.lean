/-
  FnInlineAlone: the inline parser, over what its callbacks answer.
  FnInlineAlone: callbacks: line breaks.
-/
import Derived.Test.YtalajbfpilhfgaaGreatDoorK01
import Derived.Deep.QuietTactic
import Derived.BigQuiet
import Derived.Outline
import Derived.Laws.BitsAllLaws
import Derived.Laws.BitsLemmas
set_option linter.unusedVariables false
set_option linter.unusedSimpArgs false
namespace Go.Proofs.YtalajbfpilhfgaaGreatDoor
open Go.RowKit

def dT (x : Ctx) (b e : Nat) : ND := ⟨12, .slice (some ⟨x.g, x.off + b, none⟩) (e - b) (x.cap - b), some ((x.D.drop b).take (e - b)), nilS, none, nilS, none⟩
theorem dT_ok {x : Ctx} {k : Nat} {ins : Bool} {w : World} (h : x.inv k ins w) {b e : Nat} (hb : b ≤ e) (he : e ≤ x.D.length) : (dT x b e).ok w := by
  obtain ⟨-, h3, ⟨C, fz, h4⟩, h5, h6⟩ := h
  have hl : ((x.D.drop b).take (e - b)).length = e - b := by simp; omega
  refine ⟨⟨x.g, x.off + b, x.cap - b, C, fz, by rw [hl]; rfl, by rw [hl]; omega, by unfold maxLen; omega, h4, rdO_sub h3 b (e - b)⟩, rfl, rfl⟩
theorem text_lone {x : Ctx} {k : Nat} {ins : Bool} {w : World} {a : Nat} (h : x.inv k ins w) {b e : Nat} (hb : b ≤ e) (he : e ≤ x.D.length)
    (hn : NodeIs w a (nodeArr 12 nilP nilP nilP nilP nilP (.slice (some ⟨x.g, x.off + b, none⟩) (e - b) (x.cap - b)) nilS nilS)) : Lone w a (dT x b e) .nil :=
  ⟨hn, dT_ok h hb he, trivial⟩

theorem below_drewN (w : World) (q : Nat) : Below w.heap.size w (w.drewN q) := ⟨rfl, rfl, rfl, Nat.le_refl _, fun _ _ => rfl⟩
/-- A text is hung; a node that was made ahead of it stays as it is. -/
theorem St.text {x : Ctx} {k : Nat} {ins : Bool} {w1 w0 w2 w3 : World} {c : Nat} {tc : Int} {par prv nxt lit dst ttl : Value} {f : F} (h : St w1 c tc par prv nxt lit dst ttl f w0) (h02 : Below w0.heap.size w0 w2) (hinv : x.inv k ins w2)
    {b e : Nat} (hb : b ≤ e) (he : e ≤ x.D.length) (hn : NodeIs w3 w2.heap.size (nodeArr 12 nilP nilP nilP nilP nilP (.slice (some ⟨x.g, x.off + b, none⟩) (e - b) (x.cap - b)) nilS nilS)) (h23 : Below w2.heap.size w2 w3) :
    Calls Tryz.prog 44 #[ptr c, ptr w2.heap.size] w3 fun r w4 => r = .returned (.tuple #[]) ∧ St w1 c tc par prv nxt lit dst ttl (f.app (F.one w2.heap.size (dT x b e) .nil)) w4 ∧
      ∀ t a, Made w0 t a w2 → ∃ d kf, Lone w4 a d kf ∧ (a :: kf.blocks).Nodup ∧ (∀ i ∈ a :: kf.blocks, w1.heap.size ≤ i) ∧ (∀ i ∈ a :: kf.blocks, i ∉ (f.app (F.one w2.heap.size (dT x b e) .nil)).blocks) ∧ (F.one a d kf).abs = t := by
  have hs3 := (h.below h02).below h23
  have hlt := F.at_lt f h.kids.2
  have hz1 := h.grown.size
  have hz2 := h02.size
  have hz3 := h23.size
  refine (hs3.append w2.heap.size (dT x b e) .nil (text_lone (hinv.below h23) hb he hn) (by simp [F.blocks]) (by intro i hi; simp [F.blocks] at hi; omega) (by intro i hi hm; simp [F.blocks] at hi; have := hlt i hm; omega)).mono ?_
  rintro r w4 ⟨rfl, hst, hsame, hk5⟩
  refine ⟨rfl, hst, ?_⟩
  rintro t a ⟨d, kf, hl, hnd, hnew, habs⟩
  have hlt2 : ∀ i ∈ a :: kf.blocks, i < w2.heap.size := by
    intro i hi
    rcases List.mem_cons.1 hi with rfl | hi
    · exact hl.1.lt
    · exact F.at_lt kf hl.2.2 i hi
  have hout : ∀ i ∈ a :: kf.blocks, i ∉ c :: w2.heap.size :: f.blocks := by
    intro i hi hm
    have q1 := hnew i hi
    have q2 := hlt2 i hi
    have q3 := h.old
    simp only [List.mem_cons] at hm
    rcases hm with rfl | rfl | hm
    · omega
    · omega
    · have := hlt i hm; omega
  refine ⟨d, kf, (hl.below h23).same hk5 (hsame.2.2.2.2 a (hout a (by simp))) (fun i hi => hsame.2.2.2.2 i (hout i (by simp [hi]))), hnd, fun i hi => Nat.le_trans hz1 (hnew i hi), fun i hi hm => ?_, habs⟩
  rw [F.app_blocks] at hm
  have := hout i hi
  simp only [List.mem_cons, not_or] at this
  simp only [F.one, F.blocks, List.mem_append, List.mem_cons, List.not_mem_nil, or_false, List.append_nil] at hm
  rcases hm with hm | hm
  · exact this.2.2 hm
  · exact this.2.1 hm
/-- The parser leaves as it entered. -/
theorem St.leave {w w1 w5 : World} {M ext k : Nat} {ins : Bool} {C : Array Value} {c : Nat} {tc : Int} {par prv nxt lit dst ttl : Value} {f : F} (h : St w1 c tc par prv nxt lit dst ttl f w5) (hcM : c ≠ M) (hA : MdArr C ext k ins) (hM0 : MdIs w M C)
    (hs : SameBut [M] w w1) (hM : MdIs w1 M (C.setIfInBounds 260 (.int .i64 ((k + 1 : Nat) : Int)))) :
    Kids (w5.setCell ⟨M, 260, none⟩ (.int .i64 k)) c tc par prv nxt lit dst ttl f ∧ w.grownBy (w5.setCell ⟨M, 260, none⟩ (.int .i64 k)) (some c) ∧ (∀ b ∈ f.blocks, w.heap.size ≤ b) ∧ f.blocks.Nodup := by
  have hM5 : MdIs w5 M (C.setIfInBounds 260 (.int .i64 ((k + 1 : Nat) : Int))) := (h.grown.block M hM.lt (by simpa using fun e => hcM e.symm)).trans hM
  have hM6 := hM5.set 260 (.int .i64 k)
  rw [set_back hA.2.2.1] at hM6
  have hk5 : Keep5 w5 (w5.setCell ⟨M, 260, none⟩ (.int .i64 k)) := by
    intro g Cg fz hg
    refine Below.heap_setCell w5 _ _ g (fun e => ?_)
    rw [e] at hg
    have := hg.symm.trans hM5
    injection this with this
    injection this with _ this
    cases this
  refine ⟨⟨h.kids.1.other hcM _, F.at_same hk5 f h.kids.2 (fun b hb => Below.heap_setCell w5 _ _ b (fun e => ?_))⟩, ⟨h.grown.os.trans hs.1, h.grown.tape.trans hs.2.1, h.grown.output.trans hs.2.2.1, ?_, fun i hi hne => ?_⟩, fun b hb => ?_, h.nodup⟩
  · have := h.new b hb
    have h2 := hM.lt
    rw [e] at this
    exact absurd this (by show ¬ _ ≤ M; omega)
  · rw [World.size_setCell, ← hs.2.2.2.1]
    exact h.grown.size
  · by_cases e : i = M
    · subst e
      exact (hM6.trans hM0.symm)
    · rw [Below.heap_setCell w5 _ _ i e, h.grown.block i (by rw [hs.2.2.2.1]; exact hi) hne]
      exact hs.2.2.2.2 i (by simpa using e)
  · have := h.new b hb
    rw [hs.2.2.2.1] at this
    exact this
theorem cbN_all (ext : Nat) (c : UInt8) : (cbN ext c).all (fun f => decide (46 ≤ f) && decide (f ≤ 56)) = true := by
  have key : ∀ (P : Prop) [Decidable P] (a b : Option Nat), a.all (fun f => decide (46 ≤ f) && decide (f ≤ 56)) = true → b.all (fun f => decide (46 ≤ f) && decide (f ≤ 56)) = true → (if P then a else b).all (fun f => decide (46 ≤ f) && decide (f ≤ 56)) = true := by
    intro P _ a b ha hb
    by_cases hp : P
    · rw [if_pos hp]; exact ha
    · rw [if_neg hp]; exact hb
  unfold cbN
  repeat first | exact rfl | refine key _ _ _ ?_ ?_
theorem cbN_le {ext : Nat} {c : UInt8} {f : Nat} (h : cbN ext c = some f) : 46 ≤ f ∧ f ≤ 56 := by
  have := cbN_all ext c
  rw [h] at this
  simpa using this
theorem call_cb {ext : Nat} {c : UInt8} {f : Nat} (h : cbN ext c = some f) : ∀ (args : Array Value) (w : World), Sem.run Tryz.prog (callFunc f args) w = Result.ok (.enter f args) w := by
  obtain ⟨h1, h2⟩ := cbN_le h
  clear h
  intro args w
  have : f = 46 ∨ f = 47 ∨ f = 48 ∨ f = 49 ∨ f = 50 ∨ f = 51 ∨ f = 52 ∨ f = 53 ∨ f = 54 ∨ f = 55 ∨ f = 56 := by omega
  clear h1 h2
  rcases this with rfl | rfl | rfl | rfl | rfl | rfl | rfl | rfl | rfl | rfl | rfl <;> go_simp
theorem neq_nil (w : World) : (binOp .neq 103 .nilFunc .nilFunc).run Tryz.prog w = .ok (.bool false) w := by kernel_rfl
theorem neq_fun (f : Nat) (w : World) : (binOp .neq 103 (.func (.func f) #[] #[]) .nilFunc).run Tryz.prog w = .ok (.bool true) w := by kernel_rfl

set_option maxRecDepth 100000 in
set_option maxHeartbeats 4000000 in
theorem inline40 (x : Ctx) (c : Nat) (tc : Int) (par prv nxt lit dst ttl : Value) (k : Nat) (ins : Bool) (s : List Seg) (w : World) (hk : k < 16) (hc : Kids w c tc par prv nxt lit dst ttl .nil) (hi : x.inv k ins w)
    (hs : SegsOk x (k + 1) ins s 0) (h0 : 0 < x.D.length) (hl : x.D.getD (x.D.length - 1) 0 ≠ 10) :
    Calls Tryz.prog 40 #[ptr x.M, ptr c, x.val] w fun e w' => e = .returned (.tuple #[]) ∧ ∃ f, Kids w' c tc par prv nxt lit dst ttl f ∧ f.abs = outG x.D s 0 0 ∧ w.grownBy w' (some c) ∧ (∀ b ∈ f.blocks, w.heap.size ≤ b) ∧ f.blocks.Nodup := by
  obtain ⟨⟨C, hM, hA⟩, h3, ⟨Cg, fz, h4⟩, h5, h6⟩ := hi
  have hM260 : w.cell? ⟨x.M, 260, none⟩ = some (.int .i64 k) := (hM.cell 260).trans hA.2.2.1
  have hM261 : w.cell? ⟨x.M, 261, none⟩ = some (.int .i64 16) := (hM.cell 261).trans hA.2.2.2.1
  have hF260 := hM.free 260
  have hcl := hc.1.lt
  have hcM : c ≠ x.M := by
    rintro rfl
    have := hM.symm.trans hc.1
    injection this with this
    injection this with _ this
    cases this
  have hcg : c ≠ x.g := by
    rintro rfl
    have := h4.symm.trans hc.1
    injection this with this
    injection this with _ this
    cases this
  have hMg : x.g ≠ x.M := by
    intro e
    rw [e] at h4
    have := h4.symm.trans hM
    injection this with this
    injection this with _ this
    cases this
  obtain ⟨n, hn⟩ : ∃ n, n = x.D.length := ⟨_, rfl⟩
  obtain ⟨R, hR⟩ : ∃ R, R = outG x.D s 0 0 := ⟨_, rfl⟩
  rw [← hR]
  rw [← hn] at h0 hl h5
  unfold Ctx.val
  rw [← hn]
  have bn : ((n : Int) == 0) = false := by rw [beq_eq_false_iff_ne]; omega
  have hk16 : (k : Int) < 16 := by omega
  have HM := Lib.hid hM
  have HA := Lib.hid hA
  have H3 := Lib.hid h3
  have H4 := Lib.hid h4
  have HC := Lib.hid hc
  have HS := Lib.hid hs
  have HL := Lib.hid hl
  have HN := Lib.hid hn
  have HR := Lib.hid hR
  clear hM hA h3 h4 hc hs hl hn hR
  go_enter Tryz.func40, Tryz.ntmps40
  go_wp2
  go_quiet (fail)
  go_wp2
  obtain ⟨w1, hw1⟩ : ∃ w1, w1 = (w.drewN nq).setCell ⟨x.M, 260, none⟩ (.int .i64 ((k : Int) + 1)) := ⟨_, rfl⟩
  rw [← hw1]
  have hsb : SameBut [x.M] w w1 := by
    rw [hw1]
    exact (show SameBut [x.M] w (w.drewN nq) from ⟨rfl, rfl, rfl, rfl, fun _ _ => rfl⟩).set (by simp) _
  have hM1 : MdIs w1 x.M (C.setIfInBounds 260 (.int .i64 ((k + 1 : Nat) : Int))) := by
    rw [hw1]
    exact (show MdIs (w.drewN nq) x.M C from HM.out).set 260 _
  have hA1 : MdArr (C.setIfInBounds 260 (.int .i64 ((k + 1 : Nat) : Int))) x.ext (k + 1) ins := HA.out.nest
  have hg1 : w1.heap[x.g]? = w.heap[x.g]? := hsb.2.2.2.2 x.g (by simpa using hMg)
  have hinv1 : x.inv (k + 1) ins w1 := ⟨⟨_, hM1, hA1⟩, rdO_block H3.out hg1, ⟨Cg, fz, hg1.trans H4.out⟩, by rw [← HN.out]; exact h5, h6⟩
  have hst : St w1 c tc par prv nxt lit dst ttl .nil w1 := by
    refine ⟨⟨HC.out.1.same (hsb.2.2.2.2 c (by simpa using hcM)), trivial⟩, ⟨rfl, rfl, rfl, Nat.le_refl _, fun _ _ _ => rfl⟩, fun b hb => by simp [F.blocks] at hb, by simp [F.blocks], by rw [hsb.2.2.2.1]; exact hcl⟩
  have HSB := Lib.hid hsb
  have HM1 := Lib.hid hM1
  have HINV1 := Lib.hid hinv1
  have HST := Lib.hid hst
  have q1 := fun w => neq_nil w
  have q2 := fun f w => neq_fun f w
  clear hsb hM1 hA1 hg1 hinv1 hst hw1 H3 H4 HC hM260 hM261 hF260
  go_loopg [6, 7] n (fun q v6 v7 wr => ∃ (b e : Nat) (f : F) (s' : List Seg), v6 = .int .i64 (b : Nat) ∧ v7 = .int .i64 (e : Nat) ∧ q + e = n ∧ b ≤ e ∧ e ≤ n ∧ Hid (St w1 c tc par prv nxt lit dst ttl f wr) ∧ Hid (SegsOk x (k + 1) ins s' e) ∧ Hid (R = f.abs.app (outG x.D s' b e)))
  case atStart => exact ⟨0, 0, .nil, s, rfl, rfl, by omega, by omega, by omega, HST.out, HS.out, HR.out⟩
  case round =>
    obtain ⟨b, e, f, s', rfl, rfl, hq, hbe, hen, HSt, HSe, HRe⟩ := hrel
    have HQ := Lib.hid hq
    clear hq
    have HINV : Hid (x.inv (k + 1) ins wr) := HINV1.out.same (HSt.out.grown.block _ HINV1.out.ltM (by simpa using fun h => hcM h.symm)) (HSt.out.grown.block _ HINV1.out.ltg (by simpa using fun h => hcg h.symm))
    by_cases hlt : e < n
    · obtain ⟨y, hy⟩ : ∃ y, y = x.D.getD e 0 := ⟨_, rfl⟩
      have hcy : wr.cell? ⟨x.g, x.off + e, none⟩ = some (.int .u8 y.toNat) := by rw [hy]; exact HINV.out.2.1 e (by rw [← HN.out]; exact hlt)
      have hcb : wr.cell? ⟨x.M, 3 + y.toNat, none⟩ = some (cbV x.ext y) := by
        obtain ⟨⟨C', q1, q2⟩, -⟩ := HINV.out
        exact (q1.cell _).trans (q2.1 y)
      have hylt := y.toNat_lt
      have HY := Lib.hid hy
      clear hy
      unfold cbV at hcb
      cases hcn : cbN x.ext y with
      | none =>
        rw [hcn] at hcb
        simp only at hcb
        rcases segs_step s' e HSe.out (by rw [← HN.out]; exact hlt) with ⟨hqu, s2, hs2, ho2⟩ | ⟨n2, o2, s2, hn2, ht2, hl2, hs2, ho2⟩
        · have HS2 := Lib.hid hs2
          have HO2 := Lib.hid ho2
          clear hqu hs2 ho2 hcn
          go_wp2
          go_quiet (fail)
          go_wp2
          go_roundg (gk - 1)
          case measure => have := HQ.out; omega
          case rel => exact ⟨b, e + 1, f, s2, rfl, by go_num, by have := HQ.out; omega, by omega, by omega, HSt.out.below (below_drewN _ _), HS2.out, by show _ = _; rw [HRe.out, HO2.out]⟩
        · exfalso
          obtain ⟨f2, hf2, -⟩ := ht2
          rw [← HY.out, hcn] at hf2
          cases hf2
      | some f2 =>
        rw [hcn] at hcb
        simp only at hcb
        have q3 := fun args w => call_cb hcn args w
        rcases segs_step s' e HSe.out (by rw [← HN.out]; exact hlt) with ⟨hqu, s2, hs2, ho2⟩ | ⟨n2, o2, s2, hn2, ht2, hl2, hs2, ho2⟩
        · have HS2 := Lib.hid hs2
          have HO2 := Lib.hid ho2
          have cq : ∀ w, x.inv (k + 1) ins w → Calls Tryz.prog f2 #[ptr x.M, .slice (some ⟨x.g, x.off, none⟩) n x.cap, .int .i64 e] w fun r w' => (∃ v, r = .returned (.tuple #[.int .i64 0, v])) ∧ Below w.heap.size w w' := by
            have := hqu f2 (by rw [← HY.out]; exact hcn)
            unfold Ctx.val at this
            rw [← HN.out] at this
            exact this
          have CQ := Lib.hid cq
          clear hqu hs2 ho2 hcn cq
          go_wp2
          go_quiet (fail)
          go_wp2_with ((with_reducible refine (CQ.out _ (HINV.out.below (below_drewN _ _))).mono ?_); rintro e2 w2 ⟨⟨v2, rfl⟩, hb2⟩; have HB2 := Lib.hid hb2; clear hb2)
          go_roundg (gk - 1)
          case measure => have := HQ.out; omega
          case rel => exact ⟨b, e + 1, f, s2, rfl, by go_num, by have := HQ.out; omega, by omega, by omega, (HSt.out.below (below_drewN _ _)).below HB2.out, HS2.out, by show _ = _; rw [HRe.out, HO2.out]⟩
        · obtain ⟨f3, hf3, ht3⟩ := ht2
          rw [← HY.out, hcn] at hf3
          injection hf3 with hf3
          subst hf3
          have HS2 := Lib.hid hs2
          have ho3 := ho2 b
          have HO2 := Lib.hid ho3
          have bn2 : ((n2 : Int) == 0) = false := by rw [beq_eq_false_iff_ne]; omega
          rw [← HN.out] at hl2
          unfold Took Ctx.val at ht3
          rw [← HN.out] at ht3
          have tok : True := trivial
          cases o2 with
          | none =>
            simp only at ht3
            have CT := Lib.hid ht3
            have TX := Lib.hid (fun w => text45 (some ⟨x.g, x.off + b, none⟩) (e - b) (x.cap - b) w)
            clear hs2 ho2 ho3 hcn ht3
            go_wp2
            go_quiet (fail)
            go_wp2_with (first
              | (go_at_call 45; refine (TX.out _).mono ?_; rintro e3 w3 ⟨rfl, hn3, hb3, hz3⟩; have HN3 := Lib.hid hn3; have HB3 := Lib.hid hb3; clear hn3 hb3 hz3)
              | (go_at_call 44; refine ((HSt.out.below (below_drewN _ _)).text HB2.out ((HINV.out.below (below_drewN _ _)).below HB2.out) hbe (by rw [← HN.out]; exact hen) HN3.out HB3.out).mono ?_; rintro e4 w4 ⟨rfl, hst4, -⟩; have HST4 := Lib.hid hst4; clear hst4)
              | ((with_reducible refine (CT.out _ (HINV.out.below (below_drewN _ _))).mono ?_); rintro e2 w2 ⟨hb2, rfl⟩; have HB2 := Lib.hid hb2; clear hb2))
            go_roundg (n - (e + n2))
            case measure => have := HQ.out; omega
            case rel =>
              refine ⟨e + n2, e + n2, _, s2, by go_num, by go_num, by omega, by omega, by omega, HST4.out, HS2.out, ?_⟩
              show _ = _
              rw [HRe.out, HO2.out, F.abs_app, G.app_assoc]
              rfl
          | some t =>
            simp only at ht3
            have CT := Lib.hid ht3
            have TX := Lib.hid (fun w => text45 (some ⟨x.g, x.off + b, none⟩) (e - b) (x.cap - b) w)
            clear hs2 ho2 ho3 hcn ht3
            go_wp2
            go_quiet (fail)
            go_wp2_with (first
              | (go_at_call 45; refine (TX.out _).mono ?_; rintro e3 w3 ⟨rfl, hn3, hb3, hz3⟩; have HN3 := Lib.hid hn3; have HB3 := Lib.hid hb3; clear hn3 hb3 hz3)
              | (clear tok; go_at_call 44; refine ((HSt.out.below (below_drewN _ _)).text HB2.out ((HINV.out.below (below_drewN _ _)).below HB2.out) hbe (by rw [← HN.out]; exact hen) HN3.out HB3.out).mono ?_; rintro e4 w4 ⟨rfl, hst4, hmm⟩; have HST4 := Lib.hid hst4; clear hst4; obtain ⟨d5, kf5, hl5, hnd5, hnw5, hds5, hab5⟩ := hmm t a2 HM2.out; have HAB5 := Lib.hid hab5; have C44 := Lib.hid (HST4.out.append a2 d5 kf5 hl5 hnd5 hnw5 hds5); clear hmm hl5 hnd5 hnw5 hds5 hab5)
              | (go_at_call 44; refine C44.out.mono ?_; rintro e5 w5 ⟨rfl, hst5, -, -⟩; have HST5 := Lib.hid hst5; clear hst5)
              | ((with_reducible refine (CT.out _ (HINV.out.below (below_drewN _ _))).mono ?_); rintro e2 w2 ⟨hb2, a2, rfl, hm2⟩; have HB2 := Lib.hid hb2; have HM2 := Lib.hid hm2; clear hb2 hm2))
            go_roundg (n - (e + n2))
            case measure => have := HQ.out; omega
            case rel =>
              refine ⟨e + n2, e + n2, _, s2, by go_num, by go_num, by omega, by omega, by omega, HST5.out, HS2.out, ?_⟩
              show _ = _
              rw [HRe.out, HO2.out, F.abs_app, F.abs_app, HAB5.out, G.app_assoc, G.app_assoc]
              rfl
    · obtain rfl : e = n := by omega
      have hRn := HRe.out
      rw [segs_end s' e HSe.out HN.out] at hRn
      have cM : ∀ f' w5, St w1 c tc par prv nxt lit dst ttl f' w5 → w5.cell? ⟨x.M, 260, none⟩ = some (.int .i64 ((k : Int) + 1)) ∧ w5.frozen? ⟨x.M, 260, none⟩ = false := fun f' w5 h => by
        have hM5 : MdIs w5 x.M _ := (h.grown.block x.M HM1.out.lt (by simpa using fun e => hcM e.symm)).trans HM1.out
        have hs : 260 < C.size := (Array.getElem?_eq_some_iff.1 HA.out.2.2.1).1
        refine ⟨(hM5.cell 260).trans ?_, hM5.free 260⟩
        rw [Array.getElem?_setIfInBounds, if_pos rfl, if_pos hs]
        rfl
      have CM := Lib.hid cM
      clear cM
      by_cases hb : b < e
      · obtain ⟨y, hy⟩ : ∃ y, y = x.D.getD (e - 1) 0 := ⟨_, rfl⟩
        have hcy : wr.cell? ⟨x.g, x.off + (e - 1), none⟩ = some (.int .u8 y.toNat) := by rw [hy]; exact HINV.out.2.1 (e - 1) (by rw [← HN.out]; omega)
        have b10 : ((y.toNat : Int) == 10) = false := beq_no (k := 10) (by rw [hy]; exact HL.out)
        rw [if_pos hb] at hRn
        have HRN := Lib.hid hRn
        have hz1 : (e : Int) - 1 = ((e - 1 : Nat) : Int) := by omega
        have TX := Lib.hid (fun w => text45 (some ⟨x.g, x.off + b, none⟩) (e - b) (x.cap - b) w)
        clear hRn hy
        go_wp2_with (first
              | (go_at_call 45; refine (TX.out _).mono ?_; rintro e3 w3 ⟨rfl, hn3, hb3, hz3⟩; have HN3 := Lib.hid hn3; have HB3 := Lib.hid hb3; clear hn3 hb3 hz3)
              | (go_at_call 44; refine (HSt.out.text (Below.refl _ _) HINV.out hbe (by rw [← HN.out]; exact hen) HN3.out HB3.out).mono ?_; rintro e4 w4 ⟨rfl, hst4, -⟩; obtain ⟨hcc, hff⟩ := CM.out _ _ hst4; have HST4 := Lib.hid hst4; clear hst4))
        go_end0
        obtain ⟨r1, r2, r3, r4⟩ := HST4.out.leave hcM HA.out HM.out HSB.out HM1.out
        refine ⟨rfl, _, r1, ?_, r2, r3, r4⟩
        rw [HRN.out, F.abs_app]
        rfl
      · rw [if_neg hb, G.app_nil] at hRn
        have HRN := Lib.hid hRn
        obtain ⟨hcc, hff⟩ := CM.out _ _ HSt.out
        clear hRn
        go_wp2_with fail
        go_end0
        obtain ⟨r1, r2, r3, r4⟩ := HSt.out.leave hcM HA.out HM.out HSB.out HM1.out
        exact ⟨rfl, _, r1, HRN.out.symm, r2, r3, r4⟩

theorem Ctx.inv.byte {x : Ctx} {k : Nat} {ins : Bool} {w : World} (h : x.inv k ins w) {j : Nat} (hj : j < x.D.length) : w.cell? ⟨x.g, x.off + j, none⟩ = some (.int .u8 (x.D.getD j 0).toNat) := h.2.1 j hj
theorem Ctx.inv.ext' {x : Ctx} {k : Nat} {ins : Bool} {w : World} (h : x.inv k ins w) : w.cell? ⟨x.M, 259, none⟩ = some (.int .i64 x.ext) := by
  obtain ⟨⟨C, h1, h2⟩, _⟩ := h
  exact (h1.cell 259).trans h2.2.1
theorem Ctx.inv.ins' {x : Ctx} {k : Nat} {ins : Bool} {w : World} (h : x.inv k ins w) : w.cell? ⟨x.M, 262, none⟩ = some (.bool ins) := by
  obtain ⟨⟨C, h1, h2⟩, _⟩ := h
  exact (h1.cell 262).trans h2.2.2.2.2
theorem tup2 {a b : Int} {v : Value} (h : a = b) : Ending.returned (.tuple #[.int .i64 a, v]) = .returned (.tuple #[.int .i64 b, v]) := by rw [h]
theorem made_one {w w' : World} {ty : Int} (hn : NodeIs w' w.heap.size (nodeArr ty nilP nilP nilP nilP nilP nilS nilS nilS)) : Made w (G.one ty none none none .nil) w.heap.size w' :=
  ⟨⟨ty, nilS, none, nilS, none, nilS, none⟩, .nil, ⟨hn, ⟨rfl, rfl, rfl⟩, trivial⟩, by simp [F.blocks], by simp [F.blocks], rfl⟩

set_option maxRecDepth 100000 in
set_option maxHeartbeats 2000000 in
theorem brk_quiet (x : Ctx) (k : Nat) (ins : Bool) (e : Nat) (he : e < x.D.length) (h32 : x.D.getD e 0 = 32) (h1 : e + 1 < x.D.length → x.D.getD (e + 1) 0 ≠ 32 ∧ x.D.getD (e + 1) 0 ≠ 10) (w : World) (hi : x.inv k ins w) :
    Calls Tryz.prog 46 #[ptr x.M, x.val, .int .i64 e] w fun r w' => (∃ v, r = .returned (.tuple #[.int .i64 0, v])) ∧ Below w.heap.size w w' := by
  have hc0 := hi.byte he
  rw [h32] at hc0
  have c0 : w.cell? ⟨x.g, x.off + e, none⟩ = some (.int .u8 32) := hc0
  have hcap := hi.2.2.2.1
  have hcap2 := hi.2.2.2.2
  unfold Ctx.val
  obtain ⟨n, hn⟩ : ∃ n, n = x.D.length := ⟨_, rfl⟩
  rw [← hn] at he h1 hcap ⊢
  have hc1 : e + 1 < n → ∃ y : UInt8, w.cell? ⟨x.g, x.off + (e + 1), none⟩ = some (.int .u8 y.toNat) ∧ ((y.toNat : Int) == 32) = false ∧ ((y.toNat : Int) == 10) = false := fun h => ⟨_, hi.byte (by rw [← hn]; exact h), beq_no (k := 32) (h1 h).1, beq_no (k := 10) (h1 h).2⟩
  have HC1 := Lib.hid hc1
  clear hc0 hi h32 h1 hn hc1
  go_enter Tryz.func46, Tryz.ntmps46
  go_wp2
  go_loopg [2] 2 (fun q v2 wr => ∃ i : Nat, v2 = .int .i64 (i : Nat) ∧ q + i = e + 2 ∧ e ≤ i ∧ i ≤ e + 1 ∧ w = wr)
  case atStart => exact ⟨e, rfl, by omega, by omega, by omega, rfl⟩
  case round =>
    obtain ⟨i, rfl, hq, hi1, hi2, rfl⟩ := hrel
    have HQ := Lib.hid hq
    clear hq
    by_cases hie : i = e
    · subst hie
      go_wp2
      go_roundg 1
      case measure => have := HQ.out; omega
      case rel => exact ⟨i + 1, by go_num, by omega, by omega, by omega, rfl⟩
    · obtain rfl : i = e + 1 := by omega
      by_cases h2 : e + 1 < n
      · obtain ⟨y, c1, b1, b2⟩ := HC1.out h2
        go_wp2
        go_ret2
        exact ⟨⟨_, rfl⟩, Below.refl _ _⟩
      · go_wp2
        go_ret2
        exact ⟨⟨_, rfl⟩, Below.refl _ _⟩

set_option maxRecDepth 100000 in
set_option maxHeartbeats 2000000 in
theorem brk_takes (x : Ctx) (k : Nat) (ins : Bool) (e : Nat) (he : e + 2 < x.D.length) (h0 : x.D.getD e 0 = 32) (h1 : x.D.getD (e + 1) 0 = 32) (h2 : x.D.getD (e + 2) 0 = 10) : Takes x k ins e 3 (some (G.one 16 none none none .nil)) := by
  refine ⟨46, by rw [h0]; rfl, fun w hi => ?_⟩
  have hc0 := hi.byte (j := e) (by omega)
  have hc1 := hi.byte (j := e + 1) (by omega)
  have hc2 := hi.byte (j := e + 2) he
  rw [h0] at hc0
  rw [h1] at hc1
  rw [h2] at hc2
  have c0 : w.cell? ⟨x.g, x.off + e, none⟩ = some (.int .u8 32) := hc0
  have c1 : w.cell? ⟨x.g, x.off + (e + 1), none⟩ = some (.int .u8 32) := hc1
  have c2 : w.cell? ⟨x.g, x.off + (e + 2), none⟩ = some (.int .u8 10) := hc2
  have hcap := hi.2.2.2.1
  have hcap2 := hi.2.2.2.2
  unfold Ctx.val
  obtain ⟨n, hn⟩ : ∃ n, n = x.D.length := ⟨_, rfl⟩
  rw [← hn] at he hcap ⊢
  have CN := Lib.hid (fun w => new39 16 w)
  clear hc0 hc1 hc2 hi h0 h1 h2 hn
  go_enter Tryz.func46, Tryz.ntmps46
  go_wp2
  go_loopg [2] 3 (fun q v2 wr => ∃ i : Nat, v2 = .int .i64 (i : Nat) ∧ q + i = e + 3 ∧ e ≤ i ∧ i ≤ e + 2 ∧ w = wr)
  case atStart => exact ⟨e, rfl, by omega, by omega, by omega, rfl⟩
  case round =>
    obtain ⟨i, rfl, hq, hi1, hi2, rfl⟩ := hrel
    have HQ := Lib.hid hq
    clear hq
    by_cases hie : i = e
    · subst hie
      go_wp2
      go_roundg 2
      case measure => have := HQ.out; omega
      case rel => exact ⟨i + 1, by go_num, by omega, by omega, by omega, rfl⟩
    · by_cases hie2 : i = e + 1
      · subst hie2
        go_wp2
        go_roundg 1
        case measure => have := HQ.out; omega
        case rel => exact ⟨e + 2, by go_num, by omega, by omega, by omega, rfl⟩
      · obtain rfl : i = e + 2 := by omega
        go_wp2_with (go_at_call 39; refine (CN.out _).mono ?_; rintro r w' ⟨rfl, hn, hb, -⟩; have HNN := Lib.hid hn; have HB := Lib.hid hb; clear hn hb)
        go_ret2
        exact ⟨HB.out, _, tup2 (by omega), made_one HNN.out⟩
end Go.Proofs.YtalajbfpilhfgaaGreatDoor
