/- zzUnescapeEntity at a name. -/
import Derived.Test.YtkogokjlpgnmlaaU2
import Derived.Laws.IdiomStrings
import Derived.Laws.IdiomCopy
import Derived.StillTailTactics
import Derived.Lib.SlBuf
set_option linter.unusedVariables false
set_option linter.unusedSimpArgs false
namespace Go.Proofs.Ytkogokjlpgnmlaa
open Go.RowKit

/-- A letter or digit. -/
def isAl (c : UInt8) : Bool := decide (97 ≤ (c.toNat : Int) ∧ (c.toNat : Int) ≤ 122 ∨ 65 ≤ (c.toNat : Int) ∧ (c.toNat : Int) ≤ 90 ∨ 48 ≤ (c.toNat : Int) ∧ (c.toNat : Int) ≤ 57)
/-- The place behind a name (and behind a semicolon). -/
def nameLoop : Bs → Nat → Nat
  | [], i => i
  | c :: r, i => if isAl c = true then nameLoop r (i + 1) else if ((c.toNat : Int) != 59) = true then i else i + 1
theorem nameLoop_ge : ∀ (l : Bs) (i : Nat), i ≤ nameLoop l i ∧ nameLoop l i ≤ i + l.length
  | [], i => by simp [nameLoop]
  | c :: r, i => by
    have := nameLoop_ge r (i + 1)
    unfold nameLoop
    simp only [List.length_cons]
    split
    · omega
    · split <;> omega
/-- The longest prefix, from j letters down to two, that is a name of one code point. -/
noncomputable def prefLoop (nm : Bs) : Nat → Option (Int × Nat)
  | 0 => none
  | j + 1 => if j + 1 ≤ 1 then none else if (entity (nm.take (j + 1))).1 ≠ 0 ∧ (entity (nm.take (j + 1))).2 = 0 then some ((entity (nm.take (j + 1))).1, j + 1) else prefLoop nm j
/-- A name's output and how far it reads; s: from the ampersand on, i: the name's end. -/
noncomputable def nameOut (s : Bs) (i : Nat) : Bs × Nat :=
  if i = 1 then (s.take i, i)
  else if (entity ((s.drop 1).take (i - 1))).1 ≠ 0 ∧ (entity ((s.drop 1).take (i - 1))).2 = 0 then (encB (entity ((s.drop 1).take (i - 1))).1, i)
  else if (entity ((s.drop 1).take (i - 1))).1 ≠ 0 then (encB (entity ((s.drop 1).take (i - 1))).1 ++ encB (entity ((s.drop 1).take (i - 1))).2, i)
  else match prefLoop ((s.drop 1).take (i - 1)) (min (i - 2) 6) with
    | some (x, j) => (encB x, j + 1)
    | none => (s.take i, i)

theorem add_pl (g off j : Nat) : (⟨g, off, none⟩ : Addr).add j = ⟨g, off + j, none⟩ := by unfold Addr.add; split <;> simp_all
theorem conv_buf (w : World) (g : Nat) (l : Bs) (hB : Buf w g l) (off k cap : Nat) (h : off + k ≤ l.length) :
    (convert 29 9 (.slice (some ⟨g, off, none⟩) k cap)).run Try.prog w = .ok (.string ⟨((l.drop off).take k).toArray⟩) w := by
  have hk : ((l.drop off).take k).length = k := by simp; omega
  have := run_convert_bytes_back (P := Try.prog) w 29 9 5 ⟨g, off, none⟩ cap ((l.drop off).take k) Try.underlying29 Try.underlying5 Try.underlying9 (fun j hj => by
    rw [hk] at hj
    rw [add_pl g off j, hB.cell (off + j) (by omega)]
    simp [List.getD_eq_getElem?_getD, List.getElem?_eq_getElem (show off + j < l.length by omega)])
  rw [hk] at this
  exact this
theorem putB_putB (l : Bs) (off : Nat) (a b : Bs) (h : off + a.length + b.length ≤ l.length) : putB (putB l off a) (off + a.length) b = putB l off (a ++ b) := by
  unfold putB
  have e1 : (l.take off ++ (a ++ l.drop (off + a.length))).take (off + a.length) = l.take off ++ a := by
    rw [← List.append_assoc, List.take_append_of_le_length (by simp; omega), List.take_of_length_le (by simp; omega)]
  have e2 : (l.take off ++ (a ++ l.drop (off + a.length))).drop (off + a.length + b.length) = l.drop (off + (a ++ b).length) := by
    rw [← List.append_assoc, List.drop_append, List.drop_eq_nil_of_le (by simp; omega), List.nil_append, List.drop_drop]
    congr 1
    simp
    omega
  rw [e1, e2]
  simp
theorem cellsB_one (o : Bs) : ∀ v ∈ cellsB o, v.oneCell' = true := by
  intro v hv
  obtain ⟨b, _, rfl⟩ := List.mem_map.1 hv
  rfl
theorem size5 : (Try.prog.info? 5).map (·.size) = some 1 := by kernel_rfl
/-- copy within a buffer. -/
theorem copy_buf (w : World) (g : Nat) (l : Bs) (hB : Buf w g l) (dst src k c1 c2 : Nat) (h1 : dst + k ≤ l.length) (h2 : src + k ≤ l.length) (ty : TypeId) :
    (Builtin.copy_ #[29, 29] ty #[.slice (some ⟨g, dst, none⟩) k c1, .slice (some ⟨g, src, none⟩) k c2]).run Try.prog w = .ok (goInt k) (w.setCells g dst (cellsB ((l.drop src).take k))) := by
  have hk : ((l.drop src).take k).length = k := by simp; omega
  have := run_copy_cells (P := Try.prog) w 29 29 ty 5 g dst k c1 ⟨g, src, none⟩ k c2 (cellsB ((l.drop src).take k)) Try.underlying29 size5 (by rw [cellsB_length, hk]; simp) (fun j v hv => by
      have hj : j < k := by
        have := (List.getElem?_eq_some_iff.1 hv).1
        rw [cellsB_length, hk] at this; exact this
      rw [cellsB_get _ j (by rw [hk]; exact hj)] at hv
      rw [add_pl g src j, hB.cell (src + j) (by omega)]
      rw [← hv]
      simp [List.getD_eq_getElem?_getD, List.getElem?_eq_getElem (show src + j < l.length by omega), hj])
    (fun j hj => by rw [cellsB_length, hk] at hj; rw [hB.cell (dst + j) (by omega)]; rfl)
    (fun j hj => by rw [cellsB_length, hk] at hj; exact hB.free (dst + j) (by omega)) (cellsB_one _)
  rw [cellsB_length, hk] at this
  exact this

set_option maxRecDepth 100000 in
set_option maxHeartbeats 8000000 in
theorem uent_name (g n c dst src : Nat) (bs : Bs) (w : World) (hn : bs.length = n) (hnc : n ≤ c) (hc : c ≤ 9223372036854775807) (hsrc : src < n) (hdst : dst ≤ src) (hB : Buf w g bs) (h1 : 1 < n - src) (hx1 : bs.getD (src + 1) 0 ≠ 35)
    (k0 : Nat) (hk0 : k0 = nameLoop (bs.drop (src + 1)) 1) (o : Bs) (m : Nat) (hom : nameOut (bs.drop src) k0 = (o, m)) :
    Calls Try.prog 42 #[.slice (some ⟨g, 0, none⟩) n c, .int .i64 dst, .int .i64 src] w (UPost w g bs dst src o m) := by
  have hcell1 := hB.cell (src + 1) (by omega)
  obtain ⟨x, hx⟩ : ∃ x, x = bs.getD (src + 1) 0 := ⟨_, rfl⟩
  rw [← hx] at hcell1 hx1
  have hb1 : ((x.toNat : Int) == 35) = false := by
    rw [beq_eq_false_iff_ne]; intro h; exact hx1 (UInt8.toNat_inj.mp (by show x.toNat = 35; omega))
  have HB := Lib.hid hB
  have HN := Lib.hid hn
  have HX := Lib.hid hx
  have HK0 := Lib.hid hk0
  have HOM := Lib.hid hom
  clear hB hn hx hx1 hk0 hom
  go_enter Try.func42, Try.ntmps42
  go_wp2
  go_quiet (fail)
  go_upto_block 2 with (fail)
  go_cut [8, 13] (fun i x wc => i = .int .i64 k0 ∧ wc = w.drewN nq ∧ 1 ≤ k0 ∧ k0 ≤ n - src)
  case first =>
    go_wp2_with fail
    go_loopg [8] (n - src) (fun q i wr => ∃ (k : Nat), i = .int .i64 k ∧ q + k = n - src + 1 ∧ 1 ≤ k ∧ k ≤ n - src ∧ wr = w.drewN nq ∧ Hid (k0 = nameLoop (bs.drop (src + k)) k))
    case atStart => exact ⟨1, rfl, rfl, by omega, by omega, rfl, HK0.out⟩
    case round =>
      obtain ⟨k, rfl, hq, hk1, hkn, rfl, HR⟩ := hrel
      by_cases hlt : k < n - src
      · obtain ⟨ch, hch⟩ : ∃ ch, ch = bs.getD (src + k) 0 := ⟨_, rfl⟩
        have hck : w.cell? ⟨g, src + k, none⟩ = some (.int .u8 ch.toNat) := by rw [hch]; exact HB.out.cell (src + k) (by rw [HN.out]; omega)
        have hst : nameLoop (bs.drop (src + k)) k = nameLoop (ch :: bs.drop (src + k + 1)) k := by rw [hch, ← getD_drop_cons bs (src + k) (by rw [HN.out]; omega)]
        have HS := Lib.hid (HR.out.trans hst)
        have HC := Lib.hid hch
        have HQ := Lib.hid hq
        clear hch hst hq HR
        have hgo : ∀ (hal : isAl ch = true), Hid (k0 = nameLoop (bs.drop (src + (k + 1))) (k + 1)) := fun hal => by show _ = _; rw [HS.out, nameLoop, if_pos hal]; rfl
        have hno : ∀ (hal : isAl ch = false), Hid (k0 = if ((ch.toNat : Int) != 59) = true then k else k + 1) := fun hal => by show _ = _; rw [HS.out, nameLoop, if_neg (by rw [hal]; decide)]
        have HGO := Lib.hid hgo
        have HNO := Lib.hid hno
        clear hgo hno HS
        by_cases ha : 97 ≤ (ch.toNat : Int) ∧ (ch.toNat : Int) ≤ 122
        · have HR := HGO.out (decide_eq_true (Or.inl ha))
          obtain ⟨ha1, ha2⟩ := ha
          go_wp2_with fail
          go_roundg (gk - 1)
          case measure => have := HQ.out; omega
          case rel => exact ⟨k + 1, by go_num, by have := HQ.out; omega, by omega, by omega, rfl, HR⟩
        by_cases hb : 65 ≤ (ch.toNat : Int) ∧ (ch.toNat : Int) ≤ 90
        · have HR := HGO.out (decide_eq_true (Or.inr (Or.inl hb)))
          clear ha
          obtain ⟨hb1, hb2⟩ := hb
          go_wp2_with fail
          go_roundg (gk - 1)
          case measure => have := HQ.out; omega
          case rel => exact ⟨k + 1, by go_num, by have := HQ.out; omega, by omega, by omega, rfl, HR⟩
        by_cases hd : 48 ≤ (ch.toNat : Int) ∧ (ch.toNat : Int) ≤ 57
        · have HR := HGO.out (decide_eq_true (Or.inr (Or.inr hd)))
          clear ha hb
          obtain ⟨hd1, hd2⟩ := hd
          go_wp2_with fail
          go_roundg (gk - 1)
          case measure => have := HQ.out; omega
          case rel => exact ⟨k + 1, by go_num, by have := HQ.out; omega, by omega, by omega, rfl, HR⟩
        have HR := HNO.out (decide_eq_false (by omega))
        have hlo : (ch.toNat : Int) < 48 ∨ (57 < (ch.toNat : Int) ∧ (ch.toNat : Int) < 65) ∨ (90 < (ch.toNat : Int) ∧ (ch.toNat : Int) < 97) ∨ 122 < (ch.toNat : Int) := by omega
        clear ha hb hd HGO HNO
        rcases hlo with hlo | ⟨hlo, hlo2⟩ | ⟨hlo, hlo2⟩ | hlo
        all_goals
          by_cases h59 : ((ch.toNat : Int) != 59) = true
          · have HR1 := HR.out
            rw [if_pos h59] at HR1
            have HR2 := Lib.hid HR1
            clear HR1 HR
            go_wp2_with fail
            go_meet
            case rel => exact ⟨by rw [HR2.out], rfl, by rw [HR2.out]; omega, by rw [HR2.out]; omega⟩
          · have h59' : ((ch.toNat : Int) != 59) = false := by simpa using h59
            have HR1 := HR.out
            rw [if_neg h59] at HR1
            have HR2 := Lib.hid HR1
            clear HR1 HR h59
            go_wp2_with fail
            go_meet
            case rel => exact ⟨by rw [HR2.out]; go_num, rfl, by rw [HR2.out]; omega, by rw [HR2.out]; omega⟩
      · have hend : nameLoop (bs.drop (src + k)) k = k := by
          have : bs.drop (src + k) = [] := List.drop_eq_nil_of_le (by rw [HN.out]; omega)
          rw [this, nameLoop]
        have HE := Lib.hid (HR.out.trans hend)
        clear hend hq
        go_wp2_with fail
        go_meet
        case rel => exact ⟨by rw [HE.out], rfl, by rw [HE.out]; omega, by rw [HE.out]; omega⟩
  case rest =>
    obtain ⟨rfl, rfl, hk1, hkn⟩ := hcut
    clear HK0
    have key : ∀ (hs : (o, m) = ((bs.drop src).take k0, k0)), Hid ((dst + k0 ≤ bs.length ∧ src + k0 ≤ bs.length) ∧ o = (bs.drop src).take k0 ∧ k0 = m ∧ o.length = k0) := by
      intro hs
      obtain ⟨rfl, rfl⟩ : o = (bs.drop src).take k0 ∧ m = k0 := by simpa using hs
      exact ⟨⟨by rw [HN.out]; omega, by rw [HN.out]; omega⟩, rfl, rfl, by rw [List.length_take, List.length_drop, HN.out]; omega⟩
    have KEY := Lib.hid key
    clear key
    by_cases h1k : k0 = 1
    · subst h1k
      have HO := KEY.out (by rw [← HOM.out]; rfl)
      clear HOM KEY
      go_wp2_with fail
      have hA1 : (dst : Int) + 1 ≤ c := by omega
      have hA2 : (src : Int) + 1 ≤ c := by omega
      have hA3 : ¬ c = dst := by omega
      have hA4 : ¬ c = src := by omega
      have hA5 : 0 ≤ (dst : Int) + 1 := by omega
      have hA6 : 0 ≤ (src : Int) + 1 := by omega
      have hA7 : ((dst : Int) + 1).toNat = dst + 1 := by omega
      have hA8 : ((src : Int) + 1).toNat = src + 1 := by omega
      have hA9 : (dst : Int) ≤ (dst : Int) + 1 := by omega
      have hA10 : (src : Int) ≤ (src : Int) + 1 := by omega
      have hA11 : dst + 1 - dst = 1 := by omega
      have hA12 : src + 1 - src = 1 := by omega
      go_still_tail 8, (by kernel_rfl)
      clear hA1 hA2 hA3 hA4 hA5 hA6 hA7 hA8 hA9 hA10 hA11 hA12
      obtain ⟨⟨hf1, hf2⟩, rfl, rfl, hol⟩ := HO.out
      change wpList _ _ _ _ _ ((w.drewN nq).drew)
      have HBW : Buf ((w.drewN nq).drew) g bs := HB.out
      refine Lib.wpList_copy_run _ rfl (.tmp 331) (.tmp 335) 29 29 rfl _ _ rfl rfl (copy_buf _ g bs HBW dst src 1 _ _ hf1 hf2 _) ?_
      have H1 := Lib.hid hf1
      have H2 := Lib.hid hf2
      have H3 := Lib.hid hol
      have H4 := Lib.hid HBW
      clear hf1 hf2 hol HBW
      go_wp2_with fail
      go_ret2
      exact ⟨by rw [H3.out]; rfl, H4.out.put dst _ (by rw [H3.out]; exact H1.out), grownBy_trans (grownBy_drewN w (nq + 1) _) (grownBy_setCells g _ dst _)⟩
    · obtain ⟨nm, hnm⟩ : ∃ nm, nm = ((bs.drop src).drop 1).take (k0 - 1) := ⟨_, rfl⟩
      obtain ⟨NM, hNM⟩ : ∃ NM : ByteArray, NM = ⟨nm.toArray⟩ := ⟨_, rfl⟩
      have hnl : nm.length = k0 - 1 := by rw [hnm]; simp [HN.out]; omega
      have hcv : ∀ q, (convert 29 9 (.slice (some ⟨g, src + 1, none⟩) (k0 - 1) (c - src - 1))).run Try.prog (w.drewN q) = .ok (.string NM) (w.drewN q) := by
        intro q
        rw [conv_buf (w.drewN q) g bs HB.out (src + 1) (k0 - 1) _ (by rw [HN.out]; omega), hNM, hnm, List.drop_drop]
      have hsz : NM.size ≤ 9223372036854775807 := by rw [hNM]; show nm.toArray.size ≤ _; simp [hnl]; omega
      obtain ⟨X, hX⟩ : ∃ X, X = (entity nm).1 := ⟨_, rfl⟩
      obtain ⟨Y, hY⟩ : ∃ Y, Y = (entity nm).2 := ⟨_, rfl⟩
      have cent : ∀ W, Calls Try.prog 49 #[.string NM] W fun e w' => e = .returned (.tuple #[.int .i32 X, .int .i32 Y]) ∧ W = w' := by
        intro W
        have := entity_any NM W hsz
        rw [hX, hY]
        rw [hNM] at this ⊢
        exact this
      have hor : (o, m) = if X ≠ 0 ∧ Y = 0 then (encB X, k0) else if X ≠ 0 then (encB X ++ encB Y, k0) else match prefLoop nm (min (k0 - 2) 6) with
          | some (x, j) => (encB x, j + 1)
          | none => ((bs.drop src).take k0, k0) := by
        rw [← HOM.out, nameOut, if_neg h1k, ← hnm, ← hX, ← hY]
      have hle := entity_le nm
      rw [← hX, ← hY] at hle
      have hrg := entity_range nm
      rw [← hX, ← hY] at hrg
      obtain ⟨hx1, hx2, hy1, hy2⟩ := hrg
      have HLE := Lib.hid hle
      have HOR := Lib.hid hor
      have CENT := Lib.hid cent
      have HNL := Lib.hid hnl
      have HNM := Lib.hid hnm
      clear hle hor cent hNM hnm hX hY HOM hnl hsz
      have hk0z : ((↑(k0 - 1) : Int) == 0) = false := by rw [beq_eq_false_iff_ne]; omega
      clear h1k
      have hk2 : 2 ≤ k0 := by
        have : (↑(k0 - 1) : Int) ≠ 0 := by simpa using hk0z
        omega
      by_cases hx0 : X = 0
      · have HO := HOR.out
        rw [if_neg (fun h => h.1 hx0), if_neg (fun h => h hx0)] at HO
        subst hx0
        have HO1 := Lib.hid HO
        clear HO HOR HLE
        obtain ⟨j0, hj0⟩ : ∃ j0, j0 = min (k0 - 2) 6 := ⟨_, rfl⟩
        have hj0k : j0 ≤ k0 - 2 := by omega
        have hj06 : j0 ≤ 6 := by omega
        rw [← hj0] at HO1
        have hcvj : ∀ q j, j ≤ k0 - 1 → (convert 29 9 (.slice (some ⟨g, src + 1, none⟩) j (c - src - 1))).run Try.prog (w.drewN q) = .ok (.string ⟨(nm.take j).toArray⟩) (w.drewN q) := by
          intro q j hj
          rw [conv_buf (w.drewN q) g bs HB.out (src + 1) j _ (by rw [HN.out]; omega), HNM.out, List.drop_drop, List.take_take, Nat.min_eq_left hj]
        have HCV := Lib.hid hcvj
        clear hcvj
        have cent2 : ∀ j W, j ≤ k0 - 1 → Calls Try.prog 49 #[.string ⟨(nm.take j).toArray⟩] W fun e w' => e = .returned (.tuple #[.int .i32 (entity (nm.take j)).1, .int .i32 (entity (nm.take j)).2]) ∧ W = w' := by
          intro j W hj
          exact entity_any ⟨(nm.take j).toArray⟩ W (by show (nm.take j).toArray.size ≤ _; simp [HNL.out]; omega)
        have CENT2 := Lib.hid cent2
        clear cent2
        have htl : ∀ j, j ≤ k0 - 1 → (nm.take j).length = j := fun j hj => by rw [List.length_take, HNL.out]; omega
        have HTL := Lib.hid htl
        clear htl
        have hcase : 6 < (↑(k0 - 1) : Int) - 1 ∨ (↑(k0 - 1) : Int) - 1 ≤ 6 := by omega
        have HJ0 := Lib.hid hj0
        clear hj0
        rcases hcase with h8 | h8
        all_goals
          have hst : (if (6 : Int) < (↑(k0 - 1) : Int) - 1 then (6 : Int) else (↑(k0 - 1) : Int) - 1) = (j0 : Int) := by have := HJ0.out; split <;> omega
          first | rw [if_pos h8] at hst | rw [if_neg (by omega)] at hst
          have HST := Lib.hid hst
          clear hst
          go_upto_block 4 with (go_at_call 49; refine (CENT.out _).mono ?_; rintro e w' ⟨rfl, rfl⟩)
          go_wp2_with fail
          go_loopg [19] j0 (fun q i wr => ∃ (j : Nat), i = .int .i64 j ∧ q = j ∧ j ≤ j0 ∧ wr = w.drewN nq ∧ Hid ((o, m) = match prefLoop nm j with
            | some (x, j) => (encB x, j + 1)
            | none => ((bs.drop src).take k0, k0)))
          case atStart => exact ⟨j0, by first | rw [HST.out] | rfl, rfl, Nat.le_refl _, rfl, HO1.out⟩
          case round =>
            clear HO1
            obtain ⟨j, rfl, hq, hjj, rfl, HR⟩ := hrel
            have HQ := Lib.hid hq
            clear hq
            by_cases hj1 : 1 < j
            · obtain ⟨j', rfl⟩ : ∃ j', j = j' + 1 := ⟨j - 1, by omega⟩
              have hcv2 := HCV.out nq (j' + 1) (by omega)
              obtain ⟨NJ, hNJ⟩ : ∃ NJ : ByteArray, NJ = ⟨(nm.take (j' + 1)).toArray⟩ := ⟨_, rfl⟩
              obtain ⟨U, hU⟩ : ∃ U, U = (entity (nm.take (j' + 1))).1 := ⟨_, rfl⟩
              obtain ⟨V, hV⟩ : ∃ V, V = (entity (nm.take (j' + 1))).2 := ⟨_, rfl⟩
              have ce := fun W => CENT2.out (j' + 1) W (by omega)
              rw [← hNJ] at hcv2 ce
              rw [← hU, ← hV] at ce
              have hle2 := entity_le (nm.take (j' + 1))
              rw [← hU, ← hV, HTL.out (j' + 1) (by omega)] at hle2
              have hrg2 := entity_range (nm.take (j' + 1))
              rw [← hU, ← hV] at hrg2
              obtain ⟨hu1, hu2, hv1, hv2⟩ := hrg2
              obtain ⟨hl1, hl2⟩ := encB_length U
              have hpf : prefLoop nm (j' + 1) = if U ≠ 0 ∧ V = 0 then some (U, j' + 1) else prefLoop nm j' := by
                rw [prefLoop, if_neg (by omega), ← hU, ← hV]
              have CE := Lib.hid ce
              have HLE2 := Lib.hid hle2
              have HPF := Lib.hid hpf
              clear ce hle2 hpf hU hV hNJ
              have hjn : (↑j' : Int) + 1 ≤ ↑(c - src - 1) := by omega
              by_cases hu0 : U = 0
              · subst hu0
                have HR2 := HR.out
                rw [HPF.out, if_neg (fun h => h.1 rfl)] at HR2
                have HR3 := Lib.hid HR2
                clear HR2 HR HPF HLE2
                go_wp2_with (go_at_call 49; refine (CE.out _).mono ?_; rintro e w' ⟨rfl, rfl⟩)
                go_roundg (gk - 1)
                case measure => have := HQ.out; omega
                case rel => exact ⟨j', by go_num, by have := HQ.out; omega, by omega, rfl, HR3.out⟩
              · have hub : (U != 0) = true := by simpa using hu0
                by_cases hv0 : V = 0
                · have hvb : (V == 0) = true := by simpa using hv0
                  have HR2 := HR.out
                  rw [HPF.out, if_pos ⟨hu0, hv0⟩] at HR2
                  obtain ⟨rfl, rfl⟩ : o = encB U ∧ m = j' + 1 + 1 := by simpa using HR2
                  have hlen : (encB U).length ≤ j' + 1 + 1 := by
                    have := HLE2.out hu0
                    rw [if_pos hv0] at this
                    omega
                  clear HR2 HR HPF HLE2 hu0 hv0
                  go_wp2_with (first | (go_at_call 49; refine (CE.out _).mono ?_; rintro e w' ⟨rfl, rfl⟩) | (go_at_call 48; refine (enc_buf g dst (n - dst) (c - dst) U (by omega) (by omega) _ bs (HB.out.drewN _) (by omega) (by rw [HN.out]; omega)).mono ?_; rintro e w' ⟨rfl, hb', hg'⟩))
                  go_ret2
                  refine ⟨?_, hb', grownBy_trans (grownBy_drewN w _ _) hg'⟩
                  simp
                  omega
                · have hvb : (V == 0) = false := by simpa using hv0
                  have HR2 := HR.out
                  rw [HPF.out, if_neg (fun h => hv0 h.2)] at HR2
                  have HR3 := Lib.hid HR2
                  clear HR2 HR HPF HLE2 hv0 hu0
                  go_wp2_with (go_at_call 49; refine (CE.out _).mono ?_; rintro e w' ⟨rfl, rfl⟩)
                  go_roundg (gk - 1)
                  case measure => have := HQ.out; omega
                  case rel => exact ⟨j', by go_num, by have := HQ.out; omega, by omega, rfl, HR3.out⟩
            · have hpn : prefLoop nm j = none := by
                cases j with
                | zero => rfl
                | succ j' => rw [prefLoop, if_pos (by omega)]
              have HR2 := HR.out
              rw [hpn] at HR2
              have HO := KEY.out HR2
              clear HR2 HR hpn KEY
              go_wp2_with fail
              have hA1 : (dst : Int) + k0 ≤ c := by omega
              have hA2 : (src : Int) + k0 ≤ c := by omega
              have hA3 : ¬ c = dst := by omega
              have hA4 : ¬ c = src := by omega
              have hA5 : 0 ≤ (dst : Int) + k0 := by omega
              have hA6 : 0 ≤ (src : Int) + k0 := by omega
              have hA7 : ((dst : Int) + k0).toNat = dst + k0 := by omega
              have hA8 : ((src : Int) + k0).toNat = src + k0 := by omega
              have hA9 : (dst : Int) ≤ (dst : Int) + k0 := by omega
              have hA10 : (src : Int) ≤ (src : Int) + k0 := by omega
              have hA11 : dst + k0 - dst = k0 := by omega
              have hA12 : src + k0 - src = k0 := by omega
              go_still_tail 8, (by kernel_rfl)
              clear hA1 hA2 hA3 hA4 hA5 hA6 hA7 hA8 hA9 hA10 hA11 hA12
              obtain ⟨⟨hf1, hf2⟩, rfl, rfl, hol⟩ := HO.out
              change wpList _ _ _ _ _ ((w.drewN nq).drew)
              have HBW : Buf ((w.drewN nq).drew) g bs := HB.out
              refine Lib.wpList_copy_run _ rfl (.tmp 331) (.tmp 335) 29 29 rfl _ _ rfl rfl (copy_buf _ g bs HBW dst src k0 _ _ hf1 hf2 _) ?_
              have H1 := Lib.hid hf1
              have H2 := Lib.hid hf2
              have H3 := Lib.hid hol
              have H4 := Lib.hid HBW
              clear hf1 hf2 hol HBW
              go_wp2_with fail
              go_ret2
              exact ⟨by rw [H3.out]; rfl, H4.out.put dst _ (by rw [H3.out]; exact H1.out), grownBy_trans (grownBy_drewN w (nq + 1) _) (grownBy_setCells g _ dst _)⟩
      · have hxb : (X != 0) = true := by simpa using hx0
        obtain ⟨hl1, hl2⟩ := encB_length X
        by_cases hy0 : Y = 0
        · have hyb : (Y == 0) = true := by simpa using hy0
          have hlen : (encB X).length ≤ k0 := by
            have := HLE.out hx0
            rw [if_pos hy0, HNL.out] at this
            omega
          have HO := HOR.out
          rw [if_pos ⟨hx0, hy0⟩] at HO
          obtain ⟨rfl, rfl⟩ : o = encB X ∧ m = k0 := by simpa using HO
          clear HO HOR HLE hx0 hy0
          go_wp2_with (first | (go_at_call 49; refine (CENT.out _).mono ?_; rintro e w' ⟨rfl, rfl⟩) | (go_at_call 48; refine (enc_buf g dst (n - dst) (c - dst) X (by omega) (by omega) _ bs (HB.out.drewN _) (by omega) (by rw [HN.out]; omega)).mono ?_; rintro e w' ⟨rfl, hb', hg'⟩))
          go_ret2
          exact ⟨rfl, hb', grownBy_trans (grownBy_drewN w _ _) hg'⟩
        · have hyb : (Y == 0) = false := by simpa using hy0
          obtain ⟨hm1, hm2⟩ := encB_length Y
          have hlen : (encB X).length + (encB Y).length ≤ k0 := by
            have := HLE.out hx0
            rw [if_neg hy0, HNL.out] at this
            omega
          have HO := HOR.out
          rw [if_neg (fun h => hy0 h.2), if_pos hx0] at HO
          obtain ⟨rfl, rfl⟩ : o = encB X ++ encB Y ∧ m = k0 := by simpa using HO
          clear HO HOR HLE hx0 hy0
          have hX := HB
          have hpl : (putB bs dst (encB X)).length = n := by rw [putB_length _ _ _ (by rw [HN.out]; omega), HN.out]
          have HPL := Lib.hid hpl
          clear hpl
          have tok1 : True := trivial
          go_wp2_with (first | (go_at_call 49; refine (CENT.out _).mono ?_; rintro e w' ⟨rfl, rfl⟩) | (go_at_call 48; have _t := tok1; refine (enc_buf g dst (n - dst) (c - dst) X (by omega) (by omega) _ bs (HB.out.drewN _) (by omega) (by rw [HN.out]; omega)).mono ?_; rintro e w1 ⟨rfl, hb1', hg1'⟩; have HB1 := Lib.hid hb1'; have HG1 := Lib.hid hg1'; clear hb1' hg1' tok1) | (go_at_call 48; refine (enc_buf g (dst + (encB X).length) (n - (dst + (encB X).length)) (c - (dst + (encB X).length)) Y (by omega) (by omega) _ (putB bs dst (encB X)) HB1.out (by omega) (by rw [HPL.out]; omega)).mono ?_; rintro e w2 ⟨rfl, hb2', hg2'⟩))
          go_ret2
          refine ⟨by simp [Int.add_assoc], ?_, grownBy_trans (grownBy_drewN w _ _) (grownBy_trans HG1.out hg2')⟩
          rw [putB_putB _ _ _ _ (by rw [HN.out]; omega)] at hb2'
          exact hb2'
end Go.Proofs.Ytkogokjlpgnmlaa
