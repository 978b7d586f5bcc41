/-
  FnInlineAlone: contracts of the standard library, laid.
  FnInlineAlone: callbacks: line ends, escapes.
-/
import Derived.Test.YtalajbfpilhfgaaGreatDoorK02
import Derived.Shelf.LaysM
import Derived.Shelf.Bytes.Len
import Derived.Shelf.Bytes.Write
import Derived.Shelf.Bytes.Bytes
import Derived.Shelf.Bytes.SlIndexAt
import Derived.Shelf.Bytes.SlSearch0
import Derived.Shelf.Bytes.SlSmallAll
import Derived.Shelf.Bytes.SlEqualAll
import Derived.Test.YtalajbfpilhfgaaGreatDoorProg
set_option linter.unusedVariables false
set_option linter.unusedSimpArgs false
namespace Go.Proofs
open Go.Shelf
def Tryz.laysM181_ren : Go.Shelf.Ren := ⟨fun | 181 => 74 | n => n, fun | 130 => 131 | 3 => 3 | 0 => 0 | 93 => 120 | 37 => 34 | 91 => 118 | 5 => 5 | n => n, fun | n => n⟩
theorem Tryz.laysM181 : Go.Proofs.LaysM.n181 Tryz.prog Tryz.laysM181_ren := {
  mixed := by kernel_rfl
  f181 := Tryz.func74.trans (congrArg some (by kernel_rfl))
  t0 := Tryz.underlying0
  a0 := Tryz.isAgg0
  z0 := Tryz.sizeOf0
  v0 := Tryz.zeroValue0
  t3 := Tryz.underlying3
  a3 := Tryz.isAgg3
  z3 := Tryz.sizeOf3
  v3 := Tryz.zeroValue3
  t37 := Tryz.underlying34
  a37 := Tryz.isAgg34
  z37 := Tryz.sizeOf34
  v37 := Tryz.zeroValue34
  t93 := Tryz.underlying120
  a93 := Tryz.isAgg120
  z93 := Tryz.sizeOf120
  v93 := Tryz.zeroValue120
  t130 := Tryz.underlying131
  a130 := Tryz.isAgg131
  z130 := Tryz.sizeOf131
  v130 := Tryz.zeroValue131
  t5 := Tryz.underlying5
  a5 := Tryz.isAgg5
  z5 := Tryz.sizeOf5
  v5 := Tryz.zeroValue5
  t91 := Tryz.underlying118
  a91 := Tryz.isAgg118
  z91 := Tryz.sizeOf118
  v91 := Tryz.zeroValue118
  i0 := by kernel_rfl
  i3 := by kernel_rfl
  i5 := by kernel_rfl
  i37 := by kernel_rfl
  i91 := by kernel_rfl
  i93 := by kernel_rfl
  i130 := by kernel_rfl }
open Go.RowKit in
theorem Tryz.Buffer_Len (B b : Nat) (bs : List Value) (w : World) (h : Lib.IsBuffer 120 5 B b bs w) :
    Calls Tryz.prog 74 #[.pointer (some ⟨b, 0, none⟩)] w fun e w' => e = .returned (.int .i64 bs.length) ∧ ∃ n, w' = w.drewN n := Any.Buffer_Len Tryz.laysM181 B b bs w h
def Tryz.laysM180_ren : Go.Shelf.Ren := ⟨fun | 180 => 91 | 251 => 87 | 252 => 88 | 181 => 74 | 184 => 100 | 290 => 101 | 324 => 110 | n => n, fun | 130 => 131 | 37 => 34 | 3 => 3 | 75 => 122 | 0 => 0 | 93 => 120 | 91 => 118 | 131 => 141 | 4 => 4 | 20 => 20 | 5 => 5 | 80 => 174 | 9 => 9 | n => n, fun | 14 => 0 | n => n⟩
theorem Tryz.laysM180 : Go.Proofs.LaysM.n180 Tryz.prog Tryz.laysM180_ren := {
  mixed := by kernel_rfl
  f180 := Tryz.func91.trans (congrArg some (by kernel_rfl))
  f181 := Tryz.func74.trans (congrArg some (by kernel_rfl))
  f184 := Tryz.func100.trans (congrArg some (by kernel_rfl))
  f251 := Tryz.func87.trans (congrArg some (by kernel_rfl))
  f252 := Tryz.func88.trans (congrArg some (by kernel_rfl))
  f290 := Tryz.func101.trans (congrArg some (by kernel_rfl))
  f324 := Tryz.func110.trans (congrArg some (by kernel_rfl))
  t0 := Tryz.underlying0
  a0 := Tryz.isAgg0
  z0 := Tryz.sizeOf0
  v0 := Tryz.zeroValue0
  t3 := Tryz.underlying3
  a3 := Tryz.isAgg3
  z3 := Tryz.sizeOf3
  v3 := Tryz.zeroValue3
  t4 := Tryz.underlying4
  a4 := Tryz.isAgg4
  z4 := Tryz.sizeOf4
  v4 := Tryz.zeroValue4
  t20 := Tryz.underlying20
  a20 := Tryz.isAgg20
  z20 := Tryz.sizeOf20
  v20 := Tryz.zeroValue20
  t37 := Tryz.underlying34
  a37 := Tryz.isAgg34
  z37 := Tryz.sizeOf34
  v37 := Tryz.zeroValue34
  t75 := Tryz.underlying122
  a75 := Tryz.isAgg122
  z75 := Tryz.sizeOf122
  v75 := Tryz.zeroValue122
  t91 := Tryz.underlying118
  a91 := Tryz.isAgg118
  z91 := Tryz.sizeOf118
  v91 := Tryz.zeroValue118
  t93 := Tryz.underlying120
  a93 := Tryz.isAgg120
  z93 := Tryz.sizeOf120
  v93 := Tryz.zeroValue120
  t130 := Tryz.underlying131
  a130 := Tryz.isAgg131
  z130 := Tryz.sizeOf131
  v130 := Tryz.zeroValue131
  t131 := Tryz.underlying141
  a131 := Tryz.isAgg141
  z131 := Tryz.sizeOf141
  v131 := Tryz.zeroValue141
  g14 := by kernel_rfl
  t5 := Tryz.underlying5
  a5 := Tryz.isAgg5
  z5 := Tryz.sizeOf5
  v5 := Tryz.zeroValue5
  t9 := Tryz.underlying9
  a9 := Tryz.isAgg9
  z9 := Tryz.sizeOf9
  v9 := Tryz.zeroValue9
  t80 := Tryz.underlying174
  a80 := Tryz.isAgg174
  z80 := Tryz.sizeOf174
  v80 := Tryz.zeroValue174
  i0 := by kernel_rfl
  i3 := by kernel_rfl
  i4 := by kernel_rfl
  i5 := by kernel_rfl
  i9 := by kernel_rfl
  i20 := by kernel_rfl
  i37 := by kernel_rfl
  i75 := by kernel_rfl
  i80 := by kernel_rfl
  i91 := by kernel_rfl
  i93 := by kernel_rfl
  i130 := by kernel_rfl
  i131 := by kernel_rfl
  m14 := by kernel_rfl }
open Go.RowKit in
theorem Tryz.Buffer_Write (B b : Nat) (bs cs : List Value) (a : Addr) (n c : Nat) (w : World) (h : Lib.IsBuffer 120 5 B b bs w) (hBw : B ≤ w.heap.size) (h1 : ∀ v ∈ bs, v.oneCell' = true) (hn : cs.length = n) (haB : a.block < B) (hsrc : ∀ j v, cs[j]? = some v → w.cell? (a.add j) = some v) (h1c : ∀ v ∈ cs, v.oneCell' = true) (hlim : bs.length + n ≤ 140737488355328) :
    Calls Tryz.prog 91 #[.pointer (some ⟨b, 0, none⟩), .slice (some a) n c] w fun e w' => e = .returned (.tuple #[.int .i64 n, .nilIface]) ∧ Lib.IsBuffer 120 5 B b (bs ++ cs) w' ∧ Below B w w' := Any.Buffer_Write Tryz.laysM180 B b bs cs a n c w h hBw h1 hn haB hsrc h1c hlim
def Tryz.laysM183_ren : Go.Shelf.Ren := ⟨fun | 183 => 66 | n => n, fun | 130 => 131 | 37 => 34 | 0 => 0 | 93 => 120 | 3 => 3 | 5 => 5 | 91 => 118 | n => n, fun | n => n⟩
theorem Tryz.laysM183 : Go.Proofs.LaysM.n183 Tryz.prog Tryz.laysM183_ren := {
  mixed := by kernel_rfl
  f183 := Tryz.func66.trans (congrArg some (by kernel_rfl))
  t0 := Tryz.underlying0
  a0 := Tryz.isAgg0
  z0 := Tryz.sizeOf0
  v0 := Tryz.zeroValue0
  t3 := Tryz.underlying3
  a3 := Tryz.isAgg3
  z3 := Tryz.sizeOf3
  v3 := Tryz.zeroValue3
  t37 := Tryz.underlying34
  a37 := Tryz.isAgg34
  z37 := Tryz.sizeOf34
  v37 := Tryz.zeroValue34
  t93 := Tryz.underlying120
  a93 := Tryz.isAgg120
  z93 := Tryz.sizeOf120
  v93 := Tryz.zeroValue120
  t130 := Tryz.underlying131
  a130 := Tryz.isAgg131
  z130 := Tryz.sizeOf131
  v130 := Tryz.zeroValue131
  t5 := Tryz.underlying5
  a5 := Tryz.isAgg5
  z5 := Tryz.sizeOf5
  v5 := Tryz.zeroValue5
  t91 := Tryz.underlying118
  a91 := Tryz.isAgg118
  z91 := Tryz.sizeOf118
  v91 := Tryz.zeroValue118
  i0 := by kernel_rfl
  i3 := by kernel_rfl
  i5 := by kernel_rfl
  i37 := by kernel_rfl
  i91 := by kernel_rfl
  i93 := by kernel_rfl
  i130 := by kernel_rfl }
open Go.RowKit in
theorem Tryz.Buffer_Bytes (B b : Nat) (bs : List Value) (w : World) (h : Lib.IsBuffer 120 5 B b bs w) :
    Calls Tryz.prog 66 #[.pointer (some ⟨b, 0, none⟩)] w fun e w' => ∃ v, e = .returned v ∧ w'.ownsRow B 5 1 v bs.length bs ∧ ∃ n, w' = w.drewN n := Any.Buffer_Bytes Tryz.laysM183 B b bs w h
def Tryz.lays187_ren : Go.Shelf.Ren := ⟨fun | 187 => 76 | 255 => 94 | n => n, fun | 37 => 34 | 5 => 5 | 3 => 3 | n => n, fun | n => n⟩
theorem Tryz.lays187 : Go.Proofs.Lays.n187 Tryz.prog Tryz.lays187_ren := {
  mixed := by kernel_rfl
  f187 := Tryz.func76.trans (congrArg some (by kernel_rfl))
  f255 := Tryz.func94.trans (congrArg some (by kernel_rfl))
  t3 := Tryz.underlying3
  a3 := Tryz.isAgg3
  z3 := Tryz.sizeOf3
  v3 := Tryz.zeroValue3
  t5 := Tryz.underlying5
  a5 := Tryz.isAgg5
  z5 := Tryz.sizeOf5
  v5 := Tryz.zeroValue5
  t37 := Tryz.underlying34
  a37 := Tryz.isAgg34
  z37 := Tryz.sizeOf34
  v37 := Tryz.zeroValue34 }
open Go.RowKit Go.Lib in
theorem Tryz.bytes_IndexByte_at (a : Addr) (n c : Nat) (xs : List Int) (cv : Int) (w : World) (hx : xs.length = n) (hc : ∀ i, i < n → w.cell? (a.add i) = some (.int .u8 (xs.getD i 0))) :
    Calls Tryz.prog 76 #[.slice (some a) n c, .int .u8 cv] w fun e w' => e = .returned (.int .i64 (Lib.indexByte (Lib.bytesOf xs) cv.toNat.toUInt8)) ∧ w' = w := Any.bytes_IndexByte_at Tryz.lays187 a n c xs cv w hx hc
def Tryz.lays115_ren : Go.Shelf.Ren := ⟨fun | 115 => 79 | n => n, fun | 37 => 34 | 4 => 4 | 9 => 9 | 5 => 5 | n => n, fun | n => n⟩
theorem Tryz.lays115 : Go.Proofs.Lays.n115 Tryz.prog Tryz.lays115_ren := {
  mixed := by kernel_rfl
  f115 := Tryz.func79.trans (congrArg some (by kernel_rfl))
  t4 := Tryz.underlying4
  a4 := Tryz.isAgg4
  z4 := Tryz.sizeOf4
  v4 := Tryz.zeroValue4
  t9 := Tryz.underlying9
  a9 := Tryz.isAgg9
  z9 := Tryz.sizeOf9
  v9 := Tryz.zeroValue9
  t37 := Tryz.underlying34
  a37 := Tryz.isAgg34
  z37 := Tryz.sizeOf34
  v37 := Tryz.zeroValue34 }
open Go.Proofs Go.RowKit Go.Lib in
theorem Tryz.bytes_Equal_strs (v1 v2 : Value) (t1 t2 : ByteArray) (w : World) (h1 : (convert 34 9 v1).run Tryz.prog w = .ok (.string t1) w) (h2 : (convert 34 9 v2).run Tryz.prog w = .ok (.string t2) w) :
    Calls Tryz.prog 79 #[v1, v2] w fun e w' => e = .returned (.bool (t1.toList == t2.toList)) ∧ w' = w := Any.bytes_Equal_strs Tryz.lays115 v1 v2 t1 t2 w h1 h2
def Tryz.laysnb116_ren : Go.Shelf.Ren := ⟨fun | 116 => 93 | 115 => 79 | n => n, fun | 37 => 34 | 4 => 4 | 3 => 3 | 9 => 9 | 5 => 5 | n => n, fun | n => n⟩
theorem Tryz.laysnb116 : Go.Proofs.Lays.nb116 Tryz.prog Tryz.laysnb116_ren := {
  mixed := by kernel_rfl
  f115 := Tryz.func79.trans (congrArg some (by kernel_rfl))
  f116 := Tryz.func93.trans (congrArg some (by kernel_rfl))
  t3 := Tryz.underlying3
  a3 := Tryz.isAgg3
  z3 := Tryz.sizeOf3
  v3 := Tryz.zeroValue3
  t4 := Tryz.underlying4
  a4 := Tryz.isAgg4
  z4 := Tryz.sizeOf4
  v4 := Tryz.zeroValue4
  t9 := Tryz.underlying9
  a9 := Tryz.isAgg9
  z9 := Tryz.sizeOf9
  v9 := Tryz.zeroValue9
  t37 := Tryz.underlying34
  a37 := Tryz.isAgg34
  z37 := Tryz.sizeOf34
  v37 := Tryz.zeroValue34
  t5 := Tryz.underlying5
  a5 := Tryz.isAgg5
  z5 := Tryz.sizeOf5
  v5 := Tryz.zeroValue5 }
theorem Tryz.bytes_HasPrefix_all (p1 p2 : Option Addr) (n c m d : Nat) (xs ys : List Int) (w : World) (hx : xs.length = n) (hy : ys.length = m) (hnc : n ≤ c) (h1 : Lib.BytesIn w p1 n xs) (h2 : Lib.BytesIn w p2 m ys) :
    Calls Tryz.prog 93 #[.slice p1 n c, .slice p2 m d] w fun e w' => e = .returned (.bool (Lib.hasPrefix (Lib.bytesOf xs) (Lib.bytesOf ys))) ∧ w' = w := Any.bytes_HasPrefix_all Tryz.laysnb116 p1 p2 n c m d xs ys w hx hy hnc h1 h2
end Go.Proofs
namespace Go.Proofs.YtalajbfpilhfgaaGreatDoor
open Go.RowKit

theorem ofInt_i64 (a : Nat) (ha : a < 9223372036854775808) : (BitVec.ofInt 64 (a : Int)).toNat = a := by
  rw [BitVec.ofInt_natCast, BitVec.toNat_ofNat]; exact Nat.mod_eq_of_lt (by omega)
theorem i64_and_nat (a b : Nat) (ha : a < 9223372036854775808) (hb : b < 9223372036854775808) : bits .and .i64 (a : Int) (b : Int) = ((a &&& b : Nat) : Int) := by
  have hx : a &&& b < 2 ^ 63 := Nat.and_lt_two_pow _ (by omega)
  show IntKind.i64.wrap ((BitVec.ofInt 64 (a : Int) &&& BitVec.ofInt 64 (b : Int)).toNat : Int) = _
  rw [BitVec.toNat_and, ofInt_i64 a ha, ofInt_i64 b hb, IntKind.wrap_i64]
  omega
/-- One extension of a set. -/
theorem and_bit (ext k : Nat) (h : ext ≤ 131070) (hk : k < 17) : bits .and .i64 (ext : Int) ((2 ^ k : Nat) : Int) = if ext.testBit k = true then ((2 ^ k : Nat) : Int) else 0 := by
  have h2 : 2 ^ k ≤ 2 ^ 17 := Nat.pow_le_pow_right (by omega) (by omega)
  rw [i64_and_nat ext (2 ^ k) (by omega) (by omega)]
  have key : ext &&& 2 ^ k = if ext.testBit k = true then 2 ^ k else 0 := by
    apply Nat.eq_of_testBit_eq
    intro i
    rw [Nat.testBit_and, Nat.testBit_two_pow]
    by_cases hi : k = i
    · subst hi
      cases he : ext.testBit k <;> simp
    · cases he : ext.testBit k <;> simp [hi, Nat.testBit_two_pow]
  rw [key]
  cases ext.testBit k <;> simp

set_option maxRecDepth 100000 in
set_option maxHeartbeats 2000000 in
theorem nl_quiet (x : Ctx) (k : Nat) (ins : Bool) (e : Nat) (hx : x.ext ≤ 131070) (h8 : x.ext.testBit 8 = false) (w : World) (hi : x.inv k ins w) :
    Calls Tryz.prog 49 #[ptr x.M, x.val, .int .i64 e] w fun r w' => (∃ v, r = .returned (.tuple #[.int .i64 0, v])) ∧ Below w.heap.size w w' := by
  have hce := hi.ext'
  have hb := and_bit x.ext 8 hx (by omega)
  rw [h8, if_neg (by decide)] at hb
  have hb2 : bits .and .i64 (x.ext : Int) 256 = 0 := hb
  unfold Ctx.val
  clear hb hi hx h8
  go_enter Tryz.func49, Tryz.ntmps49
  go_wp2
  go_ret2
  exact ⟨⟨_, rfl⟩, Below.refl _ _⟩

set_option maxRecDepth 100000 in
set_option maxHeartbeats 2000000 in
theorem nl_takes (x : Ctx) (k : Nat) (ins : Bool) (e : Nat) (hx : x.ext ≤ 131070) (h8 : x.ext.testBit 8 = true) (h10 : x.D.getD e 0 = 10) : Takes x k ins e 1 (some (G.one 16 none none none .nil)) := by
  refine ⟨49, by rw [h10]; rfl, fun w hi => ?_⟩
  have hce := hi.ext'
  have hb := and_bit x.ext 8 hx (by omega)
  rw [h8, if_pos rfl] at hb
  have hb2 : bits .and .i64 (x.ext : Int) 256 = 256 := hb
  have CN := Lib.hid (fun w => new39 16 w)
  unfold Ctx.val
  clear hb hi hx h8
  go_enter Tryz.func49, Tryz.ntmps49
  go_wp2_with (go_at_call 39; refine (CN.out _).mono ?_; rintro r w' ⟨rfl, hn, hb, -⟩; have HNN := Lib.hid hn; have HB := Lib.hid hb; clear hn hb)
  go_ret2
  exact ⟨HB.out, _, rfl, made_one HNN.out⟩

def escL : Bs := [92, 96, 42, 95, 123, 125, 91, 93, 40, 41, 35, 43, 45, 46, 33, 58, 124, 38, 60, 62, 126]
/-- A new slice of bytes. -/
def NewRd (w : World) (l : Bs) (v : Value) (w' : World) : Prop := Below w.heap.size w w' ∧ ∃ g C fz, v = .slice (some ⟨g, 0, none⟩) l.length l.length ∧ w.heap.size ≤ g ∧ w'.heap[g]? = some (.cells C 5 fz) ∧ RdO w' g 0 l
theorem rd_const (W : World) (l : Bs) (fr : Nat × Nat) : NewRd W l (.slice (some ⟨W.heap.size, 0, none⟩) l.length l.length) (W.alloc (.cells (cellsB l).toArray 5 fr)) := by
  have hh : (W.alloc (.cells (cellsB l).toArray 5 fr)).heap[W.heap.size]? = some (.cells (cellsB l).toArray 5 fr) := by
    show (W.heap.push _)[W.heap.size]? = _
    simp
  refine ⟨(Below.refl _ W).alloc (Nat.le_refl _) _, W.heap.size, _, fr, rfl, Nat.le_refl _, hh, fun i hi => ?_⟩
  unfold World.cell?
  rw [show (W.alloc (.cells (cellsB l).toArray 5 fr)).heap[(⟨W.heap.size, 0 + i, none⟩ : Addr).block]? = _ from hh]
  have := cellsB_get l i hi
  simpa using this
set_option maxRecDepth 100000 in
set_option maxHeartbeats 2000000 in
theorem esc77 (w : World) : Calls Tryz.prog 77 #[] w fun e w' => ∃ v, e = .returned v ∧ NewRd w escL v w' := by
  have hcv : ∀ (w : World) (C : Array Value) (n c : Nat), (convert 34 34 (.slice (some ⟨w.heap.size, 0, none⟩) n c)).run Tryz.prog (w.alloc (.cells C 5)) = .ok (.slice (some ⟨w.heap.size, 0, none⟩) n c) (w.alloc (.cells C 5 (C.size, C.size + 1))) := fun w C n c => Lib.run_convert_bytes_const w 34 5 C n c Tryz.underlying34 Tryz.underlying5
  go_enter Tryz.func77, Tryz.ntmps77
  go_wp2
  go_ret
  exact ⟨_, rfl, rd_const w escL (21, 22)⟩

theorem bytesOf_map (l : Bs) : Lib.bytesOf (l.map fun b => (b.toNat : Int)) = l := by
  unfold Lib.bytesOf
  rw [List.map_map]
  conv => rhs; rw [← List.map_id l]
  apply List.map_congr_left
  intro b _
  simp
theorem idx76 {w w0 : World} {l : Bs} {g : Nat} (hR : RdO w g 0 l) (c : UInt8) (cap : Nat) : Calls Tryz.prog 76 #[.slice (some ⟨g, 0, none⟩) l.length cap, .int .u8 c.toNat] w fun e w' => e = .returned (.int .i64 (Lib.indexByte l c)) ∧ w' = w := by
  have := Tryz.bytes_IndexByte_at ⟨g, 0, none⟩ l.length cap (l.map fun b => (b.toNat : Int)) c.toNat w (by simp) (fun i hi => by
    rw [add_at, hR i hi]
    simp [List.getD_eq_getElem?_getD, List.getElem?_eq_getElem hi])
  rw [bytesOf_map] at this
  have e1 : (c.toNat : Int).toNat.toUInt8 = c := by simp
  rw [e1] at this
  exact this

theorem dT_one {x : Ctx} {k : Nat} {ins : Bool} {w w2 w' : World} {a b n : Nat} {l : Bs} (h : x.inv k ins w') (ha : w.heap.size ≤ a) (hl : b + n ≤ x.D.length) (hd : (x.D.drop b).take n = l)
    (hn : NodeIs w' a (nodeArr 12 nilP nilP nilP nilP nilP (.slice (some ⟨x.g, x.off + b, none⟩) n (x.cap - b)) nilS nilS)) : Made w (textG l) a w' := by
  refine ⟨dT x b (b + n), .nil, text_lone h (by omega) hl (by rw [Nat.add_sub_cancel_left]; exact hn), by simp [F.blocks], by intro i hi; simp [F.blocks] at hi; omega, ?_⟩
  show textG ((x.D.drop b).take (b + n - b)) = _
  rw [Nat.add_sub_cancel_left, hd]

set_option maxRecDepth 100000 in
set_option maxHeartbeats 4000000 in
theorem esc_takes (x : Ctx) (k : Nat) (ins : Bool) (e : Nat) (hx : x.ext ≤ 131070) (h92 : x.D.getD e 0 = 92) (y : UInt8) (he : e + 1 < x.D.length) (hy : x.D.getD (e + 1) 0 = y) (h10 : y ≠ 10) (hin : 0 ≤ Lib.indexByte escL y) : Takes x k ins e 2 (some (textG [y])) := by
  refine ⟨52, by rw [h92]; rfl, fun w hi => ?_⟩
  have hce := hi.ext'
  obtain ⟨u, hu⟩ : ∃ u, u = bits .and .i64 (x.ext : Int) 32768 := ⟨_, rfl⟩
  have hu2 : u = 0 ∨ u = 32768 := by
    have hb := and_bit x.ext 15 hx (by omega)
    rw [hu]
    cases h : x.ext.testBit 15 with
    | true => rw [h, if_pos rfl] at hb; exact Or.inr hb
    | false => rw [h, if_neg (by decide)] at hb; exact Or.inl hb
  have hc0 := hi.byte (j := e) (by omega)
  rw [h92] at hc0
  have c0 : w.cell? ⟨x.g, x.off + e, none⟩ = some (.int .u8 92) := hc0
  have c1 := hi.byte he
  rw [hy, ← Nat.add_assoc] at c1
  have b10 : ((y.toNat : Int) == 10) = false := beq_no (k := 10) h10
  have hcap := hi.2.2.2.1
  have hcap2 := hi.2.2.2.2
  unfold Ctx.val
  obtain ⟨n, hn⟩ : ∃ n, n = x.D.length := ⟨_, rfl⟩
  have hlen : e + 1 + 1 ≤ x.D.length := he
  have hdr : (x.D.drop (e + 1)).take 1 = [y] := by
    rw [getD_drop_cons x.D (e + 1) he, hy]; rfl
  rw [← hn] at he hcap ⊢
  have C77 := Lib.hid (fun w => esc77 w)
  have TX := Lib.hid (fun w => text45 (some ⟨x.g, x.off + e + 1, none⟩) 1 (x.cap - e - 1) w)
  have HI := Lib.hid hi
  have HIN : True := trivial
  have HLEN := Lib.hid hlen
  have HDR := Lib.hid hdr
  have hx1 : x.g < w.heap.size := hi.ltg
  clear hc0 hi h92 hn hy h10 hx hlen hdr
  have fin : ∀ w3 w4 : World, Below w.drew.heap.size w.drew w3 → NodeIs w4 w3.heap.size (nodeArr 12 nilP nilP nilP nilP nilP (.slice (some ⟨x.g, x.off + e + 1, none⟩) 1 (x.cap - e - 1)) nilS nilS) → Below w3.heap.size w3 w4 → Took w 2 (some (textG [y])) (.returned (.tuple #[.int .i64 2, ptr w3.heap.size])) w4 := fun w3 w4 h1 h2 h3 => by
    have hb : Below w.heap.size w w3 := (show Below w.heap.size w w.drew from (Below.refl _ w).drew).trans h1
    have hb2 := hb.trans (h3.mono hb.size)
    exact ⟨hb2, _, rfl, dT_one (w2 := w3) (HI.out.below hb2) hb.size HLEN.out HDR.out h2⟩
  have FIN := Lib.hid fin
  clear fin HI HLEN HDR HIN
  rcases hu2 with rfl | rfl
  · have hu3 : bits .and .i64 (x.ext : Int) 32768 = 0 := hu.symm
    clear hu
    go_enter Tryz.func52, Tryz.ntmps52
    go_wp2
    go_region_with (first
      | (go_at_call 77; refine (C77.out _).mono ?_; rintro r w2 ⟨v2, rfl, hb2, g2, C2, fz2, rfl, hg2, hh2, hr2⟩; have HB2 := Lib.hid hb2; have HR2 := Lib.hid hr2; have c1' : w2.cell? ⟨x.g, x.off + e + 1, none⟩ = some (.int .u8 y.toNat) := (hb2.cell (p := ⟨x.g, x.off + e + 1, none⟩) hx1).trans c1; clear hb2 hr2 hh2 hg2)
      | (go_at_call 76; refine (idx76 (w0 := w) HR2.out y _).mono ?_; rintro r w3 ⟨rfl, rfl⟩))
    all_goals
      go_wp2_with (go_at_call 45; refine (TX.out _).mono ?_; rintro r w4 ⟨rfl, hn4, hb4, -⟩; have HN4 := Lib.hid hn4; have HB4 := Lib.hid hb4; clear hn4 hb4)
      go_ret2
      exact FIN.out _ _ HB2.out HN4.out HB4.out
  · have hu3 : bits .and .i64 (x.ext : Int) 32768 = 32768 := hu.symm
    clear hu
    go_enter Tryz.func52, Tryz.ntmps52
    go_wp2
    go_region_with (first
      | (go_at_call 77; refine (C77.out _).mono ?_; rintro r w2 ⟨v2, rfl, hb2, g2, C2, fz2, rfl, hg2, hh2, hr2⟩; have HB2 := Lib.hid hb2; have HR2 := Lib.hid hr2; have c1' : w2.cell? ⟨x.g, x.off + e + 1, none⟩ = some (.int .u8 y.toNat) := (hb2.cell (p := ⟨x.g, x.off + e + 1, none⟩) hx1).trans c1; clear hb2 hr2 hh2 hg2)
      | (go_at_call 76; refine (idx76 (w0 := w) HR2.out y _).mono ?_; rintro r w3 ⟨rfl, rfl⟩))
    all_goals
      go_wp2_with (go_at_call 45; refine (TX.out _).mono ?_; rintro r w4 ⟨rfl, hn4, hb4, -⟩; have HN4 := Lib.hid hn4; have HB4 := Lib.hid hb4; clear hn4 hb4)
      go_ret2
      exact FIN.out _ _ HB2.out HN4.out HB4.out

set_option maxRecDepth 100000 in
set_option maxHeartbeats 4000000 in
theorem bs_takes (x : Ctx) (k : Nat) (ins : Bool) (e : Nat) (hx : x.ext ≤ 131070) (h15 : x.ext.testBit 15 = true) (h92 : x.D.getD e 0 = 92) (he : e + 1 < x.D.length) (h10 : x.D.getD (e + 1) 0 = 10) : Takes x k ins e 2 (some (G.one 16 none none none .nil)) := by
  refine ⟨52, by rw [h92]; rfl, fun w hi => ?_⟩
  have hce := hi.ext'
  have hb := and_bit x.ext 15 hx (by omega)
  rw [h15, if_pos rfl] at hb
  have hb2 : bits .and .i64 (x.ext : Int) 32768 = 32768 := hb
  have hc1 := hi.byte he
  rw [h10, ← Nat.add_assoc] at hc1
  have c1 : w.cell? ⟨x.g, x.off + e + 1, none⟩ = some (.int .u8 10) := hc1
  have hcap := hi.2.2.2.1
  have hcap2 := hi.2.2.2.2
  unfold Ctx.val
  obtain ⟨n, hn⟩ : ∃ n, n = x.D.length := ⟨_, rfl⟩
  rw [← hn] at he hcap ⊢
  have CN := Lib.hid (fun w => new39 16 w)
  clear hc1 hi h92 hn h10 hx hb h15
  go_enter Tryz.func52, Tryz.ntmps52
  go_wp2_with (go_at_call 39; refine (CN.out _).mono ?_; rintro r w' ⟨rfl, hn, hb, -⟩; have HNN := Lib.hid hn; have HB := Lib.hid hb; clear hn hb)
  go_ret2
  exact ⟨HB.out, _, rfl, made_one HNN.out⟩

set_option maxRecDepth 100000 in
set_option maxHeartbeats 4000000 in
theorem bs_quiet (x : Ctx) (k : Nat) (ins : Bool) (e : Nat) (hx : x.ext ≤ 131070) (h15 : x.ext.testBit 15 = false) (he : e + 1 < x.D.length) (h10 : x.D.getD (e + 1) 0 = 10) (w : World) (hi : x.inv k ins w) :
    Calls Tryz.prog 52 #[ptr x.M, x.val, .int .i64 e] w fun r w' => (∃ v, r = .returned (.tuple #[.int .i64 0, v])) ∧ Below w.heap.size w w' := by
  have hce := hi.ext'
  have hb := and_bit x.ext 15 hx (by omega)
  rw [h15, if_neg (by decide)] at hb
  have hb2 : bits .and .i64 (x.ext : Int) 32768 = 0 := hb
  have hc1 := hi.byte he
  rw [h10, ← Nat.add_assoc] at hc1
  have c1 : w.cell? ⟨x.g, x.off + e + 1, none⟩ = some (.int .u8 10) := hc1
  have hcap := hi.2.2.2.1
  have hcap2 := hi.2.2.2.2
  unfold Ctx.val
  obtain ⟨n, hn⟩ : ∃ n, n = x.D.length := ⟨_, rfl⟩
  rw [← hn] at he hcap ⊢
  have hx1 : x.g < w.heap.size := hi.ltg
  have C77 := Lib.hid (fun w => esc77 w)
  have C76 : Hid (∀ (W : World) (g : Nat), RdO W g 0 escL → Calls Tryz.prog 76 #[.slice (some ⟨g, 0, none⟩) escL.length escL.length, .int .u8 10] W fun e w' => e = .returned (.int .i64 (-1)) ∧ w' = W) := fun W g h => idx76 (w0 := w) h 10 escL.length
  clear hc1 hi hn h10 hx hb h15
  go_enter Tryz.func52, Tryz.ntmps52
  go_wp2
  go_region_with (first
      | (go_at_call 77; refine (C77.out _).mono ?_; rintro r w2 ⟨v2, rfl, hb3, g2, C2, fz2, rfl, hg2, hh2, hr2⟩; have HB2 := Lib.hid hb3; have HR2 := Lib.hid hr2; have c1' : w2.cell? ⟨x.g, x.off + e + 1, none⟩ = some (.int .u8 10) := (hb3.cell (p := ⟨x.g, x.off + e + 1, none⟩) hx1).trans c1; clear hb3 hr2 hh2 hg2)
      | (go_at_call 76; refine (C76.out _ _ HR2.out).mono ?_; rintro r w3 ⟨rfl, rfl⟩))
  all_goals
    go_wp2
    go_ret2
    exact ⟨⟨_, rfl⟩, (show Below w.heap.size w w.drew from (Below.refl _ w).drew).trans HB2.out⟩
end Go.Proofs.YtalajbfpilhfgaaGreatDoor
