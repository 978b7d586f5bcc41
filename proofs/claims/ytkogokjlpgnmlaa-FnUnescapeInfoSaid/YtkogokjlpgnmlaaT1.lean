/- The table of entities as a constant: how it reads, entry by entry. -/
import Derived.Test.YtkogokjlpgnmlaaProg
import Derived.WalkKit
import Derived.WalkSpells
import Derived.WalkLawsBesides
import Derived.Lib.Hide
import Derived.KernelRfl
namespace Go.Proofs.Ytkogokjlpgnmlaa
open Go.RowKit

/-- The text that the function's first long constant holds. -/
def litOf : Code → Option ByteArray
  | .region _ ops _ => ops.toList.findSome? fun o => match o.op with
    | .index _ (.const (.string s)) _ => some s
    | _ => none
  | .seq a b => (litOf a).or (litOf b)
  | .block _ a => litOf a
  | .loop a => litOf a
  | .cond _ a b => (litOf a).or (litOf b)
  | _ => none
noncomputable def zzEnt : ByteArray := ((Try.f55.body.bind litOf).getD ⟨#[]⟩)

abbrev Bs := List UInt8

/-- The entries of a text: name, value. -/
def parseT : Bs → Bs → Bs → Bool → List (Bs × Bs)
  | [], _, _, _ => []
  | c :: r, n, v, false => bif c.toNat.beq 61 then parseT r n [] true else parseT r (n ++ [c]) v false
  | c :: r, n, v, true => bif c.toNat.beq 10 then (n, v) :: parseT r [] [] false else parseT r n (v ++ [c]) true
def flatT : List (Bs × Bs) → Bs
  | [] => []
  | (n, v) :: r => n ++ 61 :: (v ++ 10 :: flatT r)
noncomputable def tabT : List (Bs × Bs) := parseT zzEnt.data.toList [] [] false
def sameB : Bs → Bs → Bool
  | [], [] => true
  | a :: r, b :: s => a.toNat.beq b.toNat && sameB r s
  | _, _ => false
theorem sameB_eq : ∀ a b, sameB a b = true → a = b
  | [], [], _ => rfl
  | a :: r, b :: s, h => by
    simp only [sameB, Bool.and_eq_true] at h
    rw [UInt8.toNat_inj.mp (Nat.eq_of_beq_eq_true h.1), sameB_eq r s h.2]
  | [], _ :: _, h => by simp [sameB] at h
  | _ :: _, [], h => by simp [sameB] at h
def noB (x : Nat) : Bs → Bool
  | [] => true
  | c :: r => !(c.toNat.beq x) && noB x r
def okT : List (Bs × Bs) → Bool
  | [] => true
  | (n, v) :: r => noB 61 n && noB 10 v && okT r

set_option maxRecDepth 1000000 in
theorem zzEnt_size : zzEnt.size = 29709 := by kernel_rfl
set_option maxRecDepth 1000000 in
theorem flat_same : sameB (flatT tabT) zzEnt.data.toList = true := by kernel_rfl
set_option maxRecDepth 1000000 in
theorem tab_ok : okT tabT = true := by kernel_rfl
theorem flat_eq : zzEnt.data.toList = flatT tabT := (sameB_eq _ _ flat_same).symm
end Go.Proofs.Ytkogokjlpgnmlaa
