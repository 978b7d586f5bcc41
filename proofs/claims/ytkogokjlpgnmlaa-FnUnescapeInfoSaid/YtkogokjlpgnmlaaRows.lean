/-
  No cell of these rows narrows 'for every input' (looked for: loops, veiled, ifaces, maps, wideKeys, modest, calm, conditions, laid).
  DERIVED. THE GIVEN ROWS OF THIS SEAT. 4 by the template 'for every input the law returns true; each argument reads behind the call as it read before'; 0 by the template 'total and deterministic' (their statements: YtkogokjlpgnmlaaTotals.lean).
  GIVEN WITH THE SEED: the statements are not yours to turn. If you find one false, say at which input.
  Laid BY PROGRAM, IN A SANDBOX (cutbox-rows.mjs): the forced cells as the released guide's own fill.sh prints them over the translation ad5108772aa1e32c… (all of the seat's roots in one cut). By AI agents, Wed Nov 11 2026. No macro, syntax, notation, axiom, sorry.
-/
import Derived.Test.YtkogokjlpgnmlaaChecked
import GoSem.Claim
import GoSem.ClaimJoined
import GoSem.ClaimMapViews
import Derived.JoinedTies
import Derived.KernelRfl
namespace Go.Proofs.Ytkogokjlpgnmlaa
/- THE CELL 'sum', in the pinned program and in every row, IS THE sha256 OF THE DUMP (.gsa) THAT YtkogokjlpgnmlaaProg.lean LOADS. Nothing in Lean hashes anything: it is a label: what it is worth is what the hold of that sum in a sandbox is worth. -/
noncomputable def Try.pinned : Pinned := { name := "ytkogokjlpgnmlaa", sum := "ad5108772aa1e32ce1c20331ab17abe7935d2c7176442627013cf4773824240a", checked := Try.checked }
namespace Rows
def none {H : Type} : Left H := { results := [], args := [] }

/-- 'laws.FnUnescape': WHATEVER THE INPUT: true; the input reads as it did. -/
def fnUnescapeSpec : ChangeSpec := { name := "fnUnescape", fn := fun _ => fun
  | [d] => { results := [.lit (.bool true)], args := [d] }
  | _ => none }
def fnUnescapeRow : OpenClaim := { program := "ytkogokjlpgnmlaa", sum := "ad5108772aa1e32ce1c20331ab17abe7935d2c7176442627013cf4773824240a", func := "pub-pamphlet/laws.FnUnescape", spec := "fnUnescape", recurses := true, apart := false }
def FnUnescapeSaid : Prop := fnUnescapeRow.holds Try.pinned (OpenSpec.ofChange fnUnescapeSpec)

/-- ITS FALSE NEIGHBOUR: 'it returns false'. Refute it at one input. -/
def fnUnescapeWrong : ChangeSpec := { name := "fnUnescape", fn := fun _ => fun
  | [d] => { results := [.lit (.bool false)], args := [d] }
  | _ => none }
def FnUnescapeWrongFalsely : Prop := fnUnescapeRow.holds Try.pinned (OpenSpec.ofChange fnUnescapeWrong)

/-- 'laws.FnUnescapeBack': WHATEVER THE INPUT: true; the input reads as it did. -/
def fnUnescapeBackSpec : ChangeSpec := { name := "fnUnescapeBack", fn := fun _ => fun
  | [d] => { results := [.lit (.bool true)], args := [d] }
  | _ => none }
def fnUnescapeBackRow : OpenClaim := { program := "ytkogokjlpgnmlaa", sum := "ad5108772aa1e32ce1c20331ab17abe7935d2c7176442627013cf4773824240a", func := "pub-pamphlet/laws.FnUnescapeBack", spec := "fnUnescapeBack", unfollowed := true, recurses := true, apart := false }
def FnUnescapeBackSaid : Prop := fnUnescapeBackRow.holds Try.pinned (OpenSpec.ofChange fnUnescapeBackSpec)

/-- ITS FALSE NEIGHBOUR: 'it returns false'. Refute it at one input. -/
def fnUnescapeBackWrong : ChangeSpec := { name := "fnUnescapeBack", fn := fun _ => fun
  | [d] => { results := [.lit (.bool false)], args := [d] }
  | _ => none }
def FnUnescapeBackWrongFalsely : Prop := fnUnescapeBackRow.holds Try.pinned (OpenSpec.ofChange fnUnescapeBackWrong)

/-- 'laws.FnEscapeLinks': WHATEVER THE INPUT: true; the input reads as it did. -/
def fnEscapeLinksSpec : ChangeSpec := { name := "fnEscapeLinks", fn := fun _ => fun
  | [d] => { results := [.lit (.bool true)], args := [d] }
  | _ => none }
def fnEscapeLinksRow : OpenClaim := { program := "ytkogokjlpgnmlaa", sum := "ad5108772aa1e32ce1c20331ab17abe7935d2c7176442627013cf4773824240a", func := "pub-pamphlet/laws.FnEscapeLinks", spec := "fnEscapeLinks", unfollowed := true, recurses := true, apart := false }
def FnEscapeLinksSaid : Prop := fnEscapeLinksRow.holds Try.pinned (OpenSpec.ofChange fnEscapeLinksSpec)

/-- ITS FALSE NEIGHBOUR: 'it returns false'. Refute it at one input. -/
def fnEscapeLinksWrong : ChangeSpec := { name := "fnEscapeLinks", fn := fun _ => fun
  | [d] => { results := [.lit (.bool false)], args := [d] }
  | _ => none }
def FnEscapeLinksWrongFalsely : Prop := fnEscapeLinksRow.holds Try.pinned (OpenSpec.ofChange fnEscapeLinksWrong)

/-- 'laws.FnUnescapeInfo': WHATEVER THE INPUT: true; the input reads as it did. -/
def fnUnescapeInfoSpec : ChangeSpec := { name := "fnUnescapeInfo", fn := fun _ => fun
  | [d] => { results := [.lit (.bool true)], args := [d] }
  | _ => none }
def fnUnescapeInfoRow : OpenClaim := { program := "ytkogokjlpgnmlaa", sum := "ad5108772aa1e32ce1c20331ab17abe7935d2c7176442627013cf4773824240a", func := "pub-pamphlet/laws.FnUnescapeInfo", spec := "fnUnescapeInfo", unfollowed := true, recurses := true, apart := false }
def FnUnescapeInfoSaid : Prop := fnUnescapeInfoRow.holds Try.pinned (OpenSpec.ofChange fnUnescapeInfoSpec)

/-- ITS FALSE NEIGHBOUR: 'it returns false'. Refute it at one input. -/
def fnUnescapeInfoWrong : ChangeSpec := { name := "fnUnescapeInfo", fn := fun _ => fun
  | [d] => { results := [.lit (.bool false)], args := [d] }
  | _ => none }
def FnUnescapeInfoWrongFalsely : Prop := fnUnescapeInfoRow.holds Try.pinned (OpenSpec.ofChange fnUnescapeInfoWrong)

/- THE SECOND FORM. 'bulk': how many values and letters a reading holds, each counted each time it is reached (what is shared counts as often as it is met; a slice's spare places count too). A statement '..UptoSaid' is the law's where the arguments, and the package variables that the reading takes, are together of bulk at most 1048576: NARROWER than '..Said'. Prove '..Said' where nothing that the law and all that it calls make is longer than what came in: it says more and counts as full. Else prove '..UptoSaid'. A law counts once. -/
mutual
def uptoBulk {H : Type} : DataW H → Nat
  | .lit (.string bytes) => bytes.length + 1
  | .lit _ => 1
  | .nil => 1
  | .ptr d => uptoBulk d + 1
  | .slice elems spare => uptoBulkAll elems + uptoBulkAll spare + 1
  | .agg parts => uptoBulkAll parts + 1
  | .iface _ d => uptoBulk d + 1
  | .map entries => uptoBulkEntries entries + 1
  | .held _ => 1
def uptoBulkAll {H : Type} : List (DataW H) → Nat
  | [] => 0
  | d :: r => uptoBulk d + uptoBulkAll r
def uptoBulkEntries {H : Type} : List (Lit × DataW H) → Nat
  | [] => 0
  | x :: r => uptoBulkEntry x + uptoBulkEntries r
def uptoBulkEntry {H : Type} : Lit × DataW H → Nat
  | (.string bytes, d) => bytes.length + uptoBulk d + 1
  | (_, d) => uptoBulk d + 1
 end
def uptoSmall : (H : Type) → List (DataW H) → Bool := fun _ ds => decide (uptoBulkAll ds ≤ 1048576)
def OpenSpec.upto (s : _root_.Go.ChangeSpec) : _root_.Go.OpenSpec := { _root_.Go.OpenSpec.ofChange s with cond := some uptoSmall }

/-- 'laws.FnUnescape', WHERE WHAT IT READS IS OF BULK AT MOST 1048576: true; the input reads as it did. -/
def fnUnescapeUptoRow : OpenClaim := { program := "ytkogokjlpgnmlaa", sum := "ad5108772aa1e32ce1c20331ab17abe7935d2c7176442627013cf4773824240a", func := "pub-pamphlet/laws.FnUnescape", spec := "fnUnescape", recurses := true, apart := false, narrowed := true }
def FnUnescapeUptoSaid : Prop := fnUnescapeUptoRow.holds Try.pinned (OpenSpec.upto fnUnescapeSpec)

/-- 'laws.FnUnescapeBack', WHERE WHAT IT READS IS OF BULK AT MOST 1048576: true; the input reads as it did. -/
def fnUnescapeBackUptoRow : OpenClaim := { program := "ytkogokjlpgnmlaa", sum := "ad5108772aa1e32ce1c20331ab17abe7935d2c7176442627013cf4773824240a", func := "pub-pamphlet/laws.FnUnescapeBack", spec := "fnUnescapeBack", unfollowed := true, recurses := true, apart := false, narrowed := true }
def FnUnescapeBackUptoSaid : Prop := fnUnescapeBackUptoRow.holds Try.pinned (OpenSpec.upto fnUnescapeBackSpec)

/-- 'laws.FnEscapeLinks', WHERE WHAT IT READS IS OF BULK AT MOST 1048576: true; the input reads as it did. -/
def fnEscapeLinksUptoRow : OpenClaim := { program := "ytkogokjlpgnmlaa", sum := "ad5108772aa1e32ce1c20331ab17abe7935d2c7176442627013cf4773824240a", func := "pub-pamphlet/laws.FnEscapeLinks", spec := "fnEscapeLinks", unfollowed := true, recurses := true, apart := false, narrowed := true }
def FnEscapeLinksUptoSaid : Prop := fnEscapeLinksUptoRow.holds Try.pinned (OpenSpec.upto fnEscapeLinksSpec)

/-- 'laws.FnUnescapeInfo', WHERE WHAT IT READS IS OF BULK AT MOST 1048576: true; the input reads as it did. -/
def fnUnescapeInfoUptoRow : OpenClaim := { program := "ytkogokjlpgnmlaa", sum := "ad5108772aa1e32ce1c20331ab17abe7935d2c7176442627013cf4773824240a", func := "pub-pamphlet/laws.FnUnescapeInfo", spec := "fnUnescapeInfo", unfollowed := true, recurses := true, apart := false, narrowed := true }
def FnUnescapeInfoUptoSaid : Prop := fnUnescapeInfoUptoRow.holds Try.pinned (OpenSpec.upto fnUnescapeInfoSpec)

end Rows
end Go.Proofs.Ytkogokjlpgnmlaa
