/-
  No cell of these rows narrows 'for every input' (looked for: loops, veiled, ifaces, maps, wideKeys, modest, calm, conditions, laid).
  DERIVED. THE GIVEN ROWS OF THIS SEAT. 4 by the template 'for every input the law returns true; each argument reads behind the call as it read before'; 0 by the template 'total and deterministic' (their statements: Qxb6605357aTotals.lean).
  GIVEN WITH THE SEED: the statements are not yours to turn. If you find one false, say at which input.
  Laid BY PROGRAM, IN A SANDBOX (cutbox-rows.mjs): the forced cells as the released guide's own fill.sh prints them over the translation 95bbd0e2633acb06… (all of the seat's roots in one cut). By AI agents, Wed Nov 11 2026. No macro, syntax, notation, axiom, sorry.
-/
import Derived.Test.Qxb6605357aChecked
import GoSem.Claim
import GoSem.ClaimJoined
import GoSem.ClaimMapViews
import Derived.JoinedTies
import Derived.KernelRfl
namespace Go.Proofs.Qxb6605357a
/- THE CELL 'sum', in the pinned program and in every row, IS THE sha256 OF THE DUMP (.gsa) THAT Qxb6605357aProg.lean LOADS. Nothing in Lean hashes anything: it is a label: what it is worth is what the hold of that sum in a sandbox is worth. -/
noncomputable def Try.pinned : Pinned := { name := "qxb6605357a", sum := "95bbd0e2633acb06566522522e506b32400bb8ad386b34da72753f0e8a160979", checked := Try.checked }
namespace Rows
def none {H : Type} : Left H := { results := [], args := [] }

/-- 'zzlaws_catalog_b1.FnRootsOfWhole': WHATEVER THE INPUT: true; the input reads as it did. -/
def fnRootsOfWholeSpec : ChangeSpec := { name := "fnRootsOfWhole", fn := fun _ => fun
  | [d] => { results := [.lit (.bool true)], args := [d] }
  | _ => none }
def fnRootsOfWholeRow : OpenClaim := { program := "qxb6605357a", sum := "95bbd0e2633acb06566522522e506b32400bb8ad386b34da72753f0e8a160979", func := "example.com/hyphae/hyphae/zzlaws_catalog_b1.FnRootsOfWhole", spec := "fnRootsOfWhole", inPlace := ["internal/bytealg.IndexByteString", "internal/bytealg.IndexString"], named := ["internal/bytealg.MaxLen"], apart := false }
def FnRootsOfWholeSaid : Prop := fnRootsOfWholeRow.holds Try.pinned (OpenSpec.ofChange fnRootsOfWholeSpec)

/-- ITS FALSE NEIGHBOUR: 'it returns false'. Refute it at one input. -/
def fnRootsOfWholeWrong : ChangeSpec := { name := "fnRootsOfWhole", fn := fun _ => fun
  | [d] => { results := [.lit (.bool false)], args := [d] }
  | _ => none }
def FnRootsOfWholeWrongFalsely : Prop := fnRootsOfWholeRow.holds Try.pinned (OpenSpec.ofChange fnRootsOfWholeWrong)

/-- 'zzlaws_catalog_b1.FnRootsOfAddsOneFolder': WHATEVER THE INPUT: true; the input reads as it did. -/
def fnRootsOfAddsOneFolderSpec : ChangeSpec := { name := "fnRootsOfAddsOneFolder", fn := fun _ => fun
  | [d1, d2] => { results := [.lit (.bool true)], args := [d1, d2] }
  | _ => none }
def fnRootsOfAddsOneFolderRow : OpenClaim := { program := "qxb6605357a", sum := "95bbd0e2633acb06566522522e506b32400bb8ad386b34da72753f0e8a160979", func := "example.com/hyphae/hyphae/zzlaws_catalog_b1.FnRootsOfAddsOneFolder", spec := "fnRootsOfAddsOneFolder", inPlace := ["internal/bytealg.IndexByteString", "internal/bytealg.IndexString"], named := ["internal/bytealg.MaxLen"], apart := false }
def FnRootsOfAddsOneFolderSaid : Prop := fnRootsOfAddsOneFolderRow.holds Try.pinned (OpenSpec.ofChange fnRootsOfAddsOneFolderSpec)

/-- ITS FALSE NEIGHBOUR: 'it returns false'. Refute it at one input. -/
def fnRootsOfAddsOneFolderWrong : ChangeSpec := { name := "fnRootsOfAddsOneFolder", fn := fun _ => fun
  | [d1, d2] => { results := [.lit (.bool false)], args := [d1, d2] }
  | _ => none }
def FnRootsOfAddsOneFolderWrongFalsely : Prop := fnRootsOfAddsOneFolderRow.holds Try.pinned (OpenSpec.ofChange fnRootsOfAddsOneFolderWrong)

/-- 'zzlaws_catalog_b1.FnDictionaryExact': WHATEVER THE INPUT: true; the input reads as it did. -/
def fnDictionaryExactSpec : ChangeSpec := { name := "fnDictionaryExact", fn := fun _ => fun
  | [d] => { results := [.lit (.bool true)], args := [d] }
  | _ => none }
def fnDictionaryExactRow : OpenClaim := { program := "qxb6605357a", sum := "95bbd0e2633acb06566522522e506b32400bb8ad386b34da72753f0e8a160979", func := "example.com/hyphae/hyphae/zzlaws_catalog_b1.FnDictionaryExact", spec := "fnDictionaryExact", apart := false }
def FnDictionaryExactSaid : Prop := fnDictionaryExactRow.holds Try.pinned (OpenSpec.ofChange fnDictionaryExactSpec)

/-- ITS FALSE NEIGHBOUR: 'it returns false'. Refute it at one input. -/
def fnDictionaryExactWrong : ChangeSpec := { name := "fnDictionaryExact", fn := fun _ => fun
  | [d] => { results := [.lit (.bool false)], args := [d] }
  | _ => none }
def FnDictionaryExactWrongFalsely : Prop := fnDictionaryExactRow.holds Try.pinned (OpenSpec.ofChange fnDictionaryExactWrong)

/-- 'zzlaws_catalog_b1.FnDictionaryGrowsStepByStep': WHATEVER THE INPUT: true; the input reads as it did. -/
def fnDictionaryGrowsStepByStepSpec : ChangeSpec := { name := "fnDictionaryGrowsStepByStep", fn := fun _ => fun
  | [d] => { results := [.lit (.bool true)], args := [d] }
  | _ => none }
def fnDictionaryGrowsStepByStepRow : OpenClaim := { program := "qxb6605357a", sum := "95bbd0e2633acb06566522522e506b32400bb8ad386b34da72753f0e8a160979", func := "example.com/hyphae/hyphae/zzlaws_catalog_b1.FnDictionaryGrowsStepByStep", spec := "fnDictionaryGrowsStepByStep", apart := false }
def FnDictionaryGrowsStepByStepSaid : Prop := fnDictionaryGrowsStepByStepRow.holds Try.pinned (OpenSpec.ofChange fnDictionaryGrowsStepByStepSpec)

/-- ITS FALSE NEIGHBOUR: 'it returns false'. Refute it at one input. -/
def fnDictionaryGrowsStepByStepWrong : ChangeSpec := { name := "fnDictionaryGrowsStepByStep", fn := fun _ => fun
  | [d] => { results := [.lit (.bool false)], args := [d] }
  | _ => none }
def FnDictionaryGrowsStepByStepWrongFalsely : Prop := fnDictionaryGrowsStepByStepRow.holds Try.pinned (OpenSpec.ofChange fnDictionaryGrowsStepByStepWrong)

end Rows
end Go.Proofs.Qxb6605357a
