/-
  No cell of these rows narrows 'for every input' (looked for: loops, veiled, ifaces, maps, wideKeys, modest, calm, conditions, laid).
  DERIVED. THE GIVEN ROWS OF THIS SEAT. 5 by the template 'for every input the law returns true; each argument reads behind the call as it read before'; 0 by the template 'total and deterministic' (their statements: Qxb6601911aModsTotals.lean).
  GIVEN WITH THE SEED: the statements are not yours to turn. If you find one false, say at which input.
  Laid BY PROGRAM, IN A SANDBOX (cutbox-rows.mjs): the forced cells as the released guide's own fill.sh prints them over the translation 8f5190778529fafd… (all of the seat's roots in one cut). By AI agents, Wed Nov 11 2026. No macro, syntax, notation, axiom, sorry.
-/
import Derived.Test.Qxb6601911aModsChecked
import GoSem.Claim
import GoSem.ClaimJoined
import GoSem.ClaimMapViews
import Derived.JoinedTies
import Derived.KernelRfl
namespace Go.Proofs.Qxb6601911aMods
/- THE CELL 'sum', in the pinned program and in every row, IS THE sha256 OF THE DUMP (.gsa) THAT Qxb6601911aModsProg.lean LOADS. Nothing in Lean hashes anything: it is a label: what it is worth is what the hold of that sum in a sandbox is worth. -/
noncomputable def Trym.pinned : Pinned := { name := "qxb6601911amods", sum := "8f5190778529fafd9e5782fcb88d81831fbdf04835e8a52ff0c63885ac80ee9e", checked := Trym.checked }
namespace Rows
def none {H : Type} : Left H := { results := [], args := [] }

/-- 'zzlaws_root_b1.FnAppendRawLiteralsDecodesPerRFC': WHATEVER THE INPUT: true; the input reads as it did. -/
def fnAppendRawLiteralsDecodesPerRFCSpec : ChangeSpec := { name := "fnAppendRawLiteralsDecodesPerRFC", fn := fun _ => fun
  | [d1, d2] => { results := [.lit (.bool true)], args := [d1, d2] }
  | _ => none }
def fnAppendRawLiteralsDecodesPerRFCRow : OpenClaim := { program := "qxb6601911amods", sum := "8f5190778529fafd9e5782fcb88d81831fbdf04835e8a52ff0c63885ac80ee9e", func := "example.com/cairnstore/cairnstore/zzlaws_root_b1.FnAppendRawLiteralsDecodesPerRFC", spec := "fnAppendRawLiteralsDecodesPerRFC", make := .lifted ["publicsums"], apart := false }
def FnAppendRawLiteralsDecodesPerRFCSaid : Prop := fnAppendRawLiteralsDecodesPerRFCRow.holds Trym.pinned (OpenSpec.ofChange fnAppendRawLiteralsDecodesPerRFCSpec)

/-- ITS FALSE NEIGHBOUR: 'it returns false'. Refute it at one input. -/
def fnAppendRawLiteralsDecodesPerRFCWrong : ChangeSpec := { name := "fnAppendRawLiteralsDecodesPerRFC", fn := fun _ => fun
  | [d1, d2] => { results := [.lit (.bool false)], args := [d1, d2] }
  | _ => none }
def FnAppendRawLiteralsDecodesPerRFCWrongFalsely : Prop := fnAppendRawLiteralsDecodesPerRFCRow.holds Trym.pinned (OpenSpec.ofChange fnAppendRawLiteralsDecodesPerRFCWrong)

/-- 'zzlaws_root_b1.FnNormalizeMatchesLevelModel': WHATEVER THE INPUT: true; the input reads as it did. -/
def fnNormalizeMatchesLevelModelSpec : ChangeSpec := { name := "fnNormalizeMatchesLevelModel", fn := fun _ => fun
  | [d1, d2, d3, d4] => { results := [.lit (.bool true)], args := [d1, d2, d3, d4] }
  | _ => none }
def fnNormalizeMatchesLevelModelRow : OpenClaim := { program := "qxb6601911amods", sum := "8f5190778529fafd9e5782fcb88d81831fbdf04835e8a52ff0c63885ac80ee9e", func := "example.com/cairnstore/cairnstore/zzlaws_root_b1.FnNormalizeMatchesLevelModel", spec := "fnNormalizeMatchesLevelModel", make := .lifted ["publicsums"], apart := false }
def FnNormalizeMatchesLevelModelSaid : Prop := fnNormalizeMatchesLevelModelRow.holds Trym.pinned (OpenSpec.ofChange fnNormalizeMatchesLevelModelSpec)

/-- ITS FALSE NEIGHBOUR: 'it returns false'. Refute it at one input. -/
def fnNormalizeMatchesLevelModelWrong : ChangeSpec := { name := "fnNormalizeMatchesLevelModel", fn := fun _ => fun
  | [d1, d2, d3, d4] => { results := [.lit (.bool false)], args := [d1, d2, d3, d4] }
  | _ => none }
def FnNormalizeMatchesLevelModelWrongFalsely : Prop := fnNormalizeMatchesLevelModelRow.holds Trym.pinned (OpenSpec.ofChange fnNormalizeMatchesLevelModelWrong)

/-- 'zzlaws_root_b1.FnNormalizeSharesSumToTableSize': WHATEVER THE INPUT: true; the input reads as it did. -/
def fnNormalizeSharesSumToTableSizeSpec : ChangeSpec := { name := "fnNormalizeSharesSumToTableSize", fn := fun _ => fun
  | [d1, d2, d3, d4] => { results := [.lit (.bool true)], args := [d1, d2, d3, d4] }
  | _ => none }
def fnNormalizeSharesSumToTableSizeRow : OpenClaim := { program := "qxb6601911amods", sum := "8f5190778529fafd9e5782fcb88d81831fbdf04835e8a52ff0c63885ac80ee9e", func := "example.com/cairnstore/cairnstore/zzlaws_root_b1.FnNormalizeSharesSumToTableSize", spec := "fnNormalizeSharesSumToTableSize", make := .lifted ["publicsums"], apart := false }
def FnNormalizeSharesSumToTableSizeSaid : Prop := fnNormalizeSharesSumToTableSizeRow.holds Trym.pinned (OpenSpec.ofChange fnNormalizeSharesSumToTableSizeSpec)

/-- ITS FALSE NEIGHBOUR: 'it returns false'. Refute it at one input. -/
def fnNormalizeSharesSumToTableSizeWrong : ChangeSpec := { name := "fnNormalizeSharesSumToTableSize", fn := fun _ => fun
  | [d1, d2, d3, d4] => { results := [.lit (.bool false)], args := [d1, d2, d3, d4] }
  | _ => none }
def FnNormalizeSharesSumToTableSizeWrongFalsely : Prop := fnNormalizeSharesSumToTableSizeRow.holds Trym.pinned (OpenSpec.ofChange fnNormalizeSharesSumToTableSizeWrong)

/-- 'zzlaws_root_b1.FnNormalizeDependsOnProportionsOnly': WHATEVER THE INPUT: true; the input reads as it did. -/
def fnNormalizeDependsOnProportionsOnlySpec : ChangeSpec := { name := "fnNormalizeDependsOnProportionsOnly", fn := fun _ => fun
  | [d1, d2, d3, d4] => { results := [.lit (.bool true)], args := [d1, d2, d3, d4] }
  | _ => none }
def fnNormalizeDependsOnProportionsOnlyRow : OpenClaim := { program := "qxb6601911amods", sum := "8f5190778529fafd9e5782fcb88d81831fbdf04835e8a52ff0c63885ac80ee9e", func := "example.com/cairnstore/cairnstore/zzlaws_root_b1.FnNormalizeDependsOnProportionsOnly", spec := "fnNormalizeDependsOnProportionsOnly", make := .lifted ["publicsums"], apart := false }
def FnNormalizeDependsOnProportionsOnlySaid : Prop := fnNormalizeDependsOnProportionsOnlyRow.holds Trym.pinned (OpenSpec.ofChange fnNormalizeDependsOnProportionsOnlySpec)

/-- ITS FALSE NEIGHBOUR: 'it returns false'. Refute it at one input. -/
def fnNormalizeDependsOnProportionsOnlyWrong : ChangeSpec := { name := "fnNormalizeDependsOnProportionsOnly", fn := fun _ => fun
  | [d1, d2, d3, d4] => { results := [.lit (.bool false)], args := [d1, d2, d3, d4] }
  | _ => none }
def FnNormalizeDependsOnProportionsOnlyWrongFalsely : Prop := fnNormalizeDependsOnProportionsOnlyRow.holds Trym.pinned (OpenSpec.ofChange fnNormalizeDependsOnProportionsOnlyWrong)

/-- 'zzlaws_root_b1.FnAppendTableDescriptionDecodesPerRFC': WHATEVER THE INPUT: true; the input reads as it did. -/
def fnAppendTableDescriptionDecodesPerRFCSpec : ChangeSpec := { name := "fnAppendTableDescriptionDecodesPerRFC", fn := fun _ => fun
  | [d1, d2, d3] => { results := [.lit (.bool true)], args := [d1, d2, d3] }
  | _ => none }
def fnAppendTableDescriptionDecodesPerRFCRow : OpenClaim := { program := "qxb6601911amods", sum := "8f5190778529fafd9e5782fcb88d81831fbdf04835e8a52ff0c63885ac80ee9e", func := "example.com/cairnstore/cairnstore/zzlaws_root_b1.FnAppendTableDescriptionDecodesPerRFC", spec := "fnAppendTableDescriptionDecodesPerRFC", unfollowed := true, recurses := true, make := .lifted ["publicsums"], apart := false }
def FnAppendTableDescriptionDecodesPerRFCSaid : Prop := fnAppendTableDescriptionDecodesPerRFCRow.holds Trym.pinned (OpenSpec.ofChange fnAppendTableDescriptionDecodesPerRFCSpec)

/-- ITS FALSE NEIGHBOUR: 'it returns false'. Refute it at one input. -/
def fnAppendTableDescriptionDecodesPerRFCWrong : ChangeSpec := { name := "fnAppendTableDescriptionDecodesPerRFC", fn := fun _ => fun
  | [d1, d2, d3] => { results := [.lit (.bool false)], args := [d1, d2, d3] }
  | _ => none }
def FnAppendTableDescriptionDecodesPerRFCWrongFalsely : Prop := fnAppendTableDescriptionDecodesPerRFCRow.holds Trym.pinned (OpenSpec.ofChange fnAppendTableDescriptionDecodesPerRFCWrong)

end Rows
end Go.Proofs.Qxb6601911aMods
