/-
  No cell of these rows narrows 'for every input' (looked for: loops, veiled, ifaces, maps, wideKeys, modest, calm, conditions, laid).
  DERIVED. THE GIVEN ROWS OF THIS SEAT. 7 by the template 'for every input the law returns true; each argument reads behind the call as it read before'; 0 by the template 'total and deterministic' (their statements: Qxb6601507aModsTotals.lean).
  GIVEN WITH THE SEED: the statements are not yours to turn. If you find one false, say at which input.
  Laid BY PROGRAM, IN A SANDBOX (cutbox-rows.mjs): the forced cells as the released guide's own fill.sh prints them over the translation 64db094e71bd6093… (all of the seat's roots in one cut). By AI agents, Wed Nov 11 2026. No macro, syntax, notation, axiom, sorry.
-/
import Derived.Test.Qxb6601507aModsChecked
import GoSem.Claim
import GoSem.ClaimJoined
import GoSem.ClaimMapViews
import Derived.JoinedTies
import Derived.KernelRfl
namespace Go.Proofs.Qxb6601507aMods
/- THE CELL 'sum', in the pinned program and in every row, IS THE sha256 OF THE DUMP (.gsa) THAT Qxb6601507aModsProg.lean LOADS. Nothing in Lean hashes anything: it is a label: what it is worth is what the hold of that sum in a sandbox is worth. -/
noncomputable def Trym.pinned : Pinned := { name := "qxb6601507amods", sum := "64db094e71bd60931074509e12d5bfcdfdf83390e7a3cff1f2b6c4dcbe22aa3c", checked := Trym.checked }
namespace Rows
def none {H : Type} : Left H := { results := [], args := [] }

/-- 'zzlaws_root_b1.FnLeadingComponentsSpec': WHATEVER THE INPUT: true; the input reads as it did. -/
def fnLeadingComponentsSpecSpec : ChangeSpec := { name := "fnLeadingComponentsSpec", fn := fun _ => fun
  | [d1, d2] => { results := [.lit (.bool true)], args := [d1, d2] }
  | _ => none }
def fnLeadingComponentsSpecRow : OpenClaim := { program := "qxb6601507amods", sum := "64db094e71bd60931074509e12d5bfcdfdf83390e7a3cff1f2b6c4dcbe22aa3c", func := "example.com/usher/usher/zzlaws_root_b1.FnLeadingComponentsSpec", spec := "fnLeadingComponentsSpec", inPlace := ["internal/bytealg.IndexByteString", "internal/bytealg.IndexString"], named := ["internal/bytealg.MaxLen"], make := .lifted ["publicsums"], apart := false }
def FnLeadingComponentsSpecSaid : Prop := fnLeadingComponentsSpecRow.holds Trym.pinned (OpenSpec.ofChange fnLeadingComponentsSpecSpec)

/-- ITS FALSE NEIGHBOUR: 'it returns false'. Refute it at one input. -/
def fnLeadingComponentsSpecWrong : ChangeSpec := { name := "fnLeadingComponentsSpec", fn := fun _ => fun
  | [d1, d2] => { results := [.lit (.bool false)], args := [d1, d2] }
  | _ => none }
def FnLeadingComponentsSpecWrongFalsely : Prop := fnLeadingComponentsSpecRow.holds Trym.pinned (OpenSpec.ofChange fnLeadingComponentsSpecWrong)

/-- 'zzlaws_root_b1.FnLeadingComponentsCompose': WHATEVER THE INPUT: true; the input reads as it did. -/
def fnLeadingComponentsComposeSpec : ChangeSpec := { name := "fnLeadingComponentsCompose", fn := fun _ => fun
  | [d1, d2, d3] => { results := [.lit (.bool true)], args := [d1, d2, d3] }
  | _ => none }
def fnLeadingComponentsComposeRow : OpenClaim := { program := "qxb6601507amods", sum := "64db094e71bd60931074509e12d5bfcdfdf83390e7a3cff1f2b6c4dcbe22aa3c", func := "example.com/usher/usher/zzlaws_root_b1.FnLeadingComponentsCompose", spec := "fnLeadingComponentsCompose", inPlace := ["internal/bytealg.IndexByteString", "internal/bytealg.IndexString"], named := ["internal/bytealg.MaxLen"], make := .lifted ["publicsums"], apart := false }
def FnLeadingComponentsComposeSaid : Prop := fnLeadingComponentsComposeRow.holds Trym.pinned (OpenSpec.ofChange fnLeadingComponentsComposeSpec)

/-- ITS FALSE NEIGHBOUR: 'it returns false'. Refute it at one input. -/
def fnLeadingComponentsComposeWrong : ChangeSpec := { name := "fnLeadingComponentsCompose", fn := fun _ => fun
  | [d1, d2, d3] => { results := [.lit (.bool false)], args := [d1, d2, d3] }
  | _ => none }
def FnLeadingComponentsComposeWrongFalsely : Prop := fnLeadingComponentsComposeRow.holds Trym.pinned (OpenSpec.ofChange fnLeadingComponentsComposeWrong)

/-- 'zzlaws_root_b1.FnLeadingComponentsStep': WHATEVER THE INPUT: true; the input reads as it did. -/
def fnLeadingComponentsStepSpec : ChangeSpec := { name := "fnLeadingComponentsStep", fn := fun _ => fun
  | [d1, d2] => { results := [.lit (.bool true)], args := [d1, d2] }
  | _ => none }
def fnLeadingComponentsStepRow : OpenClaim := { program := "qxb6601507amods", sum := "64db094e71bd60931074509e12d5bfcdfdf83390e7a3cff1f2b6c4dcbe22aa3c", func := "example.com/usher/usher/zzlaws_root_b1.FnLeadingComponentsStep", spec := "fnLeadingComponentsStep", inPlace := ["internal/bytealg.IndexByteString", "internal/bytealg.IndexString"], named := ["internal/bytealg.MaxLen"], make := .lifted ["publicsums"], apart := false }
def FnLeadingComponentsStepSaid : Prop := fnLeadingComponentsStepRow.holds Trym.pinned (OpenSpec.ofChange fnLeadingComponentsStepSpec)

/-- ITS FALSE NEIGHBOUR: 'it returns false'. Refute it at one input. -/
def fnLeadingComponentsStepWrong : ChangeSpec := { name := "fnLeadingComponentsStep", fn := fun _ => fun
  | [d1, d2] => { results := [.lit (.bool false)], args := [d1, d2] }
  | _ => none }
def FnLeadingComponentsStepWrongFalsely : Prop := fnLeadingComponentsStepRow.holds Trym.pinned (OpenSpec.ofChange fnLeadingComponentsStepWrong)

/-- 'zzlaws_root_b1.FnSpanOfSpec': WHATEVER THE INPUT: true; the input reads as it did. -/
def fnSpanOfSpecSpec : ChangeSpec := { name := "fnSpanOfSpec", fn := fun _ => fun
  | [d1, d2, d3] => { results := [.lit (.bool true)], args := [d1, d2, d3] }
  | _ => none }
def fnSpanOfSpecRow : OpenClaim := { program := "qxb6601507amods", sum := "64db094e71bd60931074509e12d5bfcdfdf83390e7a3cff1f2b6c4dcbe22aa3c", func := "example.com/usher/usher/zzlaws_root_b1.FnSpanOfSpec", spec := "fnSpanOfSpec", make := .lifted ["publicsums"], apart := false }
def FnSpanOfSpecSaid : Prop := fnSpanOfSpecRow.holds Trym.pinned (OpenSpec.ofChange fnSpanOfSpecSpec)

/-- ITS FALSE NEIGHBOUR: 'it returns false'. Refute it at one input. -/
def fnSpanOfSpecWrong : ChangeSpec := { name := "fnSpanOfSpec", fn := fun _ => fun
  | [d1, d2, d3] => { results := [.lit (.bool false)], args := [d1, d2, d3] }
  | _ => none }
def FnSpanOfSpecWrongFalsely : Prop := fnSpanOfSpecRow.holds Trym.pinned (OpenSpec.ofChange fnSpanOfSpecWrong)

/-- 'zzlaws_root_b1.FnSpanOfSealedCover': WHATEVER THE INPUT: true; the input reads as it did. -/
def fnSpanOfSealedCoverSpec : ChangeSpec := { name := "fnSpanOfSealedCover", fn := fun _ => fun
  | [d1, d2, d3] => { results := [.lit (.bool true)], args := [d1, d2, d3] }
  | _ => none }
def fnSpanOfSealedCoverRow : OpenClaim := { program := "qxb6601507amods", sum := "64db094e71bd60931074509e12d5bfcdfdf83390e7a3cff1f2b6c4dcbe22aa3c", func := "example.com/usher/usher/zzlaws_root_b1.FnSpanOfSealedCover", spec := "fnSpanOfSealedCover", make := .lifted ["publicsums"], apart := false }
def FnSpanOfSealedCoverSaid : Prop := fnSpanOfSealedCoverRow.holds Trym.pinned (OpenSpec.ofChange fnSpanOfSealedCoverSpec)

/-- ITS FALSE NEIGHBOUR: 'it returns false'. Refute it at one input. -/
def fnSpanOfSealedCoverWrong : ChangeSpec := { name := "fnSpanOfSealedCover", fn := fun _ => fun
  | [d1, d2, d3] => { results := [.lit (.bool false)], args := [d1, d2, d3] }
  | _ => none }
def FnSpanOfSealedCoverWrongFalsely : Prop := fnSpanOfSealedCoverRow.holds Trym.pinned (OpenSpec.ofChange fnSpanOfSealedCoverWrong)

/-- 'zzlaws_root_b1.FnSpansExact': WHATEVER THE INPUT: true; the input reads as it did. -/
def fnSpansExactSpec : ChangeSpec := { name := "fnSpansExact", fn := fun _ => fun
  | [d1, d2, d3] => { results := [.lit (.bool true)], args := [d1, d2, d3] }
  | _ => none }
def fnSpansExactRow : OpenClaim := { program := "qxb6601507amods", sum := "64db094e71bd60931074509e12d5bfcdfdf83390e7a3cff1f2b6c4dcbe22aa3c", func := "example.com/usher/usher/zzlaws_root_b1.FnSpansExact", spec := "fnSpansExact", make := .lifted ["publicsums"], apart := false }
def FnSpansExactSaid : Prop := fnSpansExactRow.holds Trym.pinned (OpenSpec.ofChange fnSpansExactSpec)

/-- ITS FALSE NEIGHBOUR: 'it returns false'. Refute it at one input. -/
def fnSpansExactWrong : ChangeSpec := { name := "fnSpansExact", fn := fun _ => fun
  | [d1, d2, d3] => { results := [.lit (.bool false)], args := [d1, d2, d3] }
  | _ => none }
def FnSpansExactWrongFalsely : Prop := fnSpansExactRow.holds Trym.pinned (OpenSpec.ofChange fnSpansExactWrong)

/-- 'zzlaws_root_b1.FnSpansSplit': WHATEVER THE INPUT: true; the input reads as it did. -/
def fnSpansSplitSpec : ChangeSpec := { name := "fnSpansSplit", fn := fun _ => fun
  | [d1, d2, d3, d4] => { results := [.lit (.bool true)], args := [d1, d2, d3, d4] }
  | _ => none }
def fnSpansSplitRow : OpenClaim := { program := "qxb6601507amods", sum := "64db094e71bd60931074509e12d5bfcdfdf83390e7a3cff1f2b6c4dcbe22aa3c", func := "example.com/usher/usher/zzlaws_root_b1.FnSpansSplit", spec := "fnSpansSplit", make := .lifted ["publicsums"], apart := false }
def FnSpansSplitSaid : Prop := fnSpansSplitRow.holds Trym.pinned (OpenSpec.ofChange fnSpansSplitSpec)

/-- ITS FALSE NEIGHBOUR: 'it returns false'. Refute it at one input. -/
def fnSpansSplitWrong : ChangeSpec := { name := "fnSpansSplit", fn := fun _ => fun
  | [d1, d2, d3, d4] => { results := [.lit (.bool false)], args := [d1, d2, d3, d4] }
  | _ => none }
def FnSpansSplitWrongFalsely : Prop := fnSpansSplitRow.holds Trym.pinned (OpenSpec.ofChange fnSpansSplitWrong)

end Rows
end Go.Proofs.Qxb6601507aMods
