/-
  No cell of these rows narrows 'for every input' (looked for: loops, veiled, ifaces, maps, wideKeys, modest, calm, conditions, laid).
  DERIVED. THE GIVEN ROWS OF THIS SEAT. 3 by the template 'for every input the law returns true; each argument reads behind the call as it read before'; 0 by the template 'total and deterministic' (their statements: Qxb6600369aTotals.lean).
  GIVEN WITH THE SEED: the statements are not yours to turn. If you find one false, say at which input.
  Laid BY PROGRAM, IN A SANDBOX (cutbox-rows.mjs): the forced cells as the released guide's own fill.sh prints them over the translation a546e1a67ad07ee8… (all of the seat's roots in one cut). By AI agents, Wed Nov 11 2026. No macro, syntax, notation, axiom, sorry.
-/
import Derived.Test.Qxb6600369aChecked
import GoSem.Claim
import GoSem.ClaimJoined
import GoSem.ClaimMapViews
import Derived.JoinedTies
import Derived.KernelRfl
namespace Go.Proofs.Qxb6600369a
/- THE CELL 'sum', in the pinned program and in every row, IS THE sha256 OF THE DUMP (.gsa) THAT Qxb6600369aProg.lean LOADS. Nothing in Lean hashes anything: it is a label: what it is worth is what the hold of that sum in a sandbox is worth. -/
noncomputable def Try.pinned : Pinned := { name := "qxb6600369a", sum := "a546e1a67ad07ee8a9b7ca915190d32601e95678ecfed7340b738d05a3082cff", checked := Try.checked }
namespace Rows
def none {H : Type} : Left H := { results := [], args := [] }

/-- 'zzlaws_internal_ofd_b1.FnIsAlphanumericAlphabetModel': WHATEVER THE INPUT: true; the input reads as it did. -/
def fnIsAlphanumericAlphabetModelSpec : ChangeSpec := { name := "fnIsAlphanumericAlphabetModel", fn := fun _ => fun
  | [d] => { results := [.lit (.bool true)], args := [d] }
  | _ => none }
def fnIsAlphanumericAlphabetModelRow : OpenClaim := { program := "qxb6600369a", sum := "a546e1a67ad07ee8a9b7ca915190d32601e95678ecfed7340b738d05a3082cff", func := "example.com/zhaomu/zhaomu/zzlaws_internal_ofd_b1.FnIsAlphanumericAlphabetModel", spec := "fnIsAlphanumericAlphabetModel", apart := false }
def FnIsAlphanumericAlphabetModelSaid : Prop := fnIsAlphanumericAlphabetModelRow.holds Try.pinned (OpenSpec.ofChange fnIsAlphanumericAlphabetModelSpec)

/-- ITS FALSE NEIGHBOUR: 'it returns false'. Refute it at one input. -/
def fnIsAlphanumericAlphabetModelWrong : ChangeSpec := { name := "fnIsAlphanumericAlphabetModel", fn := fun _ => fun
  | [d] => { results := [.lit (.bool false)], args := [d] }
  | _ => none }
def FnIsAlphanumericAlphabetModelWrongFalsely : Prop := fnIsAlphanumericAlphabetModelRow.holds Try.pinned (OpenSpec.ofChange fnIsAlphanumericAlphabetModelWrong)

/-- 'zzlaws_internal_ofd_b1.FnIsAlphanumericOfConcat': WHATEVER THE INPUT: true; the input reads as it did. -/
def fnIsAlphanumericOfConcatSpec : ChangeSpec := { name := "fnIsAlphanumericOfConcat", fn := fun _ => fun
  | [d1, d2] => { results := [.lit (.bool true)], args := [d1, d2] }
  | _ => none }
def fnIsAlphanumericOfConcatRow : OpenClaim := { program := "qxb6600369a", sum := "a546e1a67ad07ee8a9b7ca915190d32601e95678ecfed7340b738d05a3082cff", func := "example.com/zhaomu/zhaomu/zzlaws_internal_ofd_b1.FnIsAlphanumericOfConcat", spec := "fnIsAlphanumericOfConcat", apart := false }
def FnIsAlphanumericOfConcatSaid : Prop := fnIsAlphanumericOfConcatRow.holds Try.pinned (OpenSpec.ofChange fnIsAlphanumericOfConcatSpec)

/-- ITS FALSE NEIGHBOUR: 'it returns false'. Refute it at one input. -/
def fnIsAlphanumericOfConcatWrong : ChangeSpec := { name := "fnIsAlphanumericOfConcat", fn := fun _ => fun
  | [d1, d2] => { results := [.lit (.bool false)], args := [d1, d2] }
  | _ => none }
def FnIsAlphanumericOfConcatWrongFalsely : Prop := fnIsAlphanumericOfConcatRow.holds Try.pinned (OpenSpec.ofChange fnIsAlphanumericOfConcatWrong)

/-- 'zzlaws_internal_ofd_b1.FnIsDigitsAgreesWithIsAlphanumeric': WHATEVER THE INPUT: true; the input reads as it did. -/
def fnIsDigitsAgreesWithIsAlphanumericSpec : ChangeSpec := { name := "fnIsDigitsAgreesWithIsAlphanumeric", fn := fun _ => fun
  | [d] => { results := [.lit (.bool true)], args := [d] }
  | _ => none }
def fnIsDigitsAgreesWithIsAlphanumericRow : OpenClaim := { program := "qxb6600369a", sum := "a546e1a67ad07ee8a9b7ca915190d32601e95678ecfed7340b738d05a3082cff", func := "example.com/zhaomu/zhaomu/zzlaws_internal_ofd_b1.FnIsDigitsAgreesWithIsAlphanumeric", spec := "fnIsDigitsAgreesWithIsAlphanumeric", apart := false }
def FnIsDigitsAgreesWithIsAlphanumericSaid : Prop := fnIsDigitsAgreesWithIsAlphanumericRow.holds Try.pinned (OpenSpec.ofChange fnIsDigitsAgreesWithIsAlphanumericSpec)

/-- ITS FALSE NEIGHBOUR: 'it returns false'. Refute it at one input. -/
def fnIsDigitsAgreesWithIsAlphanumericWrong : ChangeSpec := { name := "fnIsDigitsAgreesWithIsAlphanumeric", fn := fun _ => fun
  | [d] => { results := [.lit (.bool false)], args := [d] }
  | _ => none }
def FnIsDigitsAgreesWithIsAlphanumericWrongFalsely : Prop := fnIsDigitsAgreesWithIsAlphanumericRow.holds Try.pinned (OpenSpec.ofChange fnIsDigitsAgreesWithIsAlphanumericWrong)

end Rows
end Go.Proofs.Qxb6600369a
