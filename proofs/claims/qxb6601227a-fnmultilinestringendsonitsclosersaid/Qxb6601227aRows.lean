/-
  No cell of these rows narrows 'for every input' (looked for: loops, veiled, ifaces, maps, wideKeys, modest, calm, conditions, laid).
  DERIVED. THE GIVEN ROWS OF THIS SEAT. 4 by the template 'for every input the law returns true; each argument reads behind the call as it read before'; 0 by the template 'total and deterministic' (their statements: Qxb6601227aTotals.lean).
  GIVEN WITH THE SEED: the statements are not yours to turn. If you find one false, say at which input.
  Laid BY PROGRAM, IN A SANDBOX (cutbox-rows.mjs): the forced cells as the released guide's own fill.sh prints them over the translation 9bb0501ad02600c9… (all of the seat's roots in one cut). By AI agents, Wed Nov 11 2026. No macro, syntax, notation, axiom, sorry.
-/
import Derived.Test.Qxb6601227aChecked
import GoSem.Claim
import GoSem.ClaimJoined
import GoSem.ClaimMapViews
import Derived.JoinedTies
import Derived.KernelRfl
namespace Go.Proofs.Qxb6601227a
/- THE CELL 'sum', in the pinned program and in every row, IS THE sha256 OF THE DUMP (.gsa) THAT Qxb6601227aProg.lean LOADS. Nothing in Lean hashes anything: it is a label: what it is worth is what the hold of that sum in a sandbox is worth. -/
noncomputable def Try.pinned : Pinned := { name := "qxb6601227a", sum := "9bb0501ad02600c9ee85157633c6e8cff176a1d1d621a4369baf11abd7b3b4f3", checked := Try.checked }
namespace Rows
def none {H : Type} : Left H := { results := [], args := [] }

/-- 'zzlaws_internal_plan_b1.FnMultilineStringEndsOnItsCloser': WHATEVER THE INPUT: true; the input reads as it did. -/
def fnMultilineStringEndsOnItsCloserSpec : ChangeSpec := { name := "fnMultilineStringEndsOnItsCloser", fn := fun _ => fun
  | [d1, d2] => { results := [.lit (.bool true)], args := [d1, d2] }
  | _ => none }
def fnMultilineStringEndsOnItsCloserRow : OpenClaim := { program := "qxb6601227a", sum := "9bb0501ad02600c9ee85157633c6e8cff176a1d1d621a4369baf11abd7b3b4f3", func := "example.com/vestledger/vestledger/zzlaws_internal_plan_b1.FnMultilineStringEndsOnItsCloser", spec := "fnMultilineStringEndsOnItsCloser", apart := false }
def FnMultilineStringEndsOnItsCloserSaid : Prop := fnMultilineStringEndsOnItsCloserRow.holds Try.pinned (OpenSpec.ofChange fnMultilineStringEndsOnItsCloserSpec)

/-- ITS FALSE NEIGHBOUR: 'it returns false'. Refute it at one input. -/
def fnMultilineStringEndsOnItsCloserWrong : ChangeSpec := { name := "fnMultilineStringEndsOnItsCloser", fn := fun _ => fun
  | [d1, d2] => { results := [.lit (.bool false)], args := [d1, d2] }
  | _ => none }
def FnMultilineStringEndsOnItsCloserWrongFalsely : Prop := fnMultilineStringEndsOnItsCloserRow.holds Try.pinned (OpenSpec.ofChange fnMultilineStringEndsOnItsCloserWrong)

/-- 'zzlaws_internal_plan_b1.FnMultilineStringIgnoresWhatPrecedes': WHATEVER THE INPUT: true; the input reads as it did. -/
def fnMultilineStringIgnoresWhatPrecedesSpec : ChangeSpec := { name := "fnMultilineStringIgnoresWhatPrecedes", fn := fun _ => fun
  | [d1, d2, d3] => { results := [.lit (.bool true)], args := [d1, d2, d3] }
  | _ => none }
def fnMultilineStringIgnoresWhatPrecedesRow : OpenClaim := { program := "qxb6601227a", sum := "9bb0501ad02600c9ee85157633c6e8cff176a1d1d621a4369baf11abd7b3b4f3", func := "example.com/vestledger/vestledger/zzlaws_internal_plan_b1.FnMultilineStringIgnoresWhatPrecedes", spec := "fnMultilineStringIgnoresWhatPrecedes", apart := false }
def FnMultilineStringIgnoresWhatPrecedesSaid : Prop := fnMultilineStringIgnoresWhatPrecedesRow.holds Try.pinned (OpenSpec.ofChange fnMultilineStringIgnoresWhatPrecedesSpec)

/-- ITS FALSE NEIGHBOUR: 'it returns false'. Refute it at one input. -/
def fnMultilineStringIgnoresWhatPrecedesWrong : ChangeSpec := { name := "fnMultilineStringIgnoresWhatPrecedes", fn := fun _ => fun
  | [d1, d2, d3] => { results := [.lit (.bool false)], args := [d1, d2, d3] }
  | _ => none }
def FnMultilineStringIgnoresWhatPrecedesWrongFalsely : Prop := fnMultilineStringIgnoresWhatPrecedesRow.holds Try.pinned (OpenSpec.ofChange fnMultilineStringIgnoresWhatPrecedesWrong)

/-- 'zzlaws_internal_plan_b1.FnSkipIsIdempotent': WHATEVER THE INPUT: true; the input reads as it did. -/
def fnSkipIsIdempotentSpec : ChangeSpec := { name := "fnSkipIsIdempotent", fn := fun _ => fun
  | [d1, d2, d3] => { results := [.lit (.bool true)], args := [d1, d2, d3] }
  | _ => none }
def fnSkipIsIdempotentRow : OpenClaim := { program := "qxb6601227a", sum := "9bb0501ad02600c9ee85157633c6e8cff176a1d1d621a4369baf11abd7b3b4f3", func := "example.com/vestledger/vestledger/zzlaws_internal_plan_b1.FnSkipIsIdempotent", spec := "fnSkipIsIdempotent", inPlace := ["internal/bytealg.IndexByteString"], apart := false }
def FnSkipIsIdempotentSaid : Prop := fnSkipIsIdempotentRow.holds Try.pinned (OpenSpec.ofChange fnSkipIsIdempotentSpec)

/-- ITS FALSE NEIGHBOUR: 'it returns false'. Refute it at one input. -/
def fnSkipIsIdempotentWrong : ChangeSpec := { name := "fnSkipIsIdempotent", fn := fun _ => fun
  | [d1, d2, d3] => { results := [.lit (.bool false)], args := [d1, d2, d3] }
  | _ => none }
def FnSkipIsIdempotentWrongFalsely : Prop := fnSkipIsIdempotentRow.holds Try.pinned (OpenSpec.ofChange fnSkipIsIdempotentWrong)

/-- 'zzlaws_internal_plan_b1.FnSkipStopsAtContentAndFlagOrders': WHATEVER THE INPUT: true; the input reads as it did. -/
def fnSkipStopsAtContentAndFlagOrdersSpec : ChangeSpec := { name := "fnSkipStopsAtContentAndFlagOrders", fn := fun _ => fun
  | [d1, d2] => { results := [.lit (.bool true)], args := [d1, d2] }
  | _ => none }
def fnSkipStopsAtContentAndFlagOrdersRow : OpenClaim := { program := "qxb6601227a", sum := "9bb0501ad02600c9ee85157633c6e8cff176a1d1d621a4369baf11abd7b3b4f3", func := "example.com/vestledger/vestledger/zzlaws_internal_plan_b1.FnSkipStopsAtContentAndFlagOrders", spec := "fnSkipStopsAtContentAndFlagOrders", inPlace := ["internal/bytealg.IndexByteString"], apart := false }
def FnSkipStopsAtContentAndFlagOrdersSaid : Prop := fnSkipStopsAtContentAndFlagOrdersRow.holds Try.pinned (OpenSpec.ofChange fnSkipStopsAtContentAndFlagOrdersSpec)

/-- ITS FALSE NEIGHBOUR: 'it returns false'. Refute it at one input. -/
def fnSkipStopsAtContentAndFlagOrdersWrong : ChangeSpec := { name := "fnSkipStopsAtContentAndFlagOrders", fn := fun _ => fun
  | [d1, d2] => { results := [.lit (.bool false)], args := [d1, d2] }
  | _ => none }
def FnSkipStopsAtContentAndFlagOrdersWrongFalsely : Prop := fnSkipStopsAtContentAndFlagOrdersRow.holds Try.pinned (OpenSpec.ofChange fnSkipStopsAtContentAndFlagOrdersWrong)

end Rows
end Go.Proofs.Qxb6601227a
