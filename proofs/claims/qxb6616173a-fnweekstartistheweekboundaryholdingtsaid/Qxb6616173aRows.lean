/-
  No cell of these rows narrows 'for every input' (looked for: loops, veiled, ifaces, maps, wideKeys, modest, calm, conditions, laid).
  DERIVED. THE GIVEN ROWS OF THIS SEAT. 4 by the template 'for every input the law returns true; each argument reads behind the call as it read before'; 0 by the template 'total and deterministic' (their statements: Qxb6616173aTotals.lean).
  GIVEN WITH THE SEED: the statements are not yours to turn. If you find one false, say at which input.
  Laid BY PROGRAM, IN A SANDBOX (cutbox-rows.mjs): the forced cells as the released guide's own fill.sh prints them over the translation 791063c28ad08dfd… (all of the seat's roots in one cut). By AI agents, Wed Nov 11 2026. No macro, syntax, notation, axiom, sorry.
-/
import Derived.Test.Qxb6616173aChecked
import GoSem.Claim
import GoSem.ClaimJoined
import GoSem.ClaimMapViews
import Derived.JoinedTies
import Derived.KernelRfl
namespace Go.Proofs.Qxb6616173a
/- THE CELL 'sum', in the pinned program and in every row, IS THE sha256 OF THE DUMP (.gsa) THAT Qxb6616173aProg.lean LOADS. Nothing in Lean hashes anything: it is a label: what it is worth is what the hold of that sum in a sandbox is worth. -/
noncomputable def Try.pinned : Pinned := { name := "qxb6616173a", sum := "791063c28ad08dfda1c2b162df1b5cd1c2b35396e9ecc56f89c5292af0ec733a", checked := Try.checked }
namespace Rows
def none {H : Type} : Left H := { results := [], args := [] }

/-- 'zzlaws_root_b1.FnWeekStartIsTheWeekBoundaryHoldingT': WHATEVER THE INPUT: true; the input reads as it did. -/
def fnWeekStartIsTheWeekBoundaryHoldingTSpec : ChangeSpec := { name := "fnWeekStartIsTheWeekBoundaryHoldingT", fn := fun _ => fun
  | [d] => { results := [.lit (.bool true)], args := [d] }
  | _ => none }
def fnWeekStartIsTheWeekBoundaryHoldingTRow : OpenClaim := { program := "qxb6616173a", sum := "791063c28ad08dfda1c2b162df1b5cd1c2b35396e9ecc56f89c5292af0ec733a", func := "example.com/lockweight/lockweight/zzlaws_root_b1.FnWeekStartIsTheWeekBoundaryHoldingT", spec := "fnWeekStartIsTheWeekBoundaryHoldingT", apart := false }
def FnWeekStartIsTheWeekBoundaryHoldingTSaid : Prop := fnWeekStartIsTheWeekBoundaryHoldingTRow.holds Try.pinned (OpenSpec.ofChange fnWeekStartIsTheWeekBoundaryHoldingTSpec)

/-- ITS FALSE NEIGHBOUR: 'it returns false'. Refute it at one input. -/
def fnWeekStartIsTheWeekBoundaryHoldingTWrong : ChangeSpec := { name := "fnWeekStartIsTheWeekBoundaryHoldingT", fn := fun _ => fun
  | [d] => { results := [.lit (.bool false)], args := [d] }
  | _ => none }
def FnWeekStartIsTheWeekBoundaryHoldingTWrongFalsely : Prop := fnWeekStartIsTheWeekBoundaryHoldingTRow.holds Try.pinned (OpenSpec.ofChange fnWeekStartIsTheWeekBoundaryHoldingTWrong)

/-- 'zzlaws_root_b1.FnWeekStartSameWeekExactlyWhenWithinAWeekOfItsStart': WHATEVER THE INPUT: true; the input reads as it did. -/
def fnWeekStartSameWeekExactlyWhenWithinAWeekOfItsStartSpec : ChangeSpec := { name := "fnWeekStartSameWeekExactlyWhenWithinAWeekOfItsStart", fn := fun _ => fun
  | [d1, d2] => { results := [.lit (.bool true)], args := [d1, d2] }
  | _ => none }
def fnWeekStartSameWeekExactlyWhenWithinAWeekOfItsStartRow : OpenClaim := { program := "qxb6616173a", sum := "791063c28ad08dfda1c2b162df1b5cd1c2b35396e9ecc56f89c5292af0ec733a", func := "example.com/lockweight/lockweight/zzlaws_root_b1.FnWeekStartSameWeekExactlyWhenWithinAWeekOfItsStart", spec := "fnWeekStartSameWeekExactlyWhenWithinAWeekOfItsStart", apart := false }
def FnWeekStartSameWeekExactlyWhenWithinAWeekOfItsStartSaid : Prop := fnWeekStartSameWeekExactlyWhenWithinAWeekOfItsStartRow.holds Try.pinned (OpenSpec.ofChange fnWeekStartSameWeekExactlyWhenWithinAWeekOfItsStartSpec)

/-- ITS FALSE NEIGHBOUR: 'it returns false'. Refute it at one input. -/
def fnWeekStartSameWeekExactlyWhenWithinAWeekOfItsStartWrong : ChangeSpec := { name := "fnWeekStartSameWeekExactlyWhenWithinAWeekOfItsStart", fn := fun _ => fun
  | [d1, d2] => { results := [.lit (.bool false)], args := [d1, d2] }
  | _ => none }
def FnWeekStartSameWeekExactlyWhenWithinAWeekOfItsStartWrongFalsely : Prop := fnWeekStartSameWeekExactlyWhenWithinAWeekOfItsStartRow.holds Try.pinned (OpenSpec.ofChange fnWeekStartSameWeekExactlyWhenWithinAWeekOfItsStartWrong)

/-- 'zzlaws_root_b1.FnShareWithReplacesWhatWasSharedBefore': WHATEVER THE INPUT: true; the input reads as it did. -/
def fnShareWithReplacesWhatWasSharedBeforeSpec : ChangeSpec := { name := "fnShareWithReplacesWhatWasSharedBefore", fn := fun _ => fun
  | [d1, d2, d3] => { results := [.lit (.bool true)], args := [d1, d2, d3] }
  | _ => none }
def fnShareWithReplacesWhatWasSharedBeforeRow : OpenClaim := { program := "qxb6616173a", sum := "791063c28ad08dfda1c2b162df1b5cd1c2b35396e9ecc56f89c5292af0ec733a", func := "example.com/lockweight/lockweight/zzlaws_root_b1.FnShareWithReplacesWhatWasSharedBefore", spec := "fnShareWithReplacesWhatWasSharedBefore", apart := false }
def FnShareWithReplacesWhatWasSharedBeforeSaid : Prop := fnShareWithReplacesWhatWasSharedBeforeRow.holds Try.pinned (OpenSpec.ofChange fnShareWithReplacesWhatWasSharedBeforeSpec)

/-- ITS FALSE NEIGHBOUR: 'it returns false'. Refute it at one input. -/
def fnShareWithReplacesWhatWasSharedBeforeWrong : ChangeSpec := { name := "fnShareWithReplacesWhatWasSharedBefore", fn := fun _ => fun
  | [d1, d2, d3] => { results := [.lit (.bool false)], args := [d1, d2, d3] }
  | _ => none }
def FnShareWithReplacesWhatWasSharedBeforeWrongFalsely : Prop := fnShareWithReplacesWhatWasSharedBeforeRow.holds Try.pinned (OpenSpec.ofChange fnShareWithReplacesWhatWasSharedBeforeWrong)

/-- 'zzlaws_root_b1.FnShareWithStoppingOneSharerLeavesAnotherAsItWas': WHATEVER THE INPUT: true; the input reads as it did. -/
def fnShareWithStoppingOneSharerLeavesAnotherAsItWasSpec : ChangeSpec := { name := "fnShareWithStoppingOneSharerLeavesAnotherAsItWas", fn := fun _ => fun
  | [d1, d2, d3, d4] => { results := [.lit (.bool true)], args := [d1, d2, d3, d4] }
  | _ => none }
def fnShareWithStoppingOneSharerLeavesAnotherAsItWasRow : OpenClaim := { program := "qxb6616173a", sum := "791063c28ad08dfda1c2b162df1b5cd1c2b35396e9ecc56f89c5292af0ec733a", func := "example.com/lockweight/lockweight/zzlaws_root_b1.FnShareWithStoppingOneSharerLeavesAnotherAsItWas", spec := "fnShareWithStoppingOneSharerLeavesAnotherAsItWas", apart := false }
def FnShareWithStoppingOneSharerLeavesAnotherAsItWasSaid : Prop := fnShareWithStoppingOneSharerLeavesAnotherAsItWasRow.holds Try.pinned (OpenSpec.ofChange fnShareWithStoppingOneSharerLeavesAnotherAsItWasSpec)

/-- ITS FALSE NEIGHBOUR: 'it returns false'. Refute it at one input. -/
def fnShareWithStoppingOneSharerLeavesAnotherAsItWasWrong : ChangeSpec := { name := "fnShareWithStoppingOneSharerLeavesAnotherAsItWas", fn := fun _ => fun
  | [d1, d2, d3, d4] => { results := [.lit (.bool false)], args := [d1, d2, d3, d4] }
  | _ => none }
def FnShareWithStoppingOneSharerLeavesAnotherAsItWasWrongFalsely : Prop := fnShareWithStoppingOneSharerLeavesAnotherAsItWasRow.holds Try.pinned (OpenSpec.ofChange fnShareWithStoppingOneSharerLeavesAnotherAsItWasWrong)

end Rows
end Go.Proofs.Qxb6616173a
