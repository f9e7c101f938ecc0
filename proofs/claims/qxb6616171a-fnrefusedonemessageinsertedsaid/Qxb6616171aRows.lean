/-
  No cell of these rows narrows 'for every input' (looked for: loops, veiled, ifaces, maps, wideKeys, modest, calm, conditions, laid).
  DERIVED. THE GIVEN ROWS OF THIS SEAT. 3 by the template 'for every input the law returns true; each argument reads behind the call as it read before'; 0 by the template 'total and deterministic' (their statements: Qxb6616171aTotals.lean).
  GIVEN WITH THE SEED: the statements are not yours to turn. If you find one false, say at which input.
  Laid BY PROGRAM, IN A SANDBOX (cutbox-rows.mjs): the forced cells as the released guide's own fill.sh prints them over the translation e387b11e8d96788d… (all of the seat's roots in one cut). By AI agents, Wed Nov 11 2026. No macro, syntax, notation, axiom, sorry.
-/
import Derived.Test.Qxb6616171aChecked
import GoSem.Claim
import GoSem.ClaimJoined
import GoSem.ClaimMapViews
import Derived.JoinedTies
import Derived.KernelRfl
namespace Go.Proofs.Qxb6616171a
/- THE CELL 'sum', in the pinned program and in every row, IS THE sha256 OF THE DUMP (.gsa) THAT Qxb6616171aProg.lean LOADS. Nothing in Lean hashes anything: it is a label: what it is worth is what the hold of that sum in a sandbox is worth. -/
noncomputable def Try.pinned : Pinned := { name := "qxb6616171a", sum := "e387b11e8d96788df341fac11714c223de113490d94b239ac13909905298c714", checked := Try.checked }
namespace Rows
def none {H : Type} : Left H := { results := [], args := [] }

/-- 'zzlaws_installerconf_b1.FnByPlaceSortsByLineThenColumn': WHATEVER THE INPUT: true; the input reads as it did. -/
def fnByPlaceSortsByLineThenColumnSpec : ChangeSpec := { name := "fnByPlaceSortsByLineThenColumn", fn := fun _ => fun
  | [d1, d2] => { results := [.lit (.bool true)], args := [d1, d2] }
  | _ => none }
def fnByPlaceSortsByLineThenColumnRow : OpenClaim := { program := "qxb6616171a", sum := "e387b11e8d96788df341fac11714c223de113490d94b239ac13909905298c714", func := "example.com/answer-ahead/answer-ahead/zzlaws_installerconf_b1.FnByPlaceSortsByLineThenColumn", spec := "fnByPlaceSortsByLineThenColumn", apart := false }
def FnByPlaceSortsByLineThenColumnSaid : Prop := fnByPlaceSortsByLineThenColumnRow.holds Try.pinned (OpenSpec.ofChange fnByPlaceSortsByLineThenColumnSpec)

/-- ITS FALSE NEIGHBOUR: 'it returns false'. Refute it at one input. -/
def fnByPlaceSortsByLineThenColumnWrong : ChangeSpec := { name := "fnByPlaceSortsByLineThenColumn", fn := fun _ => fun
  | [d1, d2] => { results := [.lit (.bool false)], args := [d1, d2] }
  | _ => none }
def FnByPlaceSortsByLineThenColumnWrongFalsely : Prop := fnByPlaceSortsByLineThenColumnRow.holds Try.pinned (OpenSpec.ofChange fnByPlaceSortsByLineThenColumnWrong)

/-- 'zzlaws_installerconf_b1.FnRefusedSplitsAtAnyCut': WHATEVER THE INPUT: true; the input reads as it did. -/
def fnRefusedSplitsAtAnyCutSpec : ChangeSpec := { name := "fnRefusedSplitsAtAnyCut", fn := fun _ => fun
  | [d1, d2, d3, d4, d5, d6, d7] => { results := [.lit (.bool true)], args := [d1, d2, d3, d4, d5, d6, d7] }
  | _ => none }
def fnRefusedSplitsAtAnyCutRow : OpenClaim := { program := "qxb6616171a", sum := "e387b11e8d96788df341fac11714c223de113490d94b239ac13909905298c714", func := "example.com/answer-ahead/answer-ahead/zzlaws_installerconf_b1.FnRefusedSplitsAtAnyCut", spec := "fnRefusedSplitsAtAnyCut", unfollowed := true, recurses := true, apart := false }
def FnRefusedSplitsAtAnyCutSaid : Prop := fnRefusedSplitsAtAnyCutRow.holds Try.pinned (OpenSpec.ofChange fnRefusedSplitsAtAnyCutSpec)

/-- ITS FALSE NEIGHBOUR: 'it returns false'. Refute it at one input. -/
def fnRefusedSplitsAtAnyCutWrong : ChangeSpec := { name := "fnRefusedSplitsAtAnyCut", fn := fun _ => fun
  | [d1, d2, d3, d4, d5, d6, d7] => { results := [.lit (.bool false)], args := [d1, d2, d3, d4, d5, d6, d7] }
  | _ => none }
def FnRefusedSplitsAtAnyCutWrongFalsely : Prop := fnRefusedSplitsAtAnyCutRow.holds Try.pinned (OpenSpec.ofChange fnRefusedSplitsAtAnyCutWrong)

/-- 'zzlaws_installerconf_b1.FnRefusedOneMessageInserted': WHATEVER THE INPUT: true; the input reads as it did. -/
def fnRefusedOneMessageInsertedSpec : ChangeSpec := { name := "fnRefusedOneMessageInserted", fn := fun _ => fun
  | [d1, d2, d3, d4, d5, d6, d7, d8, d9, d10, d11, d12] => { results := [.lit (.bool true)], args := [d1, d2, d3, d4, d5, d6, d7, d8, d9, d10, d11, d12] }
  | _ => none }
def fnRefusedOneMessageInsertedRow : OpenClaim := { program := "qxb6616171a", sum := "e387b11e8d96788df341fac11714c223de113490d94b239ac13909905298c714", func := "example.com/answer-ahead/answer-ahead/zzlaws_installerconf_b1.FnRefusedOneMessageInserted", spec := "fnRefusedOneMessageInserted", unfollowed := true, recurses := true, apart := false }
def FnRefusedOneMessageInsertedSaid : Prop := fnRefusedOneMessageInsertedRow.holds Try.pinned (OpenSpec.ofChange fnRefusedOneMessageInsertedSpec)

/-- ITS FALSE NEIGHBOUR: 'it returns false'. Refute it at one input. -/
def fnRefusedOneMessageInsertedWrong : ChangeSpec := { name := "fnRefusedOneMessageInserted", fn := fun _ => fun
  | [d1, d2, d3, d4, d5, d6, d7, d8, d9, d10, d11, d12] => { results := [.lit (.bool false)], args := [d1, d2, d3, d4, d5, d6, d7, d8, d9, d10, d11, d12] }
  | _ => none }
def FnRefusedOneMessageInsertedWrongFalsely : Prop := fnRefusedOneMessageInsertedRow.holds Try.pinned (OpenSpec.ofChange fnRefusedOneMessageInsertedWrong)

end Rows
end Go.Proofs.Qxb6616171a
