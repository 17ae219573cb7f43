/-
  No cell of these rows narrows 'for every input' (looked for: loops, veiled, ifaces, maps, wideKeys, modest, calm, conditions, laid).
  DERIVED. THE GIVEN ROWS OF THIS SEAT. 4 by the template 'for every input the law returns true; each argument reads behind the call as it read before'; 0 by the template 'total and deterministic' (their statements: Qxb6604104aTotals.lean).
  GIVEN WITH THE SEED: the statements are not yours to turn. If you find one false, say at which input.
  Laid BY PROGRAM, IN A SANDBOX (cutbox-rows.mjs): the forced cells as the released guide's own fill.sh prints them over the translation 55bdb483ffeb3b39… (all of the seat's roots in one cut). By AI agents, Wed Nov 11 2026. No macro, syntax, notation, axiom, sorry.
-/
import Derived.Test.Qxb6604104aChecked
import GoSem.Claim
import GoSem.ClaimJoined
import GoSem.ClaimMapViews
import Derived.JoinedTies
import Derived.KernelRfl
namespace Go.Proofs.Qxb6604104a
/- THE CELL 'sum', in the pinned program and in every row, IS THE sha256 OF THE DUMP (.gsa) THAT Qxb6604104aProg.lean LOADS. Nothing in Lean hashes anything: it is a label: what it is worth is what the hold of that sum in a sandbox is worth. -/
noncomputable def Try.pinned : Pinned := { name := "qxb6604104a", sum := "55bdb483ffeb3b39e7b7b324f9dd82d784bba7a23fbe2d1eaad627e592e8b932", checked := Try.checked }
namespace Rows
def none {H : Type} : Left H := { results := [], args := [] }

/-- 'zzlaws_pkg_forward_b1.FnNewMaskerMatchesSpec': WHATEVER THE INPUT: true; the input reads as it did. -/
def fnNewMaskerMatchesSpecSpec : ChangeSpec := { name := "fnNewMaskerMatchesSpec", fn := fun _ => fun
  | [d] => { results := [.lit (.bool true)], args := [d] }
  | _ => none }
def fnNewMaskerMatchesSpecRow : OpenClaim := { program := "qxb6604104a", sum := "55bdb483ffeb3b39e7b7b324f9dd82d784bba7a23fbe2d1eaad627e592e8b932", func := "example.com/upright-gateway/upright-gateway/zzlaws_pkg_forward_b1.FnNewMaskerMatchesSpec", spec := "fnNewMaskerMatchesSpec", inPlace := ["internal/bytealg.IndexByteString"], apart := false }
def FnNewMaskerMatchesSpecSaid : Prop := fnNewMaskerMatchesSpecRow.holds Try.pinned (OpenSpec.ofChange fnNewMaskerMatchesSpecSpec)

/-- ITS FALSE NEIGHBOUR: 'it returns false'. Refute it at one input. -/
def fnNewMaskerMatchesSpecWrong : ChangeSpec := { name := "fnNewMaskerMatchesSpec", fn := fun _ => fun
  | [d] => { results := [.lit (.bool false)], args := [d] }
  | _ => none }
def FnNewMaskerMatchesSpecWrongFalsely : Prop := fnNewMaskerMatchesSpecRow.holds Try.pinned (OpenSpec.ofChange fnNewMaskerMatchesSpecWrong)

/-- 'zzlaws_pkg_forward_b1.FnNewMaskerSkipNeverJumpsAnOccurrence': WHATEVER THE INPUT: true; the input reads as it did. -/
def fnNewMaskerSkipNeverJumpsAnOccurrenceSpec : ChangeSpec := { name := "fnNewMaskerSkipNeverJumpsAnOccurrence", fn := fun _ => fun
  | [d] => { results := [.lit (.bool true)], args := [d] }
  | _ => none }
def fnNewMaskerSkipNeverJumpsAnOccurrenceRow : OpenClaim := { program := "qxb6604104a", sum := "55bdb483ffeb3b39e7b7b324f9dd82d784bba7a23fbe2d1eaad627e592e8b932", func := "example.com/upright-gateway/upright-gateway/zzlaws_pkg_forward_b1.FnNewMaskerSkipNeverJumpsAnOccurrence", spec := "fnNewMaskerSkipNeverJumpsAnOccurrence", inPlace := ["internal/bytealg.IndexByteString"], apart := false }
def FnNewMaskerSkipNeverJumpsAnOccurrenceSaid : Prop := fnNewMaskerSkipNeverJumpsAnOccurrenceRow.holds Try.pinned (OpenSpec.ofChange fnNewMaskerSkipNeverJumpsAnOccurrenceSpec)

/-- ITS FALSE NEIGHBOUR: 'it returns false'. Refute it at one input. -/
def fnNewMaskerSkipNeverJumpsAnOccurrenceWrong : ChangeSpec := { name := "fnNewMaskerSkipNeverJumpsAnOccurrence", fn := fun _ => fun
  | [d] => { results := [.lit (.bool false)], args := [d] }
  | _ => none }
def FnNewMaskerSkipNeverJumpsAnOccurrenceWrongFalsely : Prop := fnNewMaskerSkipNeverJumpsAnOccurrenceRow.holds Try.pinned (OpenSpec.ofChange fnNewMaskerSkipNeverJumpsAnOccurrenceWrong)

/-- 'zzlaws_pkg_forward_b1.FnBodyMatchesNaiveModel': WHATEVER THE INPUT: true; the input reads as it did. -/
def fnBodyMatchesNaiveModelSpec : ChangeSpec := { name := "fnBodyMatchesNaiveModel", fn := fun _ => fun
  | [d1, d2, d3] => { results := [.lit (.bool true)], args := [d1, d2, d3] }
  | _ => none }
def fnBodyMatchesNaiveModelRow : OpenClaim := { program := "qxb6604104a", sum := "55bdb483ffeb3b39e7b7b324f9dd82d784bba7a23fbe2d1eaad627e592e8b932", func := "example.com/upright-gateway/upright-gateway/zzlaws_pkg_forward_b1.FnBodyMatchesNaiveModel", spec := "fnBodyMatchesNaiveModel", inPlace := ["internal/bytealg.IndexByteString", "internal/bytealg.IndexByte"], apart := false }
def FnBodyMatchesNaiveModelSaid : Prop := fnBodyMatchesNaiveModelRow.holds Try.pinned (OpenSpec.ofChange fnBodyMatchesNaiveModelSpec)

/-- ITS FALSE NEIGHBOUR: 'it returns false'. Refute it at one input. -/
def fnBodyMatchesNaiveModelWrong : ChangeSpec := { name := "fnBodyMatchesNaiveModel", fn := fun _ => fun
  | [d1, d2, d3] => { results := [.lit (.bool false)], args := [d1, d2, d3] }
  | _ => none }
def FnBodyMatchesNaiveModelWrongFalsely : Prop := fnBodyMatchesNaiveModelRow.holds Try.pinned (OpenSpec.ofChange fnBodyMatchesNaiveModelWrong)

/-- 'zzlaws_pkg_forward_b1.FnBodyLeavesNoKeyBehind': WHATEVER THE INPUT: true; the input reads as it did. -/
def fnBodyLeavesNoKeyBehindSpec : ChangeSpec := { name := "fnBodyLeavesNoKeyBehind", fn := fun _ => fun
  | [d1, d2] => { results := [.lit (.bool true)], args := [d1, d2] }
  | _ => none }
def fnBodyLeavesNoKeyBehindRow : OpenClaim := { program := "qxb6604104a", sum := "55bdb483ffeb3b39e7b7b324f9dd82d784bba7a23fbe2d1eaad627e592e8b932", func := "example.com/upright-gateway/upright-gateway/zzlaws_pkg_forward_b1.FnBodyLeavesNoKeyBehind", spec := "fnBodyLeavesNoKeyBehind", inPlace := ["internal/bytealg.IndexByteString", "internal/bytealg.IndexByte"], apart := false }
def FnBodyLeavesNoKeyBehindSaid : Prop := fnBodyLeavesNoKeyBehindRow.holds Try.pinned (OpenSpec.ofChange fnBodyLeavesNoKeyBehindSpec)

/-- ITS FALSE NEIGHBOUR: 'it returns false'. Refute it at one input. -/
def fnBodyLeavesNoKeyBehindWrong : ChangeSpec := { name := "fnBodyLeavesNoKeyBehind", fn := fun _ => fun
  | [d1, d2] => { results := [.lit (.bool false)], args := [d1, d2] }
  | _ => none }
def FnBodyLeavesNoKeyBehindWrongFalsely : Prop := fnBodyLeavesNoKeyBehindRow.holds Try.pinned (OpenSpec.ofChange fnBodyLeavesNoKeyBehindWrong)

end Rows
end Go.Proofs.Qxb6604104a
