/-
  No cell of these rows narrows 'for every input' (looked for: loops, veiled, ifaces, maps, wideKeys, modest, calm, conditions, laid).
  DERIVED. THE GIVEN ROWS OF THIS SEAT. 2 by the template 'for every input the law returns true; each argument reads behind the call as it read before'; 0 by the template 'total and deterministic' (their statements: Qxb6604609aTotals.lean).
  GIVEN WITH THE SEED: the statements are not yours to turn. If you find one false, say at which input.
  Laid BY PROGRAM, IN A SANDBOX (cutbox-rows.mjs): the forced cells as the released guide's own fill.sh prints them over the translation 03db1d543c57024d… (all of the seat's roots in one cut). By AI agents, Wed Nov 11 2026. No macro, syntax, notation, axiom, sorry.
-/
import Derived.Test.Qxb6604609aChecked
import GoSem.Claim
import GoSem.ClaimJoined
import GoSem.ClaimMapViews
import Derived.JoinedTies
import Derived.KernelRfl
namespace Go.Proofs.Qxb6604609a
/- THE CELL 'sum', in the pinned program and in every row, IS THE sha256 OF THE DUMP (.gsa) THAT Qxb6604609aProg.lean LOADS. Nothing in Lean hashes anything: it is a label: what it is worth is what the hold of that sum in a sandbox is worth. -/
noncomputable def Try.pinned : Pinned := { name := "qxb6604609a", sum := "03db1d543c57024d46641d16b50d2ff68d14e8ec3790c3deacc302aac1df12b3", checked := Try.checked }
namespace Rows
def none {H : Type} : Left H := { results := [], args := [] }

/-- 'zzlaws_internal_store_b1.FnStringLenAgainstEscapeScanner': WHATEVER THE INPUT: true; the input reads as it did. -/
def fnStringLenAgainstEscapeScannerSpec : ChangeSpec := { name := "fnStringLenAgainstEscapeScanner", fn := fun _ => fun
  | [d] => { results := [.lit (.bool true)], args := [d] }
  | _ => none }
def fnStringLenAgainstEscapeScannerRow : OpenClaim := { program := "qxb6604609a", sum := "03db1d543c57024d46641d16b50d2ff68d14e8ec3790c3deacc302aac1df12b3", func := "example.com/cartulary/cartulary/zzlaws_internal_store_b1.FnStringLenAgainstEscapeScanner", spec := "fnStringLenAgainstEscapeScanner", inPlace := ["internal/bytealg.IndexByte"], apart := false }
def FnStringLenAgainstEscapeScannerSaid : Prop := fnStringLenAgainstEscapeScannerRow.holds Try.pinned (OpenSpec.ofChange fnStringLenAgainstEscapeScannerSpec)

/-- ITS FALSE NEIGHBOUR: 'it returns false'. Refute it at one input. -/
def fnStringLenAgainstEscapeScannerWrong : ChangeSpec := { name := "fnStringLenAgainstEscapeScanner", fn := fun _ => fun
  | [d] => { results := [.lit (.bool false)], args := [d] }
  | _ => none }
def FnStringLenAgainstEscapeScannerWrongFalsely : Prop := fnStringLenAgainstEscapeScannerRow.holds Try.pinned (OpenSpec.ofChange fnStringLenAgainstEscapeScannerWrong)

/-- 'zzlaws_internal_store_b1.FnStringLenOfEncodedString': WHATEVER THE INPUT: true; the input reads as it did. -/
def fnStringLenOfEncodedStringSpec : ChangeSpec := { name := "fnStringLenOfEncodedString", fn := fun _ => fun
  | [d1, d2] => { results := [.lit (.bool true)], args := [d1, d2] }
  | _ => none }
def fnStringLenOfEncodedStringRow : OpenClaim := { program := "qxb6604609a", sum := "03db1d543c57024d46641d16b50d2ff68d14e8ec3790c3deacc302aac1df12b3", func := "example.com/cartulary/cartulary/zzlaws_internal_store_b1.FnStringLenOfEncodedString", spec := "fnStringLenOfEncodedString", inPlace := ["internal/bytealg.IndexByte"], apart := false }
def FnStringLenOfEncodedStringSaid : Prop := fnStringLenOfEncodedStringRow.holds Try.pinned (OpenSpec.ofChange fnStringLenOfEncodedStringSpec)

/-- ITS FALSE NEIGHBOUR: 'it returns false'. Refute it at one input. -/
def fnStringLenOfEncodedStringWrong : ChangeSpec := { name := "fnStringLenOfEncodedString", fn := fun _ => fun
  | [d1, d2] => { results := [.lit (.bool false)], args := [d1, d2] }
  | _ => none }
def FnStringLenOfEncodedStringWrongFalsely : Prop := fnStringLenOfEncodedStringRow.holds Try.pinned (OpenSpec.ofChange fnStringLenOfEncodedStringWrong)

end Rows
end Go.Proofs.Qxb6604609a
