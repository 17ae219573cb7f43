/-
  No cell of these rows narrows 'for every input' (looked for: loops, veiled, ifaces, maps, wideKeys, modest, calm, conditions, laid).
  DERIVED. THE GIVEN ROWS OF THIS SEAT. 1 by the template 'for every input the law returns true; each argument reads behind the call as it read before'; 0 by the template 'total and deterministic' (their statements: Qxb6608581aTotals.lean).
  GIVEN WITH THE SEED: the statements are not yours to turn. If you find one false, say at which input.
  Laid BY PROGRAM, IN A SANDBOX (cutbox-rows.mjs): the forced cells as the released guide's own fill.sh prints them over the translation 183244de020ed9d7… (all of the seat's roots in one cut). By AI agents, Wed Nov 11 2026. No macro, syntax, notation, axiom, sorry.
-/
import Derived.Test.Qxb6608581aChecked
import GoSem.Claim
import GoSem.ClaimJoined
import GoSem.ClaimMapViews
import Derived.JoinedTies
import Derived.KernelRfl
namespace Go.Proofs.Qxb6608581a
/- THE CELL 'sum', in the pinned program and in every row, IS THE sha256 OF THE DUMP (.gsa) THAT Qxb6608581aProg.lean LOADS. Nothing in Lean hashes anything: it is a label: what it is worth is what the hold of that sum in a sandbox is worth. -/
noncomputable def Try.pinned : Pinned := { name := "qxb6608581a", sum := "183244de020ed9d708272172eb88d2f12e7ab907b33b823dff12abb09f67f9bc", checked := Try.checked }
namespace Rows
def none {H : Type} : Left H := { results := [], args := [] }

/-- 'zzlaws_pkg_value_b1.FnIsFileNameLongestPrefix': WHATEVER THE INPUT: true; the input reads as it did. -/
def fnIsFileNameLongestPrefixSpec : ChangeSpec := { name := "fnIsFileNameLongestPrefix", fn := fun _ => fun
  | [d] => { results := [.lit (.bool true)], args := [d] }
  | _ => none }
def fnIsFileNameLongestPrefixRow : OpenClaim := { program := "qxb6608581a", sum := "183244de020ed9d708272172eb88d2f12e7ab907b33b823dff12abb09f67f9bc", func := "example.com/unitlint/unitlint/zzlaws_pkg_value_b1.FnIsFileNameLongestPrefix", spec := "fnIsFileNameLongestPrefix", inPlace := ["internal/bytealg.IndexByteString", "internal/bytealg.IndexString"], named := ["internal/bytealg.MaxLen"], apart := false }
def FnIsFileNameLongestPrefixSaid : Prop := fnIsFileNameLongestPrefixRow.holds Try.pinned (OpenSpec.ofChange fnIsFileNameLongestPrefixSpec)

/-- ITS FALSE NEIGHBOUR: 'it returns false'. Refute it at one input. -/
def fnIsFileNameLongestPrefixWrong : ChangeSpec := { name := "fnIsFileNameLongestPrefix", fn := fun _ => fun
  | [d] => { results := [.lit (.bool false)], args := [d] }
  | _ => none }
def FnIsFileNameLongestPrefixWrongFalsely : Prop := fnIsFileNameLongestPrefixRow.holds Try.pinned (OpenSpec.ofChange fnIsFileNameLongestPrefixWrong)

end Rows
end Go.Proofs.Qxb6608581a
