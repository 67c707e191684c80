/-
  No cell of these rows narrows 'for every input' (looked for: loops, veiled, ifaces, maps, wideKeys, modest, calm, conditions, laid).
  DERIVED. THE GIVEN ROWS OF THIS SEAT. 2 by the template 'for every input the law returns true; each argument reads behind the call as it read before'; 0 by the template 'total and deterministic' (their statements: Qxb6614555aTotals.lean).
  GIVEN WITH THE SEED: the statements are not yours to turn. If you find one false, say at which input.
  Laid BY PROGRAM, IN A SANDBOX (cutbox-rows.mjs): the forced cells as the released guide's own fill.sh prints them over the translation c57c0d055822c5ec… (all of the seat's roots in one cut). By AI agents, Wed Nov 11 2026. No macro, syntax, notation, axiom, sorry.
-/
import Derived.Test.Qxb6614555aChecked
import GoSem.Claim
import GoSem.ClaimJoined
import GoSem.ClaimMapViews
import Derived.JoinedTies
import Derived.KernelRfl
namespace Go.Proofs.Qxb6614555a
/- THE CELL 'sum', in the pinned program and in every row, IS THE sha256 OF THE DUMP (.gsa) THAT Qxb6614555aProg.lean LOADS. Nothing in Lean hashes anything: it is a label: what it is worth is what the hold of that sum in a sandbox is worth. -/
noncomputable def Try.pinned : Pinned := { name := "qxb6614555a", sum := "c57c0d055822c5ec80cc0ae5e40d2610ce3c305adab619544625a560f7e068a9", checked := Try.checked }
namespace Rows
def none {H : Type} : Left H := { results := [], args := [] }

/-- 'zzlaws_cli_b1.FnPositiveShiftInvariantAndOwnVersion': WHATEVER THE INPUT: true; the input reads as it did. -/
def fnPositiveShiftInvariantAndOwnVersionSpec : ChangeSpec := { name := "fnPositiveShiftInvariantAndOwnVersion", fn := fun _ => fun
  | [d1, d2, d3, d4] => { results := [.lit (.bool true)], args := [d1, d2, d3, d4] }
  | _ => none }
def fnPositiveShiftInvariantAndOwnVersionRow : OpenClaim := { program := "qxb6614555a", sum := "c57c0d055822c5ec80cc0ae5e40d2610ce3c305adab619544625a560f7e068a9", func := "example.com/bylaw/bylaw/zzlaws_cli_b1.FnPositiveShiftInvariantAndOwnVersion", spec := "fnPositiveShiftInvariantAndOwnVersion", apart := false }
def FnPositiveShiftInvariantAndOwnVersionSaid : Prop := fnPositiveShiftInvariantAndOwnVersionRow.holds Try.pinned (OpenSpec.ofChange fnPositiveShiftInvariantAndOwnVersionSpec)

/-- ITS FALSE NEIGHBOUR: 'it returns false'. Refute it at one input. -/
def fnPositiveShiftInvariantAndOwnVersionWrong : ChangeSpec := { name := "fnPositiveShiftInvariantAndOwnVersion", fn := fun _ => fun
  | [d1, d2, d3, d4] => { results := [.lit (.bool false)], args := [d1, d2, d3, d4] }
  | _ => none }
def FnPositiveShiftInvariantAndOwnVersionWrongFalsely : Prop := fnPositiveShiftInvariantAndOwnVersionRow.holds Try.pinned (OpenSpec.ofChange fnPositiveShiftInvariantAndOwnVersionWrong)

/-- 'zzlaws_cli_b1.FnPositiveOnlyAtInstalledVersion': WHATEVER THE INPUT: true; the input reads as it did. -/
def fnPositiveOnlyAtInstalledVersionSpec : ChangeSpec := { name := "fnPositiveOnlyAtInstalledVersion", fn := fun _ => fun
  | [d1, d2, d3] => { results := [.lit (.bool true)], args := [d1, d2, d3] }
  | _ => none }
def fnPositiveOnlyAtInstalledVersionRow : OpenClaim := { program := "qxb6614555a", sum := "c57c0d055822c5ec80cc0ae5e40d2610ce3c305adab619544625a560f7e068a9", func := "example.com/bylaw/bylaw/zzlaws_cli_b1.FnPositiveOnlyAtInstalledVersion", spec := "fnPositiveOnlyAtInstalledVersion", apart := false }
def FnPositiveOnlyAtInstalledVersionSaid : Prop := fnPositiveOnlyAtInstalledVersionRow.holds Try.pinned (OpenSpec.ofChange fnPositiveOnlyAtInstalledVersionSpec)

/-- ITS FALSE NEIGHBOUR: 'it returns false'. Refute it at one input. -/
def fnPositiveOnlyAtInstalledVersionWrong : ChangeSpec := { name := "fnPositiveOnlyAtInstalledVersion", fn := fun _ => fun
  | [d1, d2, d3] => { results := [.lit (.bool false)], args := [d1, d2, d3] }
  | _ => none }
def FnPositiveOnlyAtInstalledVersionWrongFalsely : Prop := fnPositiveOnlyAtInstalledVersionRow.holds Try.pinned (OpenSpec.ofChange fnPositiveOnlyAtInstalledVersionWrong)

end Rows
end Go.Proofs.Qxb6614555a
