/-
  No cell of these rows narrows 'for every input' (looked for: loops, veiled, ifaces, maps, wideKeys, modest, calm, conditions, laid).
  DERIVED. THE GIVEN ROWS OF THIS SEAT. 1 by the template 'for every input the law returns true; each argument reads behind the call as it read before'; 0 by the template 'total and deterministic' (their statements: Qxb6615969aTotals.lean).
  GIVEN WITH THE SEED: the statements are not yours to turn. If you find one false, say at which input.
  Laid BY PROGRAM, IN A SANDBOX (cutbox-rows.mjs): the forced cells as the released guide's own fill.sh prints them over the translation fae9b688f1398b6a… (all of the seat's roots in one cut). By AI agents, Wed Nov 11 2026. No macro, syntax, notation, axiom, sorry.
-/
import Derived.Test.Qxb6615969aChecked
import GoSem.Claim
import GoSem.ClaimJoined
import GoSem.ClaimMapViews
import Derived.JoinedTies
import Derived.KernelRfl
namespace Go.Proofs.Qxb6615969a
/- THE CELL 'sum', in the pinned program and in every row, IS THE sha256 OF THE DUMP (.gsa) THAT Qxb6615969aProg.lean LOADS. Nothing in Lean hashes anything: it is a label: what it is worth is what the hold of that sum in a sandbox is worth. -/
noncomputable def Try.pinned : Pinned := { name := "qxb6615969a", sum := "fae9b688f1398b6a3b7c34ac4f84421f0798d36c67440721d207c23e8d00a9c2", checked := Try.checked }
namespace Rows
def none {H : Type} : Left H := { results := [], args := [] }

/-- 'zzlaws_internal_block_b1.FnAdvanceTakesTheOnlySeriesThenEnds': WHATEVER THE INPUT: true; the input reads as it did. -/
def fnAdvanceTakesTheOnlySeriesThenEndsSpec : ChangeSpec := { name := "fnAdvanceTakesTheOnlySeriesThenEnds", fn := fun _ => fun
  | [d1, d2, d3, d4, d5] => { results := [.lit (.bool true)], args := [d1, d2, d3, d4, d5] }
  | _ => none }
def fnAdvanceTakesTheOnlySeriesThenEndsRow : OpenClaim := { program := "qxb6615969a", sum := "fae9b688f1398b6a3b7c34ac4f84421f0798d36c67440721d207c23e8d00a9c2", func := "example.com/chronolith/chronolith/zzlaws_internal_block_b1.FnAdvanceTakesTheOnlySeriesThenEnds", spec := "fnAdvanceTakesTheOnlySeriesThenEnds", unfollowed := true, recurses := true, apart := false }
def FnAdvanceTakesTheOnlySeriesThenEndsSaid : Prop := fnAdvanceTakesTheOnlySeriesThenEndsRow.holds Try.pinned (OpenSpec.ofChange fnAdvanceTakesTheOnlySeriesThenEndsSpec)

/-- ITS FALSE NEIGHBOUR: 'it returns false'. Refute it at one input. -/
def fnAdvanceTakesTheOnlySeriesThenEndsWrong : ChangeSpec := { name := "fnAdvanceTakesTheOnlySeriesThenEnds", fn := fun _ => fun
  | [d1, d2, d3, d4, d5] => { results := [.lit (.bool false)], args := [d1, d2, d3, d4, d5] }
  | _ => none }
def FnAdvanceTakesTheOnlySeriesThenEndsWrongFalsely : Prop := fnAdvanceTakesTheOnlySeriesThenEndsRow.holds Try.pinned (OpenSpec.ofChange fnAdvanceTakesTheOnlySeriesThenEndsWrong)

end Rows
end Go.Proofs.Qxb6615969a
