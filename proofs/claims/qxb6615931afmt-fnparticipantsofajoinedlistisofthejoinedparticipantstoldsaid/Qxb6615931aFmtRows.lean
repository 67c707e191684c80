/-
  No cell of these rows narrows 'for every input' (looked for: loops, veiled, ifaces, maps, wideKeys, modest, calm, conditions, laid).
  DERIVED. THE GIVEN ROWS OF THIS SEAT. 1 by the template 'for every input the law returns true; each argument reads behind the call as it read before'; 0 by the template 'total and deterministic' (their statements: Qxb6615931aFmtTotals.lean).
  GIVEN WITH THE SEED: the statements are not yours to turn. If you find one false, say at which input.
  Laid BY PROGRAM, IN A SANDBOX (cutbox-rows.mjs): the forced cells as the released guide's own fill.sh prints them over the translation 292b2a6529afb106… (all of the seat's roots in one cut). By AI agents, Wed Nov 11 2026. No macro, syntax, notation, axiom, sorry.
-/
import Derived.Test.Qxb6615931aFmtChecked
import GoSem.Claim
import GoSem.ClaimJoined
import GoSem.ClaimMapViews
import Derived.JoinedTies
import Derived.KernelRfl
namespace Go.Proofs.Qxb6615931aFmt
/- THE CELL 'sum', in the pinned program and in every row, IS THE sha256 OF THE DUMP (.gsa) THAT Qxb6615931aFmtProg.lean LOADS. Nothing in Lean hashes anything: it is a label: what it is worth is what the hold of that sum in a sandbox is worth. -/
noncomputable def Tryf.pinned : Pinned := { name := "qxb6615931afmt", sum := "292b2a6529afb1064132d14175e34122bc2c218d9de95298591145025e52b8e8", checked := Tryf.checked }
namespace Rows
def none {H : Type} : Left H := { results := [], args := [] }

/-- 'zzlaws_root_b1.FnParticipantsOfAJoinedListIsOfTheJoinedParticipants': WHATEVER THE INPUT: true; the input reads as it did. -/
def fnParticipantsOfAJoinedListIsOfTheJoinedParticipantsSpec : ChangeSpec := { name := "fnParticipantsOfAJoinedListIsOfTheJoinedParticipants", fn := fun _ => fun
  | [d1, d2] => { results := [.lit (.bool true)], args := [d1, d2] }
  | _ => none }
def fnParticipantsOfAJoinedListIsOfTheJoinedParticipantsRow : OpenClaim := { program := "qxb6615931afmt", sum := "292b2a6529afb1064132d14175e34122bc2c218d9de95298591145025e52b8e8", func := "example.com/pick2/pick2/zzlaws_root_b1.FnParticipantsOfAJoinedListIsOfTheJoinedParticipants", spec := "fnParticipantsOfAJoinedListIsOfTheJoinedParticipants", stops := ["fmt.errorf"], inPlace := ["fmt.errorf", "internal/bytealg.abigen_runtime_cmpstring"], unfollowed := true, recurses := true, apart := false }
/-- NO THEOREM (fmt's text is open here; it may be false): for the released tool's asking of the row's closed facts alone. THE STATEMENT IS 'FnParticipantsOfAJoinedListIsOfTheJoinedParticipantsToldSaid' (Qxb6615931aFmtCards.lean). -/
def FnParticipantsOfAJoinedListIsOfTheJoinedParticipantsFormAsk : Prop := fnParticipantsOfAJoinedListIsOfTheJoinedParticipantsRow.holds Tryf.pinned (OpenSpec.ofChange fnParticipantsOfAJoinedListIsOfTheJoinedParticipantsSpec)

/-- ITS FALSE NEIGHBOUR: 'it returns false'. Refute it at one input. -/
def fnParticipantsOfAJoinedListIsOfTheJoinedParticipantsWrong : ChangeSpec := { name := "fnParticipantsOfAJoinedListIsOfTheJoinedParticipants", fn := fun _ => fun
  | [d1, d2] => { results := [.lit (.bool false)], args := [d1, d2] }
  | _ => none }
def FnParticipantsOfAJoinedListIsOfTheJoinedParticipantsWrongFormAsk : Prop := fnParticipantsOfAJoinedListIsOfTheJoinedParticipantsRow.holds Tryf.pinned (OpenSpec.ofChange fnParticipantsOfAJoinedListIsOfTheJoinedParticipantsWrong)

end Rows
end Go.Proofs.Qxb6615931aFmt
