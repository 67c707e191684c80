/-
  DERIVED. GIVEN WITH THE SEED: THE CARDS: each row of Qxb6615931aFmtRows.lean that lists a variable, with what it lists TIED to the program's text (the seventh form; the later family's looks); each row that meets fmt, with fmt's text TOLD by the authors' own Lean function (tested against real Go, not proved from fmt's source: count such statements apart). THE CARD IS WHAT COUNTS. Prove the row's statement (the work); the ties are given (Qxb6615931aFmtTie.lean); close each card by the builder's one call (the guide's Derived/Test/ToyasCard.lean, 'card_holds'). Laid BY PROGRAM, IN A SANDBOX (cutbox-door.mjs). By AI agents, Wed Nov 11 2026. No macro, syntax, notation, axiom, sorry.
-/
import Derived.Test.Qxb6615931aFmtRows
import GoSem.ClaimSeven
namespace Go.Proofs.Qxb6615931aFmt
namespace Rows

/-- THE TOLD CARD OF 'zzlaws_root_b1.FnParticipantsOfAJoinedListIsOfTheJoinedParticipants'. -/
def fnParticipantsOfAJoinedListIsOfTheJoinedParticipantsCard : Claim7 := { stood := { row := fnParticipantsOfAJoinedListIsOfTheJoinedParticipantsRow, standIns := [], harness := (true, "c83e65886152d03241731b097ef83739017b408288131ad626c8048d5cb0c22b"), looks := false }, told := true, goes := false }
def FnParticipantsOfAJoinedListIsOfTheJoinedParticipantsToldSaid : Prop := Claim7.holds Tryf.pinned (.plain (OpenSpec.ofChange fnParticipantsOfAJoinedListIsOfTheJoinedParticipantsSpec)) fnParticipantsOfAJoinedListIsOfTheJoinedParticipantsCard
/-- ITS FALSE NEIGHBOUR. Refute it at one input. -/
def FnParticipantsOfAJoinedListIsOfTheJoinedParticipantsToldWrongFalsely : Prop := Claim7.holds Tryf.pinned (.plain (OpenSpec.ofChange fnParticipantsOfAJoinedListIsOfTheJoinedParticipantsWrong)) fnParticipantsOfAJoinedListIsOfTheJoinedParticipantsCard
end Rows
end Go.Proofs.Qxb6615931aFmt
