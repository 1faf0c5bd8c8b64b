/-
  DERIVED. GIVEN WITH THE SEED: THE CARDS: each row of Qxb6609496aFmtRows.lean that lists a variable, with what it lists TIED to the program's text (the seventh form; the later family's looks); each row that meets fmt, with fmt's text TOLD by the authors' own Lean function (tested against real Go, not proved from fmt's source: count such statements apart). THE CARD IS WHAT COUNTS. Prove the row's statement (the work); the ties are given (Qxb6609496aFmtTie.lean); close each card by the builder's one call (the guide's Derived/Test/ToyasCard.lean, 'card_holds'). Laid BY PROGRAM, IN A SANDBOX (cutbox-door.mjs). By AI agents, Wed Nov 11 2026. No macro, syntax, notation, axiom, sorry.
-/
import Derived.Test.Qxb6609496aFmtRows
import GoSem.ClaimSeven
namespace Go.Proofs.Qxb6609496aFmt
namespace Rows

/-- THE TOLD CARD OF 'zzlaws_protocol_b1.FnNewRabinCountsQuorums'. -/
def fnNewRabinCountsQuorumsCard : Claim7 := { stood := { row := fnNewRabinCountsQuorumsRow, standIns := [], harness := (true, "67a281478f2ba725be23f9e1605fcd629983d74f5a5137a69c5a9eb64db8c57e"), looks := false }, told := true, goes := false }
def FnNewRabinCountsQuorumsToldSaid : Prop := Claim7.holds Tryf.pinned (.plain (OpenSpec.ofChange fnNewRabinCountsQuorumsSpec)) fnNewRabinCountsQuorumsCard
/-- ITS FALSE NEIGHBOUR. Refute it at one input. -/
def FnNewRabinCountsQuorumsToldWrongFalsely : Prop := Claim7.holds Tryf.pinned (.plain (OpenSpec.ofChange fnNewRabinCountsQuorumsWrong)) fnNewRabinCountsQuorumsCard
end Rows
end Go.Proofs.Qxb6609496aFmt
