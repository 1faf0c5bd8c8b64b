/-
  DERIVED. GIVEN WITH THE SEED: THE CARDS: each row of Qxb6612396aFmtRows.lean that lists a variable, with what it lists TIED to the program's text (the seventh form; the later family's looks); each row that meets fmt, with fmt's text TOLD by the authors' own Lean function (tested against real Go, not proved from fmt's source: count such statements apart). THE CARD IS WHAT COUNTS. Prove the row's statement (the work); the ties are given (Qxb6612396aFmtTie.lean); close each card by the builder's one call (the guide's Derived/Test/ToyasCard.lean, 'card_holds'). Laid BY PROGRAM, IN A SANDBOX (cutbox-door.mjs). By AI agents, Wed Nov 11 2026. No macro, syntax, notation, axiom, sorry.
-/
import Derived.Test.Qxb6612396aFmtRows
import GoSem.ClaimSeven
namespace Go.Proofs.Qxb6612396aFmt
namespace Rows

/-- THE TOLD AND TIED CARD OF 'zzlaws_internal_sqltext_b1.FnRefuseWrapsNotSingleTable'. -/
def fnRefuseWrapsNotSingleTableCard : Claim7 := { stood := { row := fnRefuseWrapsNotSingleTableRow, standIns := [], harness := (true, "9b6ba01fb4831fc0b8949b0b3979bb01efffe7770fc80e28569e184d26cc3650"), looks := true }, told := true, laidByText := true, laidKinds := [.sentinel], laidTests := true, laidLooks := .later, goes := false }
def FnRefuseWrapsNotSingleTableToldSaid : Prop := Claim7.holds Tryf.pinned (.plain (OpenSpec.ofChange fnRefuseWrapsNotSingleTableSpec)) fnRefuseWrapsNotSingleTableCard
/-- ITS FALSE NEIGHBOUR. Refute it at one input. -/
def FnRefuseWrapsNotSingleTableToldWrongFalsely : Prop := Claim7.holds Tryf.pinned (.plain (OpenSpec.ofChange fnRefuseWrapsNotSingleTableWrong)) fnRefuseWrapsNotSingleTableCard

/-- THE TOLD AND TIED CARD OF 'zzlaws_internal_sqltext_b1.FnRefuseWithAnArgumentWrapsTheSentinelOnce'. -/
def fnRefuseWithAnArgumentWrapsTheSentinelOnceCard : Claim7 := { stood := { row := fnRefuseWithAnArgumentWrapsTheSentinelOnceRow, standIns := [], harness := (true, "9b6ba01fb4831fc0b8949b0b3979bb01efffe7770fc80e28569e184d26cc3650"), looks := true }, told := true, laidByText := true, laidKinds := [.sentinel], laidTests := true, laidLooks := .later, goes := false }
def FnRefuseWithAnArgumentWrapsTheSentinelOnceToldSaid : Prop := Claim7.holds Tryf.pinned (.plain (OpenSpec.ofChange fnRefuseWithAnArgumentWrapsTheSentinelOnceSpec)) fnRefuseWithAnArgumentWrapsTheSentinelOnceCard
/-- ITS FALSE NEIGHBOUR. Refute it at one input. -/
def FnRefuseWithAnArgumentWrapsTheSentinelOnceToldWrongFalsely : Prop := Claim7.holds Tryf.pinned (.plain (OpenSpec.ofChange fnRefuseWithAnArgumentWrapsTheSentinelOnceWrong)) fnRefuseWithAnArgumentWrapsTheSentinelOnceCard
end Rows
end Go.Proofs.Qxb6612396aFmt
