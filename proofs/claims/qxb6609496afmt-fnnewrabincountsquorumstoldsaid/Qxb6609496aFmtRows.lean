/-
  No cell of these rows narrows 'for every input' (looked for: loops, veiled, ifaces, maps, wideKeys, modest, calm, conditions, laid).
  DERIVED. THE GIVEN ROWS OF THIS SEAT. 1 by the template 'for every input the law returns true; each argument reads behind the call as it read before'; 0 by the template 'total and deterministic' (their statements: Qxb6609496aFmtTotals.lean).
  GIVEN WITH THE SEED: the statements are not yours to turn. If you find one false, say at which input.
  Laid BY PROGRAM, IN A SANDBOX (cutbox-rows.mjs): the forced cells as the released guide's own fill.sh prints them over the translation b483c50252c33e76… (all of the seat's roots in one cut). By AI agents, Wed Nov 11 2026. No macro, syntax, notation, axiom, sorry.
-/
import Derived.Test.Qxb6609496aFmtChecked
import GoSem.Claim
import GoSem.ClaimJoined
import GoSem.ClaimMapViews
import Derived.JoinedTies
import Derived.KernelRfl
namespace Go.Proofs.Qxb6609496aFmt
/- THE CELL 'sum', in the pinned program and in every row, IS THE sha256 OF THE DUMP (.gsa) THAT Qxb6609496aFmtProg.lean LOADS. Nothing in Lean hashes anything: it is a label: what it is worth is what the hold of that sum in a sandbox is worth. -/
noncomputable def Tryf.pinned : Pinned := { name := "qxb6609496afmt", sum := "b483c50252c33e76ef19e7c0aa818f964dbfbfa43aee8f5f81b197682f332810", checked := Tryf.checked }
namespace Rows
def none {H : Type} : Left H := { results := [], args := [] }

/-- 'zzlaws_protocol_b1.FnNewRabinCountsQuorums': WHATEVER THE INPUT: true; the input reads as it did. -/
def fnNewRabinCountsQuorumsSpec : ChangeSpec := { name := "fnNewRabinCountsQuorums", fn := fun _ => fun
  | [d1, d2, d3, d4, d5, d6, d7, d8, d9, d10, d11] => { results := [.lit (.bool true)], args := [d1, d2, d3, d4, d5, d6, d7, d8, d9, d10, d11] }
  | _ => none }
def fnNewRabinCountsQuorumsRow : OpenClaim := { program := "qxb6609496afmt", sum := "b483c50252c33e76ef19e7c0aa818f964dbfbfa43aee8f5f81b197682f332810", func := "example.com/concordice/concordice/zzlaws_protocol_b1.FnNewRabinCountsQuorums", spec := "fnNewRabinCountsQuorums", stops := ["fmt.errorf"], inPlace := ["fmt.errorf"], unfollowed := true, recurses := true, apart := false }
/-- NO THEOREM (fmt's text is open here; it may be false): for the released tool's asking of the row's closed facts alone. THE STATEMENT IS 'FnNewRabinCountsQuorumsToldSaid' (Qxb6609496aFmtCards.lean). -/
def FnNewRabinCountsQuorumsFormAsk : Prop := fnNewRabinCountsQuorumsRow.holds Tryf.pinned (OpenSpec.ofChange fnNewRabinCountsQuorumsSpec)

/-- ITS FALSE NEIGHBOUR: 'it returns false'. Refute it at one input. -/
def fnNewRabinCountsQuorumsWrong : ChangeSpec := { name := "fnNewRabinCountsQuorums", fn := fun _ => fun
  | [d1, d2, d3, d4, d5, d6, d7, d8, d9, d10, d11] => { results := [.lit (.bool false)], args := [d1, d2, d3, d4, d5, d6, d7, d8, d9, d10, d11] }
  | _ => none }
def FnNewRabinCountsQuorumsWrongFormAsk : Prop := fnNewRabinCountsQuorumsRow.holds Tryf.pinned (OpenSpec.ofChange fnNewRabinCountsQuorumsWrong)

end Rows
end Go.Proofs.Qxb6609496aFmt
