/-
  NARROWER THAN 'FOR EVERY INPUT', by the rows' own cells (each row's printed sentence says how): FnRefuseWrapsNotSingleTable: ifaces, laid · FnRefuseWithAnArgumentWrapsTheSentinelOnce: ifaces, laid.
  DERIVED. THE GIVEN ROWS OF THIS SEAT. 2 by the template 'for every input the law returns true; each argument reads behind the call as it read before'; 0 by the template 'total and deterministic' (their statements: Qxb6612396aFmtTotals.lean).
  GIVEN WITH THE SEED: the statements are not yours to turn. If you find one false, say at which input.
  Laid BY PROGRAM, IN A SANDBOX (cutbox-rows.mjs): the forced cells as the released guide's own fill.sh prints them over the translation 08765ffaeb9e3b4c… (all of the seat's roots in one cut). By AI agents, Wed Nov 11 2026. No macro, syntax, notation, axiom, sorry.
-/
import Derived.Test.Qxb6612396aFmtChecked
import GoSem.Claim
import GoSem.ClaimJoined
import GoSem.ClaimMapViews
import Derived.JoinedTies
import Derived.KernelRfl
namespace Go.Proofs.Qxb6612396aFmt
/- THE CELL 'sum', in the pinned program and in every row, IS THE sha256 OF THE DUMP (.gsa) THAT Qxb6612396aFmtProg.lean LOADS. Nothing in Lean hashes anything: it is a label: what it is worth is what the hold of that sum in a sandbox is worth. -/
noncomputable def Tryf.pinned : Pinned := { name := "qxb6612396afmt", sum := "08765ffaeb9e3b4c76abcdc46948feb651894f56fb77959b3e11a8bf20ba754b", checked := Tryf.checked }
namespace Rows
def none {H : Type} : Left H := { results := [], args := [] }

/- WHAT THE LISTED PACKAGE-LEVEL VARIABLES READ AS WHEN THE CALL BEGINS. Each datum BY PROGRAM (the guide's laid-datum.mjs) off the statement by which the dump's own 'gosem.cut.vars' lays the variable. In a bare row this is a premise. The card (Qxb6612396aFmtCards.lean) ties it to the program's text. -/
def laid_example_com_mirrorlog_mirrorlog_internal_sqltext_ErrNotSingleTable {H : Type} : DataW H := .iface "*errors.errorString" (.ptr (.agg [.lit (.string [110, 111, 116, 32, 97, 32, 99, 104, 97, 110, 103, 101, 32, 111, 102, 32, 111, 110, 101, 32, 116, 97, 98, 108, 101, 32, 105, 110, 32, 97, 32, 102, 111, 114, 109, 32, 114, 101, 97, 100, 32, 104, 101, 114, 101])]))

/-- 'zzlaws_internal_sqltext_b1.FnRefuseWrapsNotSingleTable': WHATEVER THE INPUT: true; the input reads as it did. -/
def fnRefuseWrapsNotSingleTableSpec : ChangeSpec := { name := "fnRefuseWrapsNotSingleTable", vars := ["example.com/mirrorlog/mirrorlog/internal/sqltext.ErrNotSingleTable"], fn := fun _ => fun
  | [d1, d2, d3, g1] => { results := [.lit (.bool true)], args := [d1, d2, d3], vars := [g1] }
  | _ => none }
def fnRefuseWrapsNotSingleTableRow : OpenClaim := { program := "qxb6612396afmt", sum := "08765ffaeb9e3b4c76abcdc46948feb651894f56fb77959b3e11a8bf20ba754b", func := "example.com/mirrorlog/mirrorlog/zzlaws_internal_sqltext_b1.FnRefuseWrapsNotSingleTable", spec := "fnRefuseWrapsNotSingleTable", stops := ["fmt.Sprintf", "fmt.errorf"], inPlace := ["fmt.Sprintf", "fmt.errorf", "internal/reflectlite.TypeOf"], unfollowed := true, recurses := true, named := ["example.com/mirrorlog/mirrorlog/internal/sqltext.ErrNotSingleTable"], ifaces := true, apart := false, laid := [("example.com/mirrorlog/mirrorlog/internal/sqltext.ErrNotSingleTable", laid_example_com_mirrorlog_mirrorlog_internal_sqltext_ErrNotSingleTable)] }
/-- NO THEOREM (fmt's text is open here; it may be false): for the released tool's asking of the row's closed facts alone. THE STATEMENT IS 'FnRefuseWrapsNotSingleTableToldSaid' (Qxb6612396aFmtCards.lean). -/
def FnRefuseWrapsNotSingleTableFormAsk : Prop := fnRefuseWrapsNotSingleTableRow.holds Tryf.pinned (OpenSpec.ofChange fnRefuseWrapsNotSingleTableSpec)

/-- ITS FALSE NEIGHBOUR: 'it returns false'. Refute it at one input. -/
def fnRefuseWrapsNotSingleTableWrong : ChangeSpec := { name := "fnRefuseWrapsNotSingleTable", vars := ["example.com/mirrorlog/mirrorlog/internal/sqltext.ErrNotSingleTable"], fn := fun _ => fun
  | [d1, d2, d3, g1] => { results := [.lit (.bool false)], args := [d1, d2, d3], vars := [g1] }
  | _ => none }
def FnRefuseWrapsNotSingleTableWrongFormAsk : Prop := fnRefuseWrapsNotSingleTableRow.holds Tryf.pinned (OpenSpec.ofChange fnRefuseWrapsNotSingleTableWrong)

/-- 'zzlaws_internal_sqltext_b1.FnRefuseWithAnArgumentWrapsTheSentinelOnce': WHATEVER THE INPUT: true; the input reads as it did. -/
def fnRefuseWithAnArgumentWrapsTheSentinelOnceSpec : ChangeSpec := { name := "fnRefuseWithAnArgumentWrapsTheSentinelOnce", vars := ["example.com/mirrorlog/mirrorlog/internal/sqltext.ErrNotSingleTable"], fn := fun _ => fun
  | [d1, d2, d3, d4, g1] => { results := [.lit (.bool true)], args := [d1, d2, d3, d4], vars := [g1] }
  | _ => none }
def fnRefuseWithAnArgumentWrapsTheSentinelOnceRow : OpenClaim := { program := "qxb6612396afmt", sum := "08765ffaeb9e3b4c76abcdc46948feb651894f56fb77959b3e11a8bf20ba754b", func := "example.com/mirrorlog/mirrorlog/zzlaws_internal_sqltext_b1.FnRefuseWithAnArgumentWrapsTheSentinelOnce", spec := "fnRefuseWithAnArgumentWrapsTheSentinelOnce", stops := ["fmt.Sprintf", "fmt.errorf"], inPlace := ["fmt.Sprintf", "fmt.errorf", "internal/reflectlite.TypeOf"], unfollowed := true, recurses := true, named := ["example.com/mirrorlog/mirrorlog/internal/sqltext.ErrNotSingleTable"], ifaces := true, apart := false, laid := [("example.com/mirrorlog/mirrorlog/internal/sqltext.ErrNotSingleTable", laid_example_com_mirrorlog_mirrorlog_internal_sqltext_ErrNotSingleTable)] }
/-- NO THEOREM (fmt's text is open here; it may be false): for the released tool's asking of the row's closed facts alone. THE STATEMENT IS 'FnRefuseWithAnArgumentWrapsTheSentinelOnceToldSaid' (Qxb6612396aFmtCards.lean). -/
def FnRefuseWithAnArgumentWrapsTheSentinelOnceFormAsk : Prop := fnRefuseWithAnArgumentWrapsTheSentinelOnceRow.holds Tryf.pinned (OpenSpec.ofChange fnRefuseWithAnArgumentWrapsTheSentinelOnceSpec)

/-- ITS FALSE NEIGHBOUR: 'it returns false'. Refute it at one input. -/
def fnRefuseWithAnArgumentWrapsTheSentinelOnceWrong : ChangeSpec := { name := "fnRefuseWithAnArgumentWrapsTheSentinelOnce", vars := ["example.com/mirrorlog/mirrorlog/internal/sqltext.ErrNotSingleTable"], fn := fun _ => fun
  | [d1, d2, d3, d4, g1] => { results := [.lit (.bool false)], args := [d1, d2, d3, d4], vars := [g1] }
  | _ => none }
def FnRefuseWithAnArgumentWrapsTheSentinelOnceWrongFormAsk : Prop := fnRefuseWithAnArgumentWrapsTheSentinelOnceRow.holds Tryf.pinned (OpenSpec.ofChange fnRefuseWithAnArgumentWrapsTheSentinelOnceWrong)

end Rows
end Go.Proofs.Qxb6612396aFmt
