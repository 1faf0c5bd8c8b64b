/- The law's loops, taken out of the translation. -/
import Derived.Test.Qxb6609496aFmtLawMem
import Derived.Deep.LoopGhost
import Derived.Deep.AppendLies
import Derived.BigRegion
namespace Go.Proofs.Qxb6609496aFmt
open Go.RowKit

def tops : Code → List Code
  | .loop c => [c]
  | .seq a b => tops a ++ tops b
  | .block _ c => tops c
  | .scope c => tops c
  | .cond _ a b => tops a ++ tops b
  | _ => []
noncomputable def loopsOf : List Code := (Tryf.f3.body.map tops).getD []
noncomputable def body2 : Code := loopsOf.getD 1 .skip
noncomputable def body3 : Code := loopsOf.getD 2 .skip


theorem info22' : ∃ i, Tryf.prog.info? 22 = some i ∧ i.zero = some (.int .u64 0) ∧ i.size = 1 ∧ i.bytes = 8 := by
  obtain ⟨i, hi, hz⟩ := Option.map_eq_some_iff.1 info22
  simp only [Prod.mk.injEq] at hz
  exact ⟨i, hi, hz.1, hz.2.1, hz.2.2⟩

/-- Between two messages. -/
def Rel2 (B rb mb Sb id n t rd wd : Nat) (w0 : World) (k : Nat) (px py : Value) (w : World) : Prop := ∃ fp S, Inv B rb mb Sb id n t rd wd w0 w px py k fp S

end Go.Proofs.Qxb6609496aFmt
