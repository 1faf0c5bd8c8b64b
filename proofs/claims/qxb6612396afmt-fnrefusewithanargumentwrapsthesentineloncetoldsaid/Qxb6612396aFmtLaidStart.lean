/- The closed facts on the sentinel, and a start in which it is laid. -/
import Derived.Test.Qxb6612396aFmtRows
import Derived.ProofKit
import Derived.Stop.JoinedAt
import Derived.Stop.Texts
import Derived.Stop.LaidErr
import Derived.Stop.JoinedTold
import Derived.WalkSmall
namespace Go.Proofs.Qxb6612396aFmt
open Go.ChangeShapes Go.WideShapes Go.ChangeAt Go.RowKit Go.Kit
open Go.Extern.Stop Go.Stop Go.Extern

theorem own : ownKnob Tryf.prog.godebug = none := by kernel_rfl
theorem laidOut : laidOutB Tryf.pinned.checked.prog = true := by kernel_rfl
theorem stops : Tryf.pinned.checked.prog.stops = ["fmt.Sprintf", "fmt.errorf"] := by kernel_rfl
theorem stopKnobs : Tryf.pinned.checked.prog.stopKnobs = [] := by kernel_rfl
theorem quiet (os : Os) : Stop.quiet Tryf.pinned.checked.prog os := by
  intro k hk
  rw [stopKnobs] at hk
  cases hk
abbrev errName : String := "example.com/mirrorlog/mirrorlog/internal/sqltext.ErrNotSingleTable"
theorem gE : Tryf.prog.globalNamed errName = some 0 := by kernel_rfl
theorem gEType : (Tryf.prog.globals[0]?).map (·.type) = some 24 := by kernel_rfl
theorem cells59 : Tryf.prog.cellsOf 59 = 1 := by kernel_rfl
theorem cells9 : Tryf.prog.cellsOf 9 = 1 := by kernel_rfl
theorem star : "*" ++ "errors.errorString" = "*errors.errorString" := by decide
theorem row57 (u : TypeId) (h : Tryf.prog.typeName? 3 u = some "*errors.errorString") : u = 57 :=
  typeName_ptr_named (nm := "errors.errorString") (by rw [star]; kernel_rfl) (by kernel_rfl) (by decide) u (by rw [star]; exact h)

abbrev errS : ByteArray := { data := #[110, 111, 116, 32, 97, 32, 99, 104, 97, 110, 103, 101, 32, 111, 102, 32, 111, 110, 101, 32, 116, 97, 98, 108, 101, 32, 105, 110, 32, 97, 32, 102, 111, 114, 109, 32, 114, 101, 97, 100, 32, 104, 101, 114, 101] }
def low (P : Program) : Nat := (World.holding P default ⟨#[], #[], []⟩).heap.size
def laidWorld (P : Program) (os : Os) : World :=
  let w0 := World.holding P os ⟨#[.cells #[.string errS] 59], #[], []⟩
  { w0 with heap := w0.heap.modify 0 fun
      | .cells _ t frozen => .cells #[.iface 57 (.pointer (some ⟨low P, 0, none⟩))] t frozen
      | o => o }
abbrev theLaid : List (String × DataW Unit) := [(errName, Rows.laid_example_com_mirrorlog_mirrorlog_internal_sqltext_ErrNotSingleTable)]
theorem laid_met (os : Os) (args : Array Value) : laidMet Tryf.prog theLaid ((laidWorld Tryf.prog os).forCall (fun _ _ => 0) ⟨#[], args, []⟩).memory :=
  laidMet_of_run (ps := [.cell 0 0, .cell (low Tryf.prog) 0]) 8 (by kernel_rfl) (by kernel_rfl) (by kernel_rfl)

end Go.Proofs.Qxb6612396aFmt
