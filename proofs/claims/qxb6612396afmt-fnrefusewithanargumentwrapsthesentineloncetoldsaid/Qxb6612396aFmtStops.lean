/- fmt.Sprintf at whatever format, with no operand and with one string; fmt.Errorf at the one format of this program. -/
import Derived.Test.Qxb6612396aFmtIs
import Derived.Stop.CallBack
import Derived.Stop.IfaceNil
import Derived.Stop.AnyFormat
import Derived.Stop.Texts
import Derived.WalkSpells
namespace Go.Proofs.Qxb6612396aFmt
open Go.RowKit Go.Extern.Stop Go.Stop Go.Extern

theorem call16 (args : Array Value) (w : World) : (callFunc 16 args).run Tryf.prog w = ((FmtStop.sprintf #[9, 44] #[9] args).run Tryf.prog w).andThen fun v w' => .ok (.value v) w' :=
  run_callFunc_extern Tryf.func16 (by kernel_rfl) (by kernel_rfl) (by kernel_rfl) (by kernel_rfl) args w
theorem call17 (args : Array Value) (w : World) : (callFunc 17 args).run Tryf.prog w = ((FmtStop.errorf #[9, 44] #[24] args).run Tryf.prog w).andThen fun v w' => .ok (.value v) w' :=
  run_callFunc_extern Tryf.func17 (by kernel_rfl) (by kernel_rfl) (by kernel_rfl) (by kernel_rfl) args w
theorem fguard (name : String) (w : World) : (FmtStop.guard name).run Tryf.prog w = .ok () w := by kernel_rfl

/-- "%w: %s" -/
theorem fmt0 : FmtStop.printed? ⟨#[37, 119, 58, 32, 37, 115]⟩ 2 = some [(0, 119, false), (1, 115, false)] := by kernel_rfl
theorem fmt0r (w : World) : (FmtDoors.printed ⟨#[37, 119, 58, 32, 37, 115]⟩ 2).run Tryf.prog w = .ok [(0, 119, false), (1, 115, false)] w := by kernel_rfl

def shape9 : List UInt8 := 12 :: FmtStop.pack "string".toUTF8.data.toList
theorem op9_115w (name : String) (s : ByteArray) (w : World) : (FmtStop.operand name true 115 false (.iface 9 (.string s))).run Tryf.prog w = .ok (shape9, FmtStop.pack s.data.toList) w := by kernel_rfl

theorem ptr56 (w : World) : (FmtStop.ptrTo "fmt.wrapError").run Tryf.prog w = .ok 56 w := by kernel_rfl
theorem elem56 (w : World) : (elemOf 56).run Tryf.prog w = .ok 90 w := by kernel_rfl
theorem isError57 (w : World) : (FmtDoors.textMethod 57 "Error").run Tryf.prog w = .ok true w := by kernel_rfl
def plain57 : List UInt8 := 14 :: FmtStop.pack "*errors.errorString".toUTF8.data.toList
theorem opPlain57_119w (name : String) (a : Addr) (s : ByteArray) (w : World) (hc : w.cell? a = some (.string s)) :
    (FmtStop.operand name true 119 false (.iface 57 (.pointer (some a)))).run Tryf.prog w = .ok (plain57, s.data.toList) w := by
  have h1 : (typeStr 57).run Tryf.prog w = .ok "*errors.errorString" w := by kernel_rfl
  have d2 : Tryf.t57.desc = .pointer 59 := rfl
  have d3 : Tryf.t59.desc = .named "errors.errorString" 58 := rfl
  simp [FmtStop.operand, h1, d2, d3, run_load, hc, plain57]

def errText (F : Interp) (t s : ByteArray) : ByteArray := FmtStop.textOf (F "fmt.errorf" [[37, 119, 58, 32, 37, 115], plain57, t.data.toList, shape9, FmtStop.pack s.data.toList] 0)

set_option maxHeartbeats 400000 in
theorem errorf_any (F : Interp) (b : Nat) (a : Addr) (t s : ByteArray) (w : World) (hF : F.answers w.tape) (h0 : w.cell? ⟨b, 0, none⟩ = some (.iface 57 (.pointer (some a)))) (h1 : w.cell? ⟨b, 1, none⟩ = some (.iface 9 (.string s))) (ht : w.cell? a = some (.string t)) :
    Calls Tryf.prog 15 #[.string ⟨#[37, 119, 58, 32, 37, 115]⟩, .slice (some ⟨b, 0, none⟩) 2 2] w fun e w' => e = .returned (.iface 56 (.pointer (some ⟨w.heap.size, 0, none⟩))) ∧
      w' = (w.alloc (.cells #[.string (errText F t s), .iface 57 (.pointer (some a))] 90)).drew := by
  have hF' := answers_open hF
  have hop := opPlain57_119w "fmt.errorf" a t _ ht
  have k1 := call17
  have k2 := fguard
  have k3 := fmt0r
  have k4 := op9_115w
  have k5 := ptr56
  have k6 := elem56
  have k7 := isError57
  go_enter Tryf.func15, Tryf.ntmps15
  go_wp2
  go_ret
  exact ⟨rfl, rfl⟩

end Go.Proofs.Qxb6612396aFmt
