/- Contracts: internal/bytealg.CompareString, strings.Compare, byKey, ZZbyKey, ZZentryStr. -/
import Derived.Test.Qxb6609549aRows
import Derived.WalkKit
import Derived.Lib.Strings
import Derived.Lib.Slices
import Derived.Lib.Walk
import Derived.Lib.Bytealg
namespace Go.Proofs.Qxb6609549a
open Go.RowKit

set_option maxHeartbeats 1000000 in
set_option maxRecDepth 100000 in
theorem compareString_any (a b : ByteArray) (w : World) :
    Calls Try.prog 20 #[.string a, .string b] w fun e w' => e = .returned (.int .i64 (Lib.compareBytes a.data.toList b.data.toList)) ∧ w' = w := by
  go_enter Try.func20, Try.ntmps20
  go_wp2
  rw [run_callFunc_extern Try.func21 (by kernel_rfl) (by kernel_rfl) (by kernel_rfl) (e := Extern.BytealgCompare.compare) (by kernel_rfl), Lib.run_compareString]
  simp only [Result.andThen]
  rw [Oper.upon_value]
  go_wp2
  go_ret
  exact ⟨rfl, rfl⟩

def cmpB (a b : ByteArray) : Int := Lib.compareBytes a.data.toList b.data.toList

set_option maxHeartbeats 400000 in
theorem compare_any (a b : ByteArray) (w : World) :
    Calls Try.prog 19 #[.string a, .string b] w fun e w' => e = .returned (.int .i64 (cmpB a b)) ∧ w' = w := by
  go_enter Try.func19, Try.ntmps19
  go_wp2_with (go_at_call 20; refine (compareString_any _ _ _).mono ?_; rintro e w' ⟨rfl, rfl⟩)
  go_ret
  exact ⟨rfl, rfl⟩

set_option maxHeartbeats 400000 in
theorem byKey_any (a va b vb : ByteArray) (w : World) :
    Calls Try.prog 18 #[.agg #[.string a, .iface 9 (.string va)], .agg #[.string b, .iface 9 (.string vb)]] w fun e w' => e = .returned (.int .i64 (cmpB a b)) ∧
      w' = (w.alloc (.cells #[.string a, .iface 9 (.string va)] 29)).alloc (.cells #[.string b, .iface 9 (.string vb)] 29) := by
  go_enter Try.func18, Try.ntmps18
  go_wp2_with (go_at_call 19; refine (compare_any _ _ _).mono ?_; rintro e w' ⟨rfl, rfl⟩)
  go_ret
  exact ⟨rfl, rfl⟩

set_option maxHeartbeats 400000 in
theorem zzByKey_any (a va b vb : ByteArray) (w : World) :
    Calls Try.prog 14 #[.agg #[.string a, .iface 9 (.string va)], .agg #[.string b, .iface 9 (.string vb)]] w fun e w' => e = .returned (.int .i64 (cmpB a b)) ∧
      w' = (((w.alloc (.cells #[.string a, .iface 9 (.string va)] 29)).alloc (.cells #[.string b, .iface 9 (.string vb)] 29)).alloc (.cells #[.string a, .iface 9 (.string va)] 29)).alloc (.cells #[.string b, .iface 9 (.string vb)] 29) := by
  go_enter Try.func14, Try.ntmps14
  go_wp2_with (go_at_call 18; refine (byKey_any _ _ _ _ _).mono ?_; rintro e w' ⟨rfl, rfl⟩)
  go_ret
  exact ⟨rfl, rfl⟩

set_option maxHeartbeats 400000 in
theorem entry_any (k v : ByteArray) (w : World) :
    Calls Try.prog 10 #[.string k, .string v] w fun e w' => e = .returned (.agg #[.string k, .iface 9 (.string v)]) ∧
      w' = w.alloc (.cells #[.string k, .iface 9 (.string v)] 29) := by
  go_enter Try.func10, Try.ntmps10
  go_wp2
  exact bodyPost_ret (v := .agg #[.string k, .iface 9 (.string v)]) (by simp [results, Try.results10, go_sem]) rfl ⟨rfl, rfl⟩

end Go.Proofs.Qxb6609549a
