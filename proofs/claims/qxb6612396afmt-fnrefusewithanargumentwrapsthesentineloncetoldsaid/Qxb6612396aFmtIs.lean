/- errors.Is over this program, by contracts (after the kit's SentryIs.lean, turned to this program's numbers). -/
import Derived.Test.Qxb6612396aFmtRows
import Derived.WalkKit
import Derived.LaidEql
import Derived.Stop.Asserts
import Derived.RowKitTokens
namespace Go.Proofs.Qxb6612396aFmt
open Go.RowKit Go.Extern.Stop Go.Stop Go.Extern

/-! ### CLOSED FACTS: what 'reflectlite.TypeOf(target).Comparable()' gives at such a target -/
theorem Tryf.isTypeOf (v : Value) (w : World) : (Extern.ReflectliteType.typeOf #[.iface 57 v]).run Tryf.prog w = .ok (.iface 47 (.agg #[.pointer (some ⟨1, 57, none⟩)])) w := by kernel_rfl
/-- The model's entry for (rtype).Comparable, under a name. -/
def cmpEntry : Array Value → Sem Value := Extern.ReflectliteType.method fun t => do Extern.Rtype.noPackHeld "Comparable" t; pure (.bool (← typeInfo t).comparable)
theorem Tryf.isComparable (w : World) : (cmpEntry #[.agg #[.pointer (some ⟨1, 57, none⟩)]]).run Tryf.prog w = .ok (.bool true) w := by kernel_rfl
theorem Tryf.isMethodComparable (v : Value) (w : World) : (Go.method 203 47 v "Comparable").run Tryf.prog w = .ok (38, v) w := by kernel_rfl
theorem Tryf.isComp : (Tryf.prog.info? 57).map (·.comparable) = some true := by kernel_rfl
theorem Tryf.isSize : (Tryf.prog.info? 59).map (·.size) = some 1 := by kernel_rfl

/-! ### CLOSED FACTS ON THE METHOD SETS: what errors.is's assertions find -/
theorem Tryf.noIsE (v : Value) (xT : TypeId) (w : World) : (Instr.typeAssert (.iface 57 v) xT 49 true).run Tryf.prog w = .ok (.tuple #[.nilIface, .bool false]) w := run_typeAssert_lacksB Tryf.underlying49 (by kernel_rfl) (by kernel_rfl) v xT w
theorem Tryf.noUnwrapE (v : Value) (xT : TypeId) (w : World) : (Instr.typeAssert (.iface 57 v) xT 41 true).run Tryf.prog w = .ok (.tuple #[.nilIface, .bool false]) w := run_typeAssert_lacksB Tryf.underlying41 (by kernel_rfl) (by kernel_rfl) v xT w
theorem Tryf.noUnwrapsE (v : Value) (xT : TypeId) (w : World) : (Instr.typeAssert (.iface 57 v) xT 52 true).run Tryf.prog w = .ok (.tuple #[.nilIface, .bool false]) w := run_typeAssert_lacksB Tryf.underlying52 (by kernel_rfl) (by kernel_rfl) v xT w
theorem Tryf.noIsW (v : Value) (xT : TypeId) (w : World) : (Instr.typeAssert (.iface 56 v) xT 49 true).run Tryf.prog w = .ok (.tuple #[.nilIface, .bool false]) w := run_typeAssert_lacksB Tryf.underlying49 (by kernel_rfl) (by kernel_rfl) v xT w
theorem Tryf.hasUnwrapW (v : Value) (xT : TypeId) (w : World) : (Instr.typeAssert (.iface 56 v) xT 41 true).run Tryf.prog w = .ok (.tuple #[.iface 56 v, .bool true]) w := run_typeAssert_hasB Tryf.underlying41 (by kernel_rfl) v xT w
theorem Tryf.methodUnwrap (v : Value) (w : World) : (Go.method 203 56 v "Unwrap").run Tryf.prog w = .ok (48, v) w := by kernel_rfl

/-- errors.Is(x, x), x a pointer to an errors.errorString. -/
theorem is_same (a : Addr) (w : World) :
    Calls Tryf.prog 7 #[.iface 57 (.pointer (some a)), .iface 57 (.pointer (some a))] w fun e w' => e = .returned (.bool true) ∧ w' = w := by
  obtain ⟨i, hi, hcmp⟩ := Option.map_eq_some_iff.1 Tryf.isComp
  obtain ⟨j, hj, hjs⟩ := Option.map_eq_some_iff.1 Tryf.isSize
  have h8 := @run_callFunc_extern Tryf.prog 13 _ Extern.ReflectliteType.typeOf Tryf.func13 (by kernel_rfl) (by kernel_rfl) (by kernel_rfl) (by kernel_rfl)
  have h32 := @run_callFunc_extern Tryf.prog 38 _ cmpEntry Tryf.func38 (by kernel_rfl) (by kernel_rfl) (by kernel_rfl) (by kernel_rfl)
  have tT := Tryf.isTypeOf
  have cT := Tryf.isComparable
  have mR := Tryf.isMethodComparable
  have heq := run_eql_iface_ptr_same (P := Tryf.prog) w a Tryf.underlying24 Tryf.underlying57 hi hcmp hj
  go_enter Tryf.func7, Tryf.ntmps7
  go_wp2
  refine wp_loop_rounds 1 ?_
  rw [rounds_succ]
  go_wp2
  go_ret
  exact ⟨rfl, rfl⟩

/-- errors.Is(e, x), e a *fmt.wrapError that wraps x itself: one Unwrap, then equal. -/
theorem is_wrap_same (pb po : Nat) (b : Addr) (w : World) (h1 : w.cell? ⟨pb, po + 1, none⟩ = some (.iface 57 (.pointer (some b)))) :
    Calls Tryf.prog 7 #[.iface 56 (.pointer (some ⟨pb, po, none⟩)), .iface 57 (.pointer (some b))] w fun e w' => e = .returned (.bool true) ∧ w' = w := by
  obtain ⟨i, hi, hcmp⟩ := Option.map_eq_some_iff.1 Tryf.isComp
  obtain ⟨j, hj, hjs⟩ := Option.map_eq_some_iff.1 Tryf.isSize
  have h8 := @run_callFunc_extern Tryf.prog 13 _ Extern.ReflectliteType.typeOf Tryf.func13 (by kernel_rfl) (by kernel_rfl) (by kernel_rfl) (by kernel_rfl)
  have h32 := @run_callFunc_extern Tryf.prog 38 _ cmpEntry Tryf.func38 (by kernel_rfl) (by kernel_rfl) (by kernel_rfl) (by kernel_rfl)
  have tT := Tryf.isTypeOf
  have cT := Tryf.isComparable
  have mR := Tryf.isMethodComparable
  have nE := Tryf.noIsE
  have uE := Tryf.noUnwrapE
  have vE := Tryf.noUnwrapsE
  have nW := Tryf.noIsW
  have uW := Tryf.hasUnwrapW
  have mU := Tryf.methodUnwrap
  have heq := run_eql_iface_ptr_same (P := Tryf.prog) w b Tryf.underlying24 Tryf.underlying57 hi hcmp hj
  have hty := run_eql_iface_types (P := Tryf.prog) 56 57 (.pointer (some ⟨pb, po, none⟩)) (.pointer (some b)) Tryf.underlying24 (by decide) w
  go_enter Tryf.func7, Tryf.ntmps7
  go_wp2
  refine wp_loop_rounds 2 ?_
  rw [rounds_succ]
  go_wp2
  rw [rounds_succ]
  go_wp2
  go_ret
  exact ⟨rfl, rfl⟩

/-- errors.Unwrap of a *fmt.wrapError: what its second cell holds. -/
theorem unwrap_wrap (pb po : Nat) (b : Addr) (w : World) (h1 : w.cell? ⟨pb, po + 1, none⟩ = some (.iface 57 (.pointer (some b)))) :
    Calls Tryf.prog 11 #[.iface 56 (.pointer (some ⟨pb, po, none⟩))] w fun e w' => e = .returned (.iface 57 (.pointer (some b))) ∧ w' = w := by
  have uW := Tryf.hasUnwrapW
  have mU := Tryf.methodUnwrap
  go_enter Tryf.func11, Tryf.ntmps11
  go_wp2
  go_ret
  exact ⟨rfl, rfl⟩

/-- errors.Unwrap of an error of errors.New's make: nil. -/
theorem unwrap_plain (v : Value) (w : World) :
    Calls Tryf.prog 11 #[.iface 57 v] w fun e w' => e = .returned .nilIface ∧ w' = w := by
  have uE := Tryf.noUnwrapE
  go_enter Tryf.func11, Tryf.ntmps11
  go_wp2
  go_ret
  exact ⟨rfl, rfl⟩

end Go.Proofs.Qxb6612396aFmt
