/- Contracts: Request.Milli, askOf, ZZaskOf. -/
import Derived.Test.Qxb6612460aRows
import Derived.WalkKit
import Derived.Deep.RegionWith
import Derived.Deep.QuietTactic
import Derived.BigQuiet
import Derived.WalkSmall
import Derived.Deep.RegionHeld3
namespace Go.Proofs.Qxb6612460a
open Go.RowKit

def req (c m g s b p : Int) (isl : Bool) (st : ByteArray) : Array Value :=
  #[.int .i64 c, .int .i64 m, .int .i64 g, .int .i64 s, .int .i64 b, .int .i64 p, .bool isl, .string st]
def mil (s : Int) : Int := if 0 < s then s else 1000

set_option maxHeartbeats 400000 in
theorem milli_any (c m g s b p : Int) (isl : Bool) (st : ByteArray) (w : World) :
    Calls Try.prog 10 #[.agg #[.int .i64 c, .int .i64 m, .int .i64 g, .int .i64 s, .int .i64 b, .int .i64 p, .bool isl, .string st]] w fun e w' => e = .returned (.int .i64 (mil s)) ∧
      w' = w.alloc (.cells #[.int .i64 c, .int .i64 m, .int .i64 g, .int .i64 s, .int .i64 b, .int .i64 p, .bool isl, .string st] 26) := by
  by_cases h : 0 < s
  · have e1 : mil s = s := by simp [mil, h]
    rw [e1]
    clear e1
    go_enter Try.func10, Try.ntmps10
    go_wp2
    go_ret
    exact ⟨rfl, rfl⟩
  · have e1 : mil s = 1000 := by simp [mil, h]
    rw [e1]
    clear e1
    go_enter Try.func10, Try.ntmps10
    go_wp2
    go_ret
    exact ⟨rfl, rfl⟩

set_option maxHeartbeats 400000 in
theorem ask_any (c m g s b p : Int) (isl : Bool) (st : ByteArray) (w : World) :
    Calls Try.prog 8 #[.agg #[.int .i64 c, .int .i64 m, .int .i64 g, .int .i64 s, .int .i64 b, .int .i64 p, .bool isl, .string st]] w fun e w' => e = .returned (.agg #[.int .i64 g, .int .i64 (mil s), .string st]) ∧
      w' = (((w.alloc (.cells #[.int .i64 c, .int .i64 m, .int .i64 g, .int .i64 s, .int .i64 b, .int .i64 p, .bool isl, .string st] 26)).alloc (.cells #[.int .i64 g, .int .i64 (mil s), .string st] 31)).alloc (.cells #[.int .i64 c, .int .i64 m, .int .i64 g, .int .i64 s, .int .i64 b, .int .i64 p, .bool isl, .string st] 26)).drew := by
  go_enter Try.func8, Try.ntmps8
  go_wp2_with fail
  go_region_held3 (fun w' => w'.cell? ⟨w.heap.size, 0, none⟩ = some (.int .i64 c) ∧ w'.cell? ⟨w.heap.size, 1, none⟩ = some (.int .i64 m) ∧ w'.cell? ⟨w.heap.size, 2, none⟩ = some (.int .i64 g) ∧ w'.cell? ⟨w.heap.size, 3, none⟩ = some (.int .i64 s) ∧ w'.cell? ⟨w.heap.size, 4, none⟩ = some (.int .i64 b) ∧ w'.cell? ⟨w.heap.size, 5, none⟩ = some (.int .i64 p) ∧ w'.cell? ⟨w.heap.size, 6, none⟩ = some (.bool isl) ∧ w'.cell? ⟨w.heap.size, 7, none⟩ = some (.string st)) (go_keep)
    (first | (go_at_call 10; refine (milli_any _ _ _ _ _ _ _ _ _).mono ?_; rintro e w' ⟨rfl, rfl⟩))
  go_wp2
  exact bodyPost_ret (v := .agg #[.int .i64 g, .int .i64 (mil s), .string st]) (by simp [results, Try.results8, go_sem]) rfl ⟨rfl, rfl⟩

theorem below_new {w w1 : World} (h : Below w.heap.size w w1) (o : Obj) : Below w.heap.size w (w1.alloc o) := h.alloc h.size o

theorem mil_ne {a b : Int} (ha : 0 ≤ a) (hb : 0 ≤ b) (ha' : a < 1000) (hb' : b < 1000) (h : ¬ a = b) : (mil a == mil b) = false := by
  unfold mil
  simp
  split <;> split <;> omega

theorem grown_tr {a b c : World} (h : Grown a b) (k : Grown b c) : Grown a c :=
  ⟨World.keptBut_trans h.1 k.1, fun x => (k.2.1 x).trans (h.2.1 x), Nat.le_trans h.2.2 k.2.2⟩
theorem grown_drewN {a b : World} (h : Grown a b) (n : Nat) : Grown a (b.drewN n) := h
theorem bcell {W w1 : World} (hb : Below W.heap.size W w1) : (∀ b o, b < W.heap.size → w1.cell? ⟨b, o, none⟩ = W.cell? ⟨b, o, none⟩) :=
  fun b o h => hb.cell (p := ⟨b, o, none⟩) h

set_option maxHeartbeats 400000 in
theorem zzask_any (c m g s b p : Int) (isl : Bool) (st : ByteArray) (w : World) :
    Calls Try.prog 6 #[.agg #[.int .i64 c, .int .i64 m, .int .i64 g, .int .i64 s, .int .i64 b, .int .i64 p, .bool isl, .string st]] w fun e w' => e = .returned (.tuple #[.int .i64 g, .int .i64 (mil s), .string st]) ∧
      Below w.heap.size w w' ∧ Grown w w' := by
  go_enter Try.func6, Try.ntmps6
  go_wp2_with (go_at_call 8; refine (ask_any _ _ _ _ _ _ _ _ _).mono ?_; rintro e w' ⟨rfl, rfl⟩)
  go_quiet (fail)
  go_wp2
  go_ret3
  exact ⟨rfl, below_drewN (below_new (below_new (below_new (below_new (below_new (Below.refl _ _) _) _) _) _) _).drew _, grown_drewN (((((((Grown.refl _).alloc _ _).alloc _ _).alloc _ _).alloc _ _).alloc _ _).drew) _⟩

end Go.Proofs.Qxb6612460a
