/- (*tally).add. -/
import Derived.Test.Qxb6609496aFmtLeaf
import Derived.Deep.RegionHeld3
import Derived.Deep.RegionWith
import Derived.Deep.DrawnRows
namespace Go.Proofs.Qxb6609496aFmt
open Go.RowKit
attribute [local go_sem ↓] Go.wp_at_zero Go.wp_at_succ

set_option maxHeartbeats 400000 in
theorem add_full (tb to f c q v : Nat) (w : World) (hc : w.cell? ⟨tb, to + 1, none⟩ = some (.int .i64 (c : Int))) (hq : q ≤ c) :
    Calls Tryf.prog 31 #[.pointer (some ⟨tb, to, none⟩), .int .i64 f, .int .u32 v, .int .i64 q] w fun e w' => e = .returned (.bool false) ∧ ∃ n, w' = w.drewN n := by
  go_enter Tryf.func31, Tryf.ntmps31
  go_wp2
  go_ret
  exact ⟨rfl, 0, rfl⟩

set_option maxHeartbeats 400000 in
theorem add_heard (tb to hb ho wd f x c q v : Nat) (w : World) (h1 : 1 ≤ f) (h2 : f ≤ 65536) (hw : (f - 1) / 64 < wd)
    (hs : w.cell? ⟨tb, to, none⟩ = some (.slice (some ⟨hb, ho, none⟩) wd wd)) (hx : w.cell? ⟨hb, ho + (f - 1) / 64, none⟩ = some (.int .u64 (x : Int))) (hx' : x < 18446744073709551616)
    (hc : w.cell? ⟨tb, to + 1, none⟩ = some (.int .i64 (c : Int))) (hq : c < q) (hbit : bitOf x f = true) :
    Calls Tryf.prog 31 #[.pointer (some ⟨tb, to, none⟩), .int .i64 f, .int .u32 v, .int .i64 q] w fun e w' => e = .returned (.bool false) ∧ ∃ n, w' = w.drewN n := by
  go_enter Tryf.func31, Tryf.ntmps31
  go_wp2_with fail
  refine (has_any tb to hb ho wd f x _ h1 h2 hw hs hx hx').mono ?_
  rintro e w' ⟨rfl, n, rfl⟩
  go_wp2
  go_ret
  exact ⟨rfl, n, rfl⟩

set_option maxHeartbeats 1000000 in
theorem add_new (tb to hb ho wd f x c q v : Nat) (w : World) (h1 : 1 ≤ f) (h2 : f ≤ 65536) (hw : (f - 1) / 64 < wd) (hne : tb ≠ hb)
    (hs : w.cell? ⟨tb, to, none⟩ = some (.slice (some ⟨hb, ho, none⟩) wd wd)) (hx : w.cell? ⟨hb, ho + (f - 1) / 64, none⟩ = some (.int .u64 (x : Int))) (hx' : x < 18446744073709551616)
    (hfx : w.frozen? ⟨hb, ho + (f - 1) / 64, none⟩ = false) (hfc : w.frozen? ⟨tb, to + 1, none⟩ = false)
    (hc : w.cell? ⟨tb, to + 1, none⟩ = some (.int .i64 (c : Int))) (hq : c < q) (hc' : c ≤ 1000000) (hbit0 : bitOf x f = false) (hv : 1 < v) :
    Calls Tryf.prog 31 #[.pointer (some ⟨tb, to, none⟩), .int .i64 f, .int .u32 v, .int .i64 q] w fun e w' => e = .returned (.bool true) ∧
      ∃ n, w' = ((w.setCell ⟨hb, ho + (f - 1) / 64, none⟩ (.int .u64 ((x ||| hbit f : Nat) : Int))).setCell ⟨tb, to + 1, none⟩ (.int .i64 ((c : Int) + 1))).drewN n := by
  have hb1 : ((f : Int) - 1) / 64 < (wd : Int) := by omega
  have hb0 : (0 : Int) ≤ ((f : Int) - 1) / 64 := by omega
  have ho' := or_hbit x f hx'
  have r1 : IntKind.i64.wrap ((f : Int) - 1) = (f : Int) - 1 := by rw [IntKind.wrap_i64]; omega
  have r2 : IntKind.i64.wrap (((f : Int) - 1).tdiv 64) = ((f : Int) - 1) / 64 := by rw [IntKind.wrap_i64, Int.tdiv_eq_ediv_of_nonneg (by omega)]; omega
  have r3 : (((f : Int) - 1) / 64).toNat = (f - 1) / 64 := by omega
  go_enter Tryf.func31, Tryf.ntmps31
  go_wp2_with fail
  refine (has_any tb to hb ho wd f x _ h1 h2 hw hs hx hx').mono ?_
  rintro e w' ⟨rfl, n, rfl⟩
  go_wp2_with fail
  go_region_with (first | (go_at_call 33; refine (heardBit_any _ _ h1 h2).mono ?_; rintro e w' ⟨rfl, rfl⟩))
  all_goals
    go_wp2
    go_ret
    exact ⟨rfl, _, rfl⟩

set_option maxHeartbeats 1000000 in
theorem add_vote (tb to hb ho wd f x c q v y : Nat) (w : World) (h1 : 1 ≤ f) (h2 : f ≤ 65536) (hw : (f - 1) / 64 < wd) (hne : tb ≠ hb)
    (hs : w.cell? ⟨tb, to, none⟩ = some (.slice (some ⟨hb, ho, none⟩) wd wd)) (hx : w.cell? ⟨hb, ho + (f - 1) / 64, none⟩ = some (.int .u64 (x : Int))) (hx' : x < 18446744073709551616)
    (hfx : w.frozen? ⟨hb, ho + (f - 1) / 64, none⟩ = false) (hfc : w.frozen? ⟨tb, to + 1, none⟩ = false)
    (hc : w.cell? ⟨tb, to + 1, none⟩ = some (.int .i64 (c : Int))) (hq : c < q) (hc' : c ≤ 1000000) (hbit0 : bitOf x f = false) (hv : v ≤ 1) (hy : w.cell? ⟨tb, to + 2 + v, none⟩ = some (.int .i64 (y : Int))) (hfy : w.frozen? ⟨tb, to + 2 + v, none⟩ = false) (hy' : y ≤ 1000000) :
    Calls Tryf.prog 31 #[.pointer (some ⟨tb, to, none⟩), .int .i64 f, .int .u32 v, .int .i64 q] w fun e w' => e = .returned (.bool true) ∧
      ∃ n, w' = (((w.setCell ⟨hb, ho + (f - 1) / 64, none⟩ (.int .u64 ((x ||| hbit f : Nat) : Int))).setCell ⟨tb, to + 1, none⟩ (.int .i64 ((c : Int) + 1))).setCell ⟨tb, to + 2 + v, none⟩ (.int .i64 ((y : Int) + 1))).drewN n := by
  have hb1 : ((f : Int) - 1) / 64 < (wd : Int) := by omega
  have hb0 : (0 : Int) ≤ ((f : Int) - 1) / 64 := by omega
  have ho' := or_hbit x f hx'
  have hv1 : (v : Int) < 2 := by omega
  have hv0 : (0 : Int) ≤ (v : Int) := by omega
  have hne1 : ¬ (to + 2 + v = to + 1) := by omega
  have hne2 : ¬ (to + 1 = to + 2 + v) := by omega
  have r1 : IntKind.i64.wrap ((f : Int) - 1) = (f : Int) - 1 := by rw [IntKind.wrap_i64]; omega
  have r2 : IntKind.i64.wrap (((f : Int) - 1).tdiv 64) = ((f : Int) - 1) / 64 := by rw [IntKind.wrap_i64, Int.tdiv_eq_ediv_of_nonneg (by omega)]; omega
  have r3 : (((f : Int) - 1) / 64).toNat = (f - 1) / 64 := by omega
  go_enter Tryf.func31, Tryf.ntmps31
  go_wp2_with fail
  refine (has_any tb to hb ho wd f x _ h1 h2 hw hs hx hx').mono ?_
  rintro e w' ⟨rfl, n, rfl⟩
  go_wp2_with fail
  go_region_with (first | (go_at_call 33; refine (heardBit_any _ _ h1 h2).mono ?_; rintro e w' ⟨rfl, rfl⟩))
  all_goals
    go_wp2
    go_region
    go_wp2
    go_ret
    exact ⟨rfl, n + 2, rfl⟩

end Go.Proofs.Qxb6609496aFmt
