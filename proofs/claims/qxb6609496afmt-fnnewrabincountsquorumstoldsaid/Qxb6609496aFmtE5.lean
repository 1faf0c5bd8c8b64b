/- The law answers true ahead of its own work. -/
import Derived.Test.Qxb6609496aFmtClone
namespace Go.Proofs.Qxb6609496aFmt
open Go.RowKit
set_option linter.unusedVariables false

set_option maxRecDepth 1000000 in
set_option maxHeartbeats 4000000 in
theorem e_g1 (id : Nat) (n : Nat) (t : Nat) (i p r rd sl sc fl fc el ec vl vc : Nat) (sb so : Nat) (zs : List Nat) (fa ea va : Option Addr) (w : World) (hby : sl + fl + el + vl ≤ 1048576) (hsl : sl ≤ 65536) (hfl : fl ≤ 16384) (hel : el ≤ 16384) (hvl : vl ≤ 16384) (hn1 : 1 ≤ n) (hn : n ≤ 65536) (HP64 : Hid (p < 18446744073709551616)) (ht : 10 * t < n) (hi : i ≤ 1) (hid1 : 1 ≤ id) (hidn : id ≤ n) (hnp : n < p) (hsl1 : 1 ≤ sl) (HZL : Hid (sl ≤ zs.length)) (HZ : Hid (∀ j, j < sl → w.cell? ⟨sb, so + j, none⟩ = some (.int .u64 ((zs.getD j 0 : Nat) : Int)))) (h : ((el : Int) != (fl : Int)) = true) :
    Calls Tryf.prog 3 #[.int .i64 (id : Int), .int .i64 (n : Int), .int .i64 (t : Int), .int .u8 (i : Int), .int .u64 (p : Int), .int .u64 (r : Int), .slice (some ⟨sb, so, none⟩) sl sc, .int .u32 (rd : Int), .slice fa fl fc, .slice ea el ec, .slice va vl vc] w fun e w' => e = .returned (.bool true) ∧ w' = w := by
  go_enter Tryf.func3, Tryf.ntmps3
  go_wp2_with fail
  refine (bytes4 _ _ _ _ _ _ _ _ _ _ _ _ _ _ _ _ _ _ _ _ hby).mono ?_
  rintro e0 w ⟨rfl, rfl⟩
  go_wp2_with fail
  refine (fieldFits_any p r _ HP64.out).mono ?_
  rintro e1 w ⟨rfl | ⟨rfl, hp2, hp32⟩, rfl⟩
  · go_wp2
    go_ret
    exact ⟨rfl, rfl⟩
  have hd : decide (10 * t < n) = true := by simp; omega
  go_wp2_with fail
  refine (above_any n t _ hn).mono ?_
  rw [hd]
  rintro e2 w ⟨rfl, rfl⟩
  clear hd
  go_wp2_with fail
  refine (allBelow_any sb so sl sc p zs _ HZL.out hsl HP64.out HZ.out).mono ?_
  rintro e3 w ⟨rfl | ⟨rfl, hall⟩, rfl⟩
  · go_wp2
    go_ret
    exact ⟨rfl, rfl⟩
  clear hall
  go_wp2
  go_ret
  exact ⟨rfl, rfl⟩


set_option maxRecDepth 1000000 in
set_option maxHeartbeats 4000000 in
theorem e_g2 (id : Nat) (n : Nat) (t : Nat) (i p r rd sl sc fl fc el ec vl vc : Nat) (sb so : Nat) (zs : List Nat) (fa ea va : Option Addr) (w : World) (hby : sl + fl + el + vl ≤ 1048576) (hsl : sl ≤ 65536) (hfl : fl ≤ 16384) (hel : el ≤ 16384) (hvl : vl ≤ 16384) (hn1 : 1 ≤ n) (hn : n ≤ 65536) (HP64 : Hid (p < 18446744073709551616)) (ht : 10 * t < n) (hi : i ≤ 1) (hid1 : 1 ≤ id) (hidn : id ≤ n) (hnp : n < p) (hsl1 : 1 ≤ sl) (HZL : Hid (sl ≤ zs.length)) (HZ : Hid (∀ j, j < sl → w.cell? ⟨sb, so + j, none⟩ = some (.int .u64 ((zs.getD j 0 : Nat) : Int)))) (h0 : ((el : Int) != (fl : Int)) = false) (h : ((vl : Int) != (fl : Int)) = true) :
    Calls Tryf.prog 3 #[.int .i64 (id : Int), .int .i64 (n : Int), .int .i64 (t : Int), .int .u8 (i : Int), .int .u64 (p : Int), .int .u64 (r : Int), .slice (some ⟨sb, so, none⟩) sl sc, .int .u32 (rd : Int), .slice fa fl fc, .slice ea el ec, .slice va vl vc] w fun e w' => e = .returned (.bool true) ∧ w' = w := by
  go_enter Tryf.func3, Tryf.ntmps3
  go_wp2_with fail
  refine (bytes4 _ _ _ _ _ _ _ _ _ _ _ _ _ _ _ _ _ _ _ _ hby).mono ?_
  rintro e0 w ⟨rfl, rfl⟩
  go_wp2_with fail
  refine (fieldFits_any p r _ HP64.out).mono ?_
  rintro e1 w ⟨rfl | ⟨rfl, hp2, hp32⟩, rfl⟩
  · go_wp2
    go_ret
    exact ⟨rfl, rfl⟩
  have hd : decide (10 * t < n) = true := by simp; omega
  go_wp2_with fail
  refine (above_any n t _ hn).mono ?_
  rw [hd]
  rintro e2 w ⟨rfl, rfl⟩
  clear hd
  go_wp2_with fail
  refine (allBelow_any sb so sl sc p zs _ HZL.out hsl HP64.out HZ.out).mono ?_
  rintro e3 w ⟨rfl | ⟨rfl, hall⟩, rfl⟩
  · go_wp2
    go_ret
    exact ⟨rfl, rfl⟩
  clear hall
  go_wp2
  go_ret
  exact ⟨rfl, rfl⟩


end Go.Proofs.Qxb6609496aFmt
