/- The law answers true ahead of its own work. -/
import Derived.Test.Qxb6609496aFmtClone
namespace Go.Proofs.Qxb6609496aFmt
open Go.RowKit
set_option linter.unusedVariables false

set_option maxRecDepth 1000000 in
set_option maxHeartbeats 4000000 in
theorem e_a (id : Int) (n : Int) (t : Int) (i p r rd sl sc fl fc el ec vl vc : Nat) (sa : Option Addr) (fa ea va : Option Addr) (w : World) (a1 : sl ≤ 9223372036854775807) (a2 : fl ≤ 9223372036854775807) (a3 : el ≤ 9223372036854775807) (a4 : vl ≤ 9223372036854775807) (hby : 1048576 < sl + fl + el + vl) :
    Calls Tryf.prog 3 #[.int .i64 (id : Int), .int .i64 (n : Int), .int .i64 (t : Int), .int .u8 (i : Int), .int .u64 (p : Int), .int .u64 (r : Int), .slice sa sl sc, .int .u32 (rd : Int), .slice fa fl fc, .slice ea el ec, .slice va vl vc] w fun e w' => e = .returned (.bool true) ∧ w' = w := by
  go_enter Tryf.func3, Tryf.ntmps3
  go_wp2_with fail
  refine (bytes4_not _ _ _ _ _ _ _ _ _ _ _ _ _ _ _ _ _ _ _ _ a1 a2 a3 a4 hby).mono ?_
  rintro e0 w ⟨rfl, rfl⟩
  go_wp2
  go_ret
  exact ⟨rfl, rfl⟩


set_option maxRecDepth 1000000 in
set_option maxHeartbeats 4000000 in
theorem e_b1 (id : Int) (n : Int) (t : Int) (i p r rd sl sc fl fc el ec vl vc : Nat) (sa : Option Addr) (fa ea va : Option Addr) (w : World) (hby : sl + fl + el + vl ≤ 1048576) (h : 65536 < sl) :
    Calls Tryf.prog 3 #[.int .i64 (id : Int), .int .i64 (n : Int), .int .i64 (t : Int), .int .u8 (i : Int), .int .u64 (p : Int), .int .u64 (r : Int), .slice sa sl sc, .int .u32 (rd : Int), .slice fa fl fc, .slice ea el ec, .slice va vl vc] w fun e w' => e = .returned (.bool true) ∧ w' = w := by
  go_enter Tryf.func3, Tryf.ntmps3
  go_wp2_with fail
  refine (bytes4 _ _ _ _ _ _ _ _ _ _ _ _ _ _ _ _ _ _ _ _ hby).mono ?_
  rintro e0 w ⟨rfl, rfl⟩
  go_wp2
  go_ret
  exact ⟨rfl, rfl⟩


set_option maxRecDepth 1000000 in
set_option maxHeartbeats 4000000 in
theorem e_b2 (id : Int) (n : Int) (t : Int) (i p r rd sl sc fl fc el ec vl vc : Nat) (sa : Option Addr) (fa ea va : Option Addr) (w : World) (hby : sl + fl + el + vl ≤ 1048576) (hsl : sl ≤ 65536) (h : 16384 < fl) :
    Calls Tryf.prog 3 #[.int .i64 (id : Int), .int .i64 (n : Int), .int .i64 (t : Int), .int .u8 (i : Int), .int .u64 (p : Int), .int .u64 (r : Int), .slice sa sl sc, .int .u32 (rd : Int), .slice fa fl fc, .slice ea el ec, .slice va vl vc] w fun e w' => e = .returned (.bool true) ∧ w' = w := by
  go_enter Tryf.func3, Tryf.ntmps3
  go_wp2_with fail
  refine (bytes4 _ _ _ _ _ _ _ _ _ _ _ _ _ _ _ _ _ _ _ _ hby).mono ?_
  rintro e0 w ⟨rfl, rfl⟩
  go_wp2
  go_ret
  exact ⟨rfl, rfl⟩


set_option maxRecDepth 1000000 in
set_option maxHeartbeats 4000000 in
theorem e_b3 (id : Int) (n : Int) (t : Int) (i p r rd sl sc fl fc el ec vl vc : Nat) (sa : Option Addr) (fa ea va : Option Addr) (w : World) (hby : sl + fl + el + vl ≤ 1048576) (hsl : sl ≤ 65536) (hfl : fl ≤ 16384) (h : 16384 < el) :
    Calls Tryf.prog 3 #[.int .i64 (id : Int), .int .i64 (n : Int), .int .i64 (t : Int), .int .u8 (i : Int), .int .u64 (p : Int), .int .u64 (r : Int), .slice sa sl sc, .int .u32 (rd : Int), .slice fa fl fc, .slice ea el ec, .slice va vl vc] w fun e w' => e = .returned (.bool true) ∧ w' = w := by
  go_enter Tryf.func3, Tryf.ntmps3
  go_wp2_with fail
  refine (bytes4 _ _ _ _ _ _ _ _ _ _ _ _ _ _ _ _ _ _ _ _ hby).mono ?_
  rintro e0 w ⟨rfl, rfl⟩
  go_wp2
  go_ret
  exact ⟨rfl, rfl⟩


set_option maxRecDepth 1000000 in
set_option maxHeartbeats 4000000 in
theorem e_b4 (id : Int) (n : Int) (t : Int) (i p r rd sl sc fl fc el ec vl vc : Nat) (sa : Option Addr) (fa ea va : Option Addr) (w : World) (hby : sl + fl + el + vl ≤ 1048576) (hsl : sl ≤ 65536) (hfl : fl ≤ 16384) (hel : el ≤ 16384) (h : 16384 < vl) :
    Calls Tryf.prog 3 #[.int .i64 (id : Int), .int .i64 (n : Int), .int .i64 (t : Int), .int .u8 (i : Int), .int .u64 (p : Int), .int .u64 (r : Int), .slice sa sl sc, .int .u32 (rd : Int), .slice fa fl fc, .slice ea el ec, .slice va vl vc] w fun e w' => e = .returned (.bool true) ∧ w' = w := by
  go_enter Tryf.func3, Tryf.ntmps3
  go_wp2_with fail
  refine (bytes4 _ _ _ _ _ _ _ _ _ _ _ _ _ _ _ _ _ _ _ _ hby).mono ?_
  rintro e0 w ⟨rfl, rfl⟩
  go_wp2
  go_ret
  exact ⟨rfl, rfl⟩


end Go.Proofs.Qxb6609496aFmt
