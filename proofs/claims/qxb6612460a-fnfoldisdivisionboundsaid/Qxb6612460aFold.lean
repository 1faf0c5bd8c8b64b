/- alloc.fold and ZZfold: whether a * j ≤ l. -/
import Derived.Test.Qxb6612460aMul
namespace Go.Proofs.Qxb6612460a
open Go.RowKit Go.Lib

def Hi (x : Nat) : Nat := x / 18446744073709551616
def Lo (x : Nat) : Nat := x % 18446744073709551616
theorem hi_lo (x : Nat) : x = Hi x * 18446744073709551616 + Lo x := by unfold Hi Lo; omega
theorem mul64_hl (x y : Nat) (hx : x ≤ 9223372036854775807) (hy : y ≤ 9223372036854775807) (w : World) :
    Calls Try.prog 9 #[.int .u64 x, .int .u64 y] w fun e w' => e = .returned (.tuple #[.int .u64 ((Hi (x * y) : Nat) : Int), .int .u64 ((Lo (x * y) : Nat) : Int)]) ∧ w' = w :=
  mul64_any x y (by omega) (by omega) w

theorem big_no (m l : Nat) (h0 : Hi m = 0) (h1 : Lo m ≤ l) : m ≤ l := by have := hi_lo m; omega

set_option maxHeartbeats 400000 in
theorem fold_any (a j l : Nat) (ha : a ≤ 9223372036854775807) (hj : j ≤ 9223372036854775807) (hl : l ≤ 9223372036854775807) (w : World) :
    Calls Try.prog 7 #[.int .i64 a, .int .i64 j, .int .i64 l] w fun e w' => e = .returned (.bool (decide (a * j ≤ l))) ∧ w' = w := by
  have hM := hi_lo (a * j)
  have hmul := mul64_hl a j ha hj w
  generalize a * j = m at hM hmul ⊢
  have C : Hid (Calls Try.prog 9 #[.int .u64 a, .int .u64 j] w fun e w' => e = .returned (.tuple #[.int .u64 ((Hi m : Nat) : Int), .int .u64 ((Lo m : Nat) : Int)]) ∧ w' = w) := hmul
  clear hmul
  by_cases h0 : Hi m = 0
  · by_cases h1 : Lo m ≤ l
    · have hd : decide (m ≤ l) = true := by simp; exact big_no m l h0 h1
      rw [hd]
      have g0 : ((Hi m : Int) == 0) = true := by simp [h0]
      clear hM h0 hd
      go_enter Try.func7, Try.ntmps7
      go_wp2_with (go_at_call 9; refine C.out.mono ?_; rintro e w' ⟨rfl, rfl⟩)
      go_ret
      exact ⟨rfl, rfl⟩
    · have hd : decide (m ≤ l) = false := by simp; rw [h0] at hM; omega
      rw [hd]
      have g0 : ((Hi m : Int) == 0) = true := by simp [h0]
      clear hM h0 hd
      go_enter Try.func7, Try.ntmps7
      go_wp2_with (go_at_call 9; refine C.out.mono ?_; rintro e w' ⟨rfl, rfl⟩)
      go_ret
      exact ⟨rfl, rfl⟩
  · have hd : decide (m ≤ l) = false := by simp; omega
    rw [hd]
    have g0 : ((Hi m : Int) == 0) = false := by simp [h0]
    clear hM h0 hd
    go_enter Try.func7, Try.ntmps7
    go_wp2_with (go_at_call 9; refine C.out.mono ?_; rintro e w' ⟨rfl, rfl⟩)
    go_ret
    exact ⟨rfl, rfl⟩

end Go.Proofs.Qxb6612460a
