/- The checks that the law and NewRabin make. -/
import Derived.Test.Qxb6609496aFmtFields
namespace Go.Proofs.Qxb6609496aFmt
open Go.RowKit

set_option maxHeartbeats 400000 in
theorem resil_any (n t : Nat) (w : World) (h : 10 * t < n) (hn : n ≤ 65536) :
    Calls Tryf.prog 27 #[.int .i64 n, .int .i64 t, .int .i64 10] w fun e w' => e = .returned .nilIface ∧ w' = w := by
  go_enter Tryf.func27, Tryf.ntmps27
  go_wp2
  go_ret
  exact ⟨rfl, rfl⟩

set_option maxHeartbeats 400000 in
theorem rabinResil_any (n t : Nat) (w : World) (h : 10 * t < n) (hn : n ≤ 65536) :
    Calls Tryf.prog 18 #[.int .i64 n, .int .i64 t] w fun e w' => e = .returned .nilIface ∧ w' = w := by
  go_enter Tryf.func18, Tryf.ntmps18
  go_wp2_with (go_at_call 27; refine (resil_any _ _ _ h hn).mono ?_; rintro e w ⟨rfl, rfl⟩)
  go_ret
  exact ⟨rfl, rfl⟩

set_option maxHeartbeats 400000 in
theorem above_any (n t : Nat) (w : World) (hn : n ≤ 65536) :
    Calls Tryf.prog 6 #[.int .i64 n, .int .i64 10, .int .i64 t] w fun e w' => e = .returned (.bool (decide (10 * t < n))) ∧ w' = w := by
  by_cases h1 : t < n / 10
  · have hd : decide (10 * t < n) = true := by simp; omega
    rw [hd]
    clear hd
    go_enter Tryf.func6, Tryf.ntmps6
    go_wp2
    go_ret
    exact ⟨rfl, rfl⟩
  · have g1 : decide ((t : Int) < (n : Int) / 10) = false := by simp; omega
    by_cases h2 : t = n / 10
    · have t2 : ((t : Int) == (n : Int) / 10) = true := by simp; omega
      by_cases h3 : 0 < n % 10
      · have hd : decide (10 * t < n) = true := by simp; omega
        have g2 : decide (0 < (n : Int) % 10) = true := by simp; omega
        rw [hd]
        clear hd h2
        go_enter Tryf.func6, Tryf.ntmps6
        go_wp2
        go_ret
        exact ⟨rfl, rfl⟩
      · have hd : decide (10 * t < n) = false := by simp; omega
        have g2 : decide (0 < (n : Int) % 10) = false := by simp; omega
        rw [hd]
        clear hd h2
        go_enter Tryf.func6, Tryf.ntmps6
        go_wp2
        go_ret
        exact ⟨rfl, rfl⟩
    · have hd : decide (10 * t < n) = false := by simp; omega
      rw [hd]
      have t2 : ((t : Int) == (n : Int) / 10) = false := by simp; omega
      clear hd h2
      go_enter Tryf.func6, Tryf.ntmps6
      go_wp2
      go_ret
      exact ⟨rfl, rfl⟩

theorem sq_lt {k p : Nat} (h : k * k ≤ p) (hp : p < 4294967296) : k < 65536 := by
  rcases Nat.lt_or_ge k 65536 with a | a
  · exact a
  · have := Nat.mul_le_mul a a
    omega

set_option maxHeartbeats 400000 in
theorem isPrime_any (p : Nat) (w : World) (hp : p < 4294967296) :
    Calls Tryf.prog 16 #[.int .u64 p] w fun e w' => (e = .returned (.bool true) ∨ e = .returned (.bool false)) ∧ w' = w := by
  by_cases h2 : p < 2
  · go_enter Tryf.func16, Tryf.ntmps16
    go_wp2
    go_ret
    exact ⟨Or.inr rfl, rfl⟩
  go_enter Tryf.func16, Tryf.ntmps16
  go_wp2
  go_loop [3] (fun d => ∃ k : Nat, 2 ≤ k ∧ k ≤ 65536 ∧ d = .int .u64 k) (fun d => 65536 - (intOf d).toNat)
  case atStart => exact ⟨2, by omega, by omega, rfl⟩
  case round =>
    obtain ⟨k, hk2, hk, rfl⟩ := hrel
    have hsq : k * k ≤ 4294967296 := Nat.mul_le_mul hk hk
    have r1 : IntKind.u64.wrap ((k : Int) * (k : Int)) = ((k * k : Nat) : Int) := by
      rw [← Int.natCast_mul, IntKind.wrap_u64]; generalize k * k = m at *; omega
    by_cases hle : k * k ≤ p
    · have hkk := sq_lt hle hp
      generalize k * k = m at *
      by_cases hm : p % k = 0
      · have t1 : ((p : Int) % (k : Int) == 0) = true := by rw [← Int.natCast_emod, hm]; rfl
        clear hm
        go_wp2
        go_ret
        exact ⟨Or.inr rfl, rfl⟩
      · have t1 : ((p : Int) % (k : Int) == 0) = false := by rw [← Int.natCast_emod]; simp; omega
        clear hm
        go_wp2
        go_round
        case rel => exact ⟨k + 1, by omega, by omega, by go_num⟩
        case measure => simp [intOf]; omega
    · generalize k * k = m at *
      go_wp2
      go_ret
      exact ⟨Or.inl rfl, rfl⟩

end Go.Proofs.Qxb6609496aFmt
