/- Leaves: heardBit, heardWords. -/
import Derived.Test.Qxb6609496aFmtRows
import Derived.WalkKit
import Derived.WalkSpells
import Derived.WalkLawsBesides
import Derived.Deep.QuietTactic
import Derived.BigQuiet
import Derived.WalkSmall
namespace Go.Proofs.Qxb6609496aFmt
open Go.RowKit

theorem ret_int {k : IntKind} {a b : Int} (h : a = b) : Ending.returned (.int k a) = .returned (.int k b) := by rw [h]
theorem ret_bool {a b : Bool} (h : a = b) : Ending.returned (.bool a) = .returned (.bool b) := by rw [h]
theorem pow_lt64 (k : Nat) (h : k < 64) : 2 ^ k < 18446744073709551616 := Nat.pow_lt_pow_right (by decide) h
theorem wrap_pow (k : Nat) (h : k < 64) : IntKind.u64.wrap ((2 : Int) ^ k) = ((2 ^ k : Nat) : Int) := by
  have e : ((2 : Int) ^ k) = ((2 ^ k : Nat) : Int) := by simp
  have := pow_lt64 k h
  rw [e, IntKind.wrap_u64]
  generalize 2 ^ k = p at *
  omega

/-- The bit of node f in its word. -/
def bitOf (x f : Nat) : Bool := x.testBit ((f - 1) % 64)
def hbit (f : Nat) : Nat := 2 ^ ((f - 1) % 64)
theorem hbit_lt (f : Nat) : hbit f < 18446744073709551616 := pow_lt64 _ (Nat.mod_lt _ (by decide))
theorem and_pow (x k : Nat) : (x &&& 2 ^ k != 0) = x.testBit k := by
  cases h : x.testBit k with
  | true =>
    have hb : (x &&& 2 ^ k).testBit k = true := by rw [Nat.testBit_and, h, Nat.testBit_two_pow]; simp
    have hne : x &&& 2 ^ k ≠ 0 := fun e => by rw [e] at hb; simp at hb
    simpa using hne
  | false =>
    have h0 : x &&& 2 ^ k = 0 := Nat.eq_of_testBit_eq fun i => by
      rw [Nat.testBit_and, Nat.testBit_two_pow]
      by_cases hi : k = i
      · subst hi; simp [h]
      · simp [hi]
    rw [h0]; rfl
theorem and_hbit (x f : Nat) (hx : x < 18446744073709551616) : (bits .and .u64 (x : Int) ((hbit f : Nat) : Int) != 0) = bitOf x f := by
  rw [bits_and_u64_nat x _ hx (hbit_lt f)]
  have h := and_pow x ((f - 1) % 64)
  unfold hbit bitOf
  rw [← h]
  generalize x &&& 2 ^ ((f - 1) % 64) = y
  cases y <;> rfl
theorem or_hbit (x f : Nat) (hx : x < 18446744073709551616) : bits .or .u64 (x : Int) ((hbit f : Nat) : Int) = ((x ||| hbit f : Nat) : Int) := bits_or_u64_nat x _ hx (hbit_lt f)
theorem or_lt (x f : Nat) (hx : x < 18446744073709551616) : x ||| hbit f < 18446744073709551616 := by
  have := Nat.or_lt_two_pow (n := 64) (show x < 2 ^ 64 from hx) (show hbit f < 2 ^ 64 from hbit_lt f)
  exact this

set_option maxHeartbeats 400000 in
theorem heardBit_any (f : Nat) (w : World) (h1 : 1 ≤ f) (h2 : f ≤ 65536) :
    Calls Tryf.prog 33 #[.int .i64 f] w fun e w' => e = .returned (.int .u64 ((hbit f : Nat) : Int)) ∧ w' = w := by
  go_enter Tryf.func33, Tryf.ntmps33
  go_wp2
  go_ret
  exact ⟨ret_int (wrap_pow _ (Nat.mod_lt _ (by decide))), rfl⟩

set_option maxHeartbeats 400000 in
theorem heardWords_any (n : Nat) (w : World) (h2 : n ≤ 65536) :
    Calls Tryf.prog 34 #[.int .i64 n] w fun e w' => e = .returned (.int .i64 (((n + 63) / 64 : Nat) : Int)) ∧ w' = w := by
  go_enter Tryf.func34, Tryf.ntmps34
  go_wp2
  go_ret
  exact ⟨rfl, rfl⟩

set_option maxHeartbeats 400000 in
theorem has_any (tb to hb ho wd f x : Nat) (w : World) (h1 : 1 ≤ f) (h2 : f ≤ 65536) (hw : (f - 1) / 64 < wd)
    (hc : w.cell? ⟨tb, to, none⟩ = some (.slice (some ⟨hb, ho, none⟩) wd wd)) (hx : w.cell? ⟨hb, ho + (f - 1) / 64, none⟩ = some (.int .u64 (x : Int))) (hx' : x < 18446744073709551616) :
    Calls Tryf.prog 26 #[.pointer (some ⟨tb, to, none⟩), .int .i64 f] w fun e w' => e = .returned (.bool (bitOf x f)) ∧ ∃ n, w' = w.drewN n := by
  have hb1 : ((f : Int) - 1) / 64 < (wd : Int) := by omega
  have hb0 : (0 : Int) ≤ ((f : Int) - 1) / 64 := by omega
  go_enter Tryf.func26, Tryf.ntmps26
  go_wp2_with fail
  go_quiet ((go_at_call 33; exact Calls.quiet_of_same (heardBit_any _ _ h1 h2)))
  go_wp2
  go_ret
  exact ⟨ret_bool (and_hbit x f hx'), _, rfl⟩

end Go.Proofs.Qxb6609496aFmt
