/- More checks; the copy of the shares. -/
import Derived.Test.Qxb6609496aFmtChecks
namespace Go.Proofs.Qxb6609496aFmt
open Go.RowKit
set_option linter.unusedVariables false

set_option maxHeartbeats 400000 in
theorem fieldFits_any (p r : Nat) (w : World) (_hp : p < 18446744073709551616) :
    Calls Tryf.prog 5 #[.int .u64 p, .int .u64 r] w fun e w' => (e = .returned (.bool false) ∨ (e = .returned (.bool true) ∧ 2 ≤ p ∧ p < 4294967296)) ∧ w' = w := by
  by_cases h1 : p < 2
  · go_enter Tryf.func5, Tryf.ntmps5
    go_wp2
    go_ret
    exact ⟨Or.inl rfl, rfl⟩
  by_cases h2 : 4294967296 ≤ p
  · go_enter Tryf.func5, Tryf.ntmps5
    go_wp2
    go_ret
    exact ⟨Or.inl rfl, rfl⟩
  have hp1 : p < 4294967296 := by omega
  go_enter Tryf.func5, Tryf.ntmps5
  go_wp2_with fail
  · go_ret
    exact ⟨Or.inl rfl, rfl⟩
  · refine (isPrime_any p _ hp1).mono ?_
    rintro e w ⟨rfl | rfl, rfl⟩
    · go_wp2
      go_ret
      exact ⟨Or.inr ⟨rfl, by omega, hp1⟩, rfl⟩
    · go_wp2
      go_ret
      exact ⟨Or.inl rfl, rfl⟩

theorem below_snoc {zs : List Nat} {k p x : Nat} (h : ∀ j, j < k → zs.getD j 0 < p) (hx : zs.getD k 0 = x) (hp : x < p) : ∀ j, j < k + 1 → zs.getD j 0 < p := fun j hj => by
  rcases Nat.lt_or_ge j k with a | a
  · exact h j a
  · obtain rfl : j = k := by omega
    rw [hx]; exact hp

set_option maxHeartbeats 400000 in
theorem allBelow_any (b off n c p : Nat) (zs : List Nat) (w : World) (hn : n ≤ zs.length) (hbig : n ≤ 65536) (hp : p < 18446744073709551616)
    (hc : ∀ j, j < n → w.cell? ⟨b, off + j, none⟩ = some (.int .u64 ((zs.getD j 0 : Nat) : Int))) :
    Calls Tryf.prog 7 #[.slice (some ⟨b, off, none⟩) n c, .int .u64 p] w fun e w' => (e = .returned (.bool false) ∨ (e = .returned (.bool true) ∧ ∀ j, j < n → zs.getD j 0 < p)) ∧ w' = w := by
  go_enter Tryf.func7, Tryf.ntmps7
  go_wp2
  go_loop [5] (fun i => ∃ k : Nat, k ≤ n ∧ i = .int .i64 k ∧ Hid (∀ j, j < k → zs.getD j 0 < p)) (fun i => n - (intOf i).toNat)
  case atStart => exact ⟨0, Nat.zero_le _, rfl, fun j hj => by omega⟩
  case round =>
    obtain ⟨k, hk, rfl, HA⟩ := hrel
    by_cases hlt : k < n
    · have g := hc k hlt
      have i1 : (k : Int) < (n : Int) := by omega
      generalize hx : zs.getD k 0 = x at g
      have HX : Hid (zs.getD k 0 = x) := hx
      clear hx hc
      by_cases hle : p ≤ x
      · go_wp2
        go_ret
        exact ⟨Or.inl rfl, rfl⟩
      · have hle' : x < p := by omega
        go_wp2
        go_round
        case rel => exact ⟨k + 1, by omega, by go_num, below_snoc HA.out HX.out hle'⟩
        case measure => simp [intOf]; omega
    · clear hc
      go_wp2
      go_ret
      exact ⟨Or.inr ⟨rfl, fun j hj => HA.out j (by omega)⟩, rfl⟩

set_option maxHeartbeats 400000 in
theorem max_any (b off n c p : Nat) (w : World) (hn1 : 1 ≤ n) (hbig : n ≤ 65536) (hp : p < 18446744073709551616)
    (hc : ∀ j, j < n → ∃ x : Nat, w.cell? ⟨b, off + j, none⟩ = some (.int .u64 (x : Int)) ∧ x < p) :
    Calls Tryf.prog 30 #[.slice (some ⟨b, off, none⟩) n c] w fun e w' => (∃ m : Nat, m < p ∧ e = .returned (.int .u64 (m : Int))) ∧ w' = w := by
  obtain ⟨x0, g0, hx0⟩ := hc 0 (by omega)
  have g0' : w.cell? ⟨b, off, none⟩ = some (.int .u64 (x0 : Int)) := by simpa using g0
  have HC : Hid (∀ j, j < n → ∃ x : Nat, w.cell? ⟨b, off + j, none⟩ = some (.int .u64 (x : Int)) ∧ x < p) := hc
  clear hc g0
  go_enter Tryf.func30, Tryf.ntmps30
  go_wp2
  go_loop [3, 4] (fun m i => ∃ k x : Nat, 1 ≤ k ∧ k ≤ n ∧ i = .int .i64 k ∧ m = .int .u64 x ∧ x < p) (fun _ i => n - (intOf i).toNat)
  case atStart => exact ⟨1, x0, by omega, by omega, rfl, rfl, hx0⟩
  case round =>
    obtain ⟨k, x, hk1, hk, rfl, rfl, hx⟩ := hrel
    by_cases hlt : k < n
    · obtain ⟨y, gy, hy⟩ := HC.out k hlt
      have i1 : (k : Int) < (n : Int) := by omega
      go_wp2
      exact ⟨⟨k + 1, if x < y then y else x, by omega, by omega, by go_num, by split <;> rfl, by split <;> assumption⟩, by simp [intOf]; omega⟩
    · go_wp2
      go_ret
      exact ⟨⟨x, hx, rfl⟩, rfl⟩

set_option maxHeartbeats 400000 in
theorem prime_any (p r : Nat) (w : World) :
    Calls Tryf.prog 29 #[.agg #[.int .u64 p, .int .u64 r]] w fun e w' => e = .returned (.int .u64 (p : Int)) ∧ w' = w.alloc (.cells #[.int .u64 p, .int .u64 r] 39) := by
  go_enter Tryf.func29, Tryf.ntmps29
  go_wp2
  go_ret
  exact ⟨rfl, rfl⟩

theorem below_new {w w1 : World} (h : Below w.heap.size w w1) (o : Obj) : Below w.heap.size w (w1.alloc o) := h.alloc h.size o

set_option maxHeartbeats 400000 in
theorem checkField_any (p r n : Nat) (w : World) (hp : n < p) (hp' : p < 4294967296) (hn : n ≤ 65536) :
    Calls Tryf.prog 20 #[.agg #[.int .u64 p, .int .u64 r], .int .i64 n] w fun e w' => e = .returned .nilIface ∧ Below w.heap.size w w' := by
  go_enter Tryf.func20, Tryf.ntmps20
  go_wp2_with (go_at_call 29; refine (prime_any _ _ _).mono ?_; rintro e w1 ⟨rfl, rfl⟩)
  go_ret
  exact ⟨rfl, below_new (below_new (Below.refl _ _) _) _⟩

set_option maxHeartbeats 400000 in
theorem checkNode_any (n t i : Nat) (w : World) (h : 10 * t < n) (hn : n ≤ 65536) (hi : i ≤ 1) :
    Calls Tryf.prog 17 #[.int .i64 n, .int .i64 t, .int .u8 i, .func (.func 18) #[] #[]] w fun e w' => e = .returned .nilIface ∧ w' = w := by
  go_enter Tryf.func17, Tryf.ntmps17
  go_wp2_with (go_at_call 18; refine (rabinResil_any _ _ _ h hn).mono ?_; rintro e w ⟨rfl, rfl⟩)
  go_ret
  exact ⟨rfl, rfl⟩

end Go.Proofs.Qxb6609496aFmt
