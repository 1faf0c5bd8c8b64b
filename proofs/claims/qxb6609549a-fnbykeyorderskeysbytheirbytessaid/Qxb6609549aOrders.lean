import Derived.Test.Qxb6609549aZzCompare
namespace Go.Proofs.Qxb6609549a
open Go.RowKit

set_option maxHeartbeats 400000 in
theorem bytes15 (a va b vb : ByteArray) (w : World) (h : a.size + va.size + b.size + vb.size ≤ 1048576) :
    Calls Try.prog 15 #[.string a, .string va, .string b, .string vb] w fun e w' => e = .returned (.bool true) ∧ w' = w := by
  go_enter Try.func15, Try.ntmps15
  go_wp2
  go_ret
  exact ⟨rfl, rfl⟩

set_option maxHeartbeats 400000 in
theorem bytes15_not (a va b vb : ByteArray) (w : World) (ha : a.size ≤ 9223372036854775807) (hva : va.size ≤ 9223372036854775807) (hb : b.size ≤ 9223372036854775807) (hvb : vb.size ≤ 9223372036854775807) (h : 1048576 < a.size + va.size + b.size + vb.size) :
    Calls Try.prog 15 #[.string a, .string va, .string b, .string vb] w fun e w' => e = .returned (.bool false) ∧ w' = w := by
  go_enter Try.func15, Try.ntmps15
  go_wp2
  all_goals
    go_ret
    exact ⟨rfl, rfl⟩

theorem grown_drewN {a b : World} (h : Grown a b) (n : Nat) : Grown a (b.drewN n) := h

theorem ret_b {a b : Bool} (h : a = b) : Ending.returned (.bool a) = .returned (.bool b) := by rw [h]

set_option maxHeartbeats 400000 in
theorem orders_core (a va b vb : ByteArray) (w : World) (h : a.size + va.size + b.size + vb.size ≤ 1048576) (x y : Int) (k1 : cmpB a b = x) (k2 : cmpB b a = y) (k3 : wrap64 (-x) = y) :
    Calls Try.prog 5 #[.string a, .string va, .string b, .string vb] w fun e w' => e = .returned (.bool true) ∧ Grown w w' := by
  have c0 : a.size ≤ 1048576 := by omega
  have c1 : va.size ≤ 1048576 := by omega
  have c2 : b.size ≤ 1048576 := by omega
  have c3 : vb.size ≤ 1048576 := by omega
  have K3 : Hid (wrap64 (-x) = y) := k3
  clear k3
  go_enter Try.func5, Try.ntmps5
  go_wp2_with (first | (go_at_call 15; refine (bytes15 _ _ _ _ _ h).mono ?_; rintro e w ⟨rfl, rfl⟩) | (go_at_call 13; refine (zzCompare_any _ _ _ (by omega) (by omega)).mono ?_; rintro e w1 ⟨rfl, n, rfl⟩) | (go_at_call 10; refine (entry_any _ _ _).mono ?_; rintro e w' ⟨rfl, rfl⟩) | (go_at_call 14; refine (zzByKey_any _ _ _ _ _).mono ?_; rintro e w' ⟨rfl, rfl⟩))
  go_ret
  exact ⟨ret_b (by rw [K3.out]; simp), ((((((((((((grown_drewN (Grown.refl w) n).alloc _ _).alloc _ _).alloc _ _).alloc _ _).alloc _ _).alloc _ _).alloc _ _).alloc _ _).alloc _ _).alloc _ _).alloc _ _).alloc _ _⟩

end Go.Proofs.Qxb6609549a
