import Derived.Test.Qxb6609549aByKey
import Derived.Test.Qxb6609549aCmp
namespace Go.Proofs.Qxb6609549a
open Go.RowKit

theorem cmp_neg (a b : ByteArray) : cmpB b a = - cmpB a b := cb_neg _ _
theorem cmp_ext (a c : ByteArray) : cmpB a (a ++ c) = if c.size = 0 then 0 else -1 := by
  have e : (a ++ c).data.toList = a.data.toList ++ c.data.toList := by simp
  unfold cmpB
  rw [e, cb_ext]
  rfl

set_option maxHeartbeats 400000 in
theorem bytes16 (a c : ByteArray) (w : World) (h : a.size + c.size ≤ 1048576) :
    Calls Try.prog 16 #[.string a, .string c] w fun e w' => e = .returned (.bool true) ∧ w' = w := by
  go_enter Try.func16, Try.ntmps16
  go_wp2
  go_ret
  exact ⟨rfl, rfl⟩

set_option maxHeartbeats 400000 in
theorem core_eq (a0 a1 : ByteArray) (w : World) (c2 : a0.size + a1.size ≤ 1048576) (hl : ((a1.size : Int) == 0) = true)
    (k1 : cmpB a0 (a0 ++ a1) = 0) (k2 : cmpB (a0 ++ a1) a0 = 0) (k3 : cmpB a0 a0 = 0) :
    Calls Try.prog 6 #[.string a0, .string a1] w fun e w' => e = .returned (.bool true) ∧ Grown w w' := by
  have c0 : a0.size ≤ 1048576 := by omega
  have c1 : a1.size ≤ 1048576 := by omega
  go_enter Try.func6, Try.ntmps6
  go_wp2_with (first | (go_at_call 16; refine (bytes16 _ _ _ c2).mono ?_; rintro e w' ⟨rfl, rfl⟩) | (go_at_call 10; refine (entry_any _ _ _).mono ?_; rintro e w' ⟨rfl, rfl⟩) | (go_at_call 14; refine (zzByKey_any _ _ _ _ _).mono ?_; rintro e w' ⟨rfl, rfl⟩))
  go_ret
  exact ⟨rfl, ((((((((((((((((Grown.refl _).alloc _ _).alloc _ _).alloc _ _).alloc _ _).alloc _ _).alloc _ _).alloc _ _).alloc _ _).alloc _ _).alloc _ _).alloc _ _).alloc _ _).alloc _ _).alloc _ _).alloc _ _).alloc _ _⟩

set_option maxHeartbeats 400000 in
theorem core_ne (a0 a1 : ByteArray) (w : World) (c2 : a0.size + a1.size ≤ 1048576) (hl : ((a1.size : Int) == 0) = false)
    (k1 : cmpB a0 (a0 ++ a1) = -1) (k2 : cmpB (a0 ++ a1) a0 = 1) (k3 : cmpB a0 a0 = 0) :
    Calls Try.prog 6 #[.string a0, .string a1] w fun e w' => e = .returned (.bool true) ∧ Grown w w' := by
  have c0 : a0.size ≤ 1048576 := by omega
  have c1 : a1.size ≤ 1048576 := by omega
  go_enter Try.func6, Try.ntmps6
  go_wp2_with (first | (go_at_call 16; refine (bytes16 _ _ _ c2).mono ?_; rintro e w' ⟨rfl, rfl⟩) | (go_at_call 10; refine (entry_any _ _ _).mono ?_; rintro e w' ⟨rfl, rfl⟩) | (go_at_call 14; refine (zzByKey_any _ _ _ _ _).mono ?_; rintro e w' ⟨rfl, rfl⟩))
  go_ret
  exact ⟨rfl, ((((((((((((((((Grown.refl _).alloc _ _).alloc _ _).alloc _ _).alloc _ _).alloc _ _).alloc _ _).alloc _ _).alloc _ _).alloc _ _).alloc _ _).alloc _ _).alloc _ _).alloc _ _).alloc _ _).alloc _ _).alloc _ _⟩

end Go.Proofs.Qxb6609549a
