/- zzMin2 and zzCompare: the law's own comparison is compareBytes. -/
import Derived.Test.Qxb6609549aPuts
import Derived.Deep.QuietTactic
import Derived.BigQuiet
import Derived.WalkSmall
namespace Go.Proofs.Qxb6609549a
open Go.RowKit
open Go.Lib (compareBytes)

def mn (a b : Nat) : Nat := if a < b then a else b
theorem mn_le (a b : Nat) : mn a b ≤ a ∧ mn a b ≤ b := by unfold mn; split <;> omega
theorem mn_or (a b : Nat) : mn a b = a ∨ mn a b = b := by unfold mn; split <;> omega

theorem min_any (a b : Nat) (w : World) :
    Calls Try.prog 9 #[.int .i64 a, .int .i64 b] w fun e w' => e = .returned (.int .i64 ((mn a b : Nat) : Int)) ∧ w' = w := by
  by_cases h : a < b
  · have e : mn a b = a := by simp [mn, h]
    rw [e]
    clear e
    go_enter Try.func9, Try.ntmps9
    go_wp2
    go_ret
    exact ⟨rfl, rfl⟩
  · have e : mn a b = b := by simp [mn, h]
    rw [e]
    clear e
    go_enter Try.func9, Try.ntmps9
    go_wp2
    go_ret
    exact ⟨rfl, rfl⟩

theorem drop_at (s : ByteArray) (k : Nat) (h : k < s.size) : s.data.toList.drop k = s[k] :: s.data.toList.drop (k + 1) := by
  rw [List.drop_eq_getElem_cons (by simpa using h)]; rfl

def At (a b : ByteArray) (k : Nat) : Prop := cmpB a b = compareBytes (a.data.toList.drop k) (b.data.toList.drop k)
theorem at_next {a b : ByteArray} {k : Nat} (h : At a b k) (ha : k < a.size) (hb : k < b.size) (e : a[k].toNat = b[k].toNat) : At a b (k + 1) := by
  unfold At at *
  rw [h, drop_at a k ha, drop_at b k hb, compareBytes, if_neg, if_neg] <;> (rw [UInt8.lt_iff_toNat_lt]; omega)
theorem at_lt {a b : ByteArray} {k : Nat} (h : At a b k) (ha : k < a.size) (hb : k < b.size) (e : a[k].toNat < b[k].toNat) : cmpB a b = -1 := by
  unfold At at h
  rw [h, drop_at a k ha, drop_at b k hb, compareBytes, if_pos]; rw [UInt8.lt_iff_toNat_lt]; omega
theorem at_gt {a b : ByteArray} {k : Nat} (h : At a b k) (ha : k < a.size) (hb : k < b.size) (e : b[k].toNat < a[k].toNat) : cmpB a b = 1 := by
  unfold At at h
  rw [h, drop_at a k ha, drop_at b k hb, compareBytes, if_neg, if_pos] <;> (rw [UInt8.lt_iff_toNat_lt]; omega)
theorem len_drop (a : ByteArray) : a.data.toList.length = a.size := rfl
theorem at_end {a b : ByteArray} (h : At a b (mn a.size b.size)) : cmpB a b = if a.size < b.size then -1 else if b.size < a.size then 1 else 0 := by
  unfold At at h
  rw [h]
  have la := len_drop a
  have lb := len_drop b
  by_cases h1 : a.size < b.size
  · rw [if_pos h1, show mn a.size b.size = a.size by simp [mn, h1], drop_at b a.size h1, List.drop_of_length_le (by omega)]
    rfl
  · rw [if_neg h1, show mn a.size b.size = b.size by simp [mn, h1], List.drop_of_length_le (l := b.data.toList) (by omega)]
    by_cases h2 : b.size < a.size
    · rw [if_pos h2, drop_at a b.size h2]
      rfl
    · rw [if_neg h2, List.drop_of_length_le (by omega)]
      rfl

theorem ret_i {k : IntKind} {a b : Int} (h : a = b) : Ending.returned (.int k a) = .returned (.int k b) := by rw [h]

set_option maxHeartbeats 1000000 in
theorem zzCompare_any (a b : ByteArray) (w : World) (_ha : a.size ≤ 1048576) (_hb : b.size ≤ 1048576) :
    Calls Try.prog 13 #[.string a, .string b] w fun e w' => e = .returned (.int .i64 (cmpB a b)) ∧ ∃ n, w' = w.drewN n := by
  obtain ⟨m1, m2⟩ := mn_le a.size b.size
  go_enter Try.func13, Try.ntmps13
  go_wp2_with (go_at_call 9; refine (min_any _ _ _).mono ?_; rintro e w ⟨rfl, rfl⟩)
  go_loopw [6] (fun i wr => ∃ k : Nat, k ≤ mn a.size b.size ∧ i = .int .i64 k ∧ Hid (At a b k) ∧ ∃ n, wr = w.drewN n) (fun i _ => mn a.size b.size - (intOf i).toNat)
  case atStart => exact ⟨0, Nat.zero_le _, rfl, rfl, 0, rfl⟩
  case round =>
    obtain ⟨k, hk, rfl, HA, n, rfl⟩ := hrel
    by_cases hlt : k < mn a.size b.size
    · have ka : k < a.size := by omega
      have kb : k < b.size := by omega
      have ia : (k : Int) < (a.size : Int) := by omega
      have ib : (k : Int) < (b.size : Int) := by omega
      by_cases h1 : a[k].toNat = b[k].toNat
      · have t1 : (((a[k].toNat : Nat) : Int) != ((b[k].toNat : Nat) : Int)) = false := by simp [h1]
        have HN : Hid (At a b (k + 1)) := at_next HA.out ka kb h1
        clear h1
        go_wp2
        go_quiet (fail)
        go_wp2
        go_roundw
        case rel => exact ⟨k + 1, by omega, by go_num, HN, _, rfl⟩
        case measure => simp [intOf]; omega
      · have t1 : (((a[k].toNat : Nat) : Int) != ((b[k].toNat : Nat) : Int)) = true := by simp; omega
        by_cases h2 : a[k].toNat < b[k].toNat
        · have R : Hid (cmpB a b = -1) := at_lt HA.out ka kb h2
          have t2 : ((a[k].toNat : Nat) : Int) < ((b[k].toNat : Nat) : Int) := by omega
          clear h1 h2
          go_wp2
          go_quiet (fail)
          go_wp2
          go_quiet (fail)
          go_wp2
          go_ret
          exact ⟨ret_i R.out.symm, _, by rw [World.drewN_drewN, World.drewN_drewN]⟩
        · have R : Hid (cmpB a b = 1) := at_gt HA.out ka kb (by omega)
          have t2 : ¬ ((a[k].toNat : Nat) : Int) < ((b[k].toNat : Nat) : Int) := by omega
          clear h1 h2
          go_wp2
          go_quiet (fail)
          go_wp2
          go_quiet (fail)
          go_wp2
          go_ret
          exact ⟨ret_i R.out.symm, _, by rw [World.drewN_drewN, World.drewN_drewN]⟩
    · obtain rfl : k = mn a.size b.size := by omega
      have R := at_end HA.out
      by_cases h1 : a.size < b.size
      · rw [if_pos h1] at R
        have R' : Hid (cmpB a b = -1) := R
        clear R
        go_wp2
        go_ret
        exact ⟨ret_i R'.out.symm, _, rfl⟩
      · rw [if_neg h1] at R
        by_cases h2 : b.size < a.size
        · rw [if_pos h2] at R
          have R' : Hid (cmpB a b = 1) := R
          clear R
          go_wp2
          go_ret
          exact ⟨ret_i R'.out.symm, _, rfl⟩
        · rw [if_neg h2] at R
          have R' : Hid (cmpB a b = 0) := R
          clear R
          go_wp2
          go_ret
          exact ⟨ret_i R'.out.symm, _, rfl⟩

end Go.Proofs.Qxb6609549a
