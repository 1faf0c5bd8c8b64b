/- The walk of FnRefuseWithAnArgumentWrapsTheSentinelOnce. -/
import Derived.Test.Qxb6612396aFmtRefuse
namespace Go.Proofs.Qxb6612396aFmt
open Go.RowKit Go.Extern.Stop Go.Stop Go.Extern

set_option maxHeartbeats 400000 in
theorem bytes8 (q f r : ByteArray) (i : Int) (w : World) (h : q.size + f.size + r.size ≤ 1048576) :
    Calls Tryf.prog 8 #[.string q, .int .i64 i, .string f, .string r] w fun e w' => e = .returned (.bool true) ∧ w' = w := by
  go_enter Tryf.func8, Tryf.ntmps8
  go_wp2
  go_ret
  exact ⟨rfl, rfl⟩

set_option maxHeartbeats 400000 in
theorem bytes8_not (q f r : ByteArray) (i : Int) (w : World) (hq : q.size ≤ 9223372036854775807) (hf : f.size ≤ 9223372036854775807) (hr : r.size ≤ 9223372036854775807) (h : 1048576 < q.size + f.size + r.size) :
    Calls Tryf.prog 8 #[.string q, .int .i64 i, .string f, .string r] w fun e w' => e = .returned (.bool false) ∧ w' = w := by
  go_enter Tryf.func8, Tryf.ntmps8
  go_wp2
  all_goals
    go_ret
    exact ⟨rfl, rfl⟩

set_option maxHeartbeats 400000 in
/-- hasByte: some bool, and the world is as it was. -/
theorem hasByte_any (s : ByteArray) (c : Int) (w : World) (hs : s.size ≤ 1048576) :
    Calls Tryf.prog 9 #[.string s, .int .u8 c] w fun e w' => (e = .returned (.bool true) ∨ e = .returned (.bool false)) ∧ w' = w := by
  go_enter Tryf.func9, Tryf.ntmps9
  go_wp2
  go_loop [5] (fun i => ∃ k : Nat, k ≤ s.size ∧ i = .int .i64 k) (fun i => s.size - (intOf i).toNat)
  case atStart => exact ⟨0, Nat.zero_le _, rfl⟩
  case round =>
    obtain ⟨k, hk, rfl⟩ := hrel
    by_cases hlt : k < s.size
    · by_cases hc : (((s[k].toNat : Nat) : Int) == c) = true
      · go_wp2
        go_ret
        exact ⟨Or.inl rfl, rfl⟩
      · have hc' : (((s[k].toNat : Nat) : Int) == c) = false := by simpa using hc
        clear hc
        go_wp2
        go_round
        case rel => exact ⟨k + 1, by omega, by go_num⟩
        case measure => simp [intOf]; omega
    · go_wp2
      go_ret
      exact ⟨Or.inr rfl, rfl⟩

set_option maxHeartbeats 400000 in
theorem law2 (F : Interp) (q f r : ByteArray) (i : Int) (a : Addr) (t : ByteArray) (w : World) (hq : q.size ≤ 9223372036854775807) (hf : f.size ≤ 9223372036854775807) (hr : r.size ≤ 9223372036854775807) (hF : F.answers w.tape)
    (hg : w.cell? ⟨0, 0, none⟩ = some (.iface 57 (.pointer (some a)))) (ht : w.cell? a = some (.string t)) :
    Calls Tryf.prog 4 #[.string q, .int .i64 i, .string f, .string r] w fun e w' => e = .returned (.bool true) ∧ Below w.heap.size w w' := by
  have hl0 : 0 < w.heap.size := World.block_lt_of_cell? _ _ hg
  by_cases h : 1048576 < q.size + f.size + r.size
  · go_enter Tryf.func4, Tryf.ntmps4
    go_wp2_with (go_at_call 8; refine (bytes8_not _ _ _ _ _ hq hf hr h).mono ?_; rintro e w ⟨rfl, rfl⟩)
    go_ret
    exact ⟨rfl, Below.refl _ _⟩
  · have h' : q.size + f.size + r.size ≤ 1048576 := by omega
    have c0 : q.size ≤ 1048576 := by omega
    have c1 : f.size ≤ 1048576 := by omega
    have c2 : r.size ≤ 1048576 := by omega
    clear h
    go_enter Tryf.func4, Tryf.ntmps4
    go_wp2_with fail
    refine (bytes8 _ _ _ _ _ h').mono ?_
    rintro e w ⟨rfl, rfl⟩
    go_wp2_with fail
    refine (hasByte_any _ _ _ c1).mono ?_
    rintro e w ⟨rfl | rfl, rfl⟩
    · go_wp2
      go_ret
      exact ⟨rfl, Below.refl _ _⟩
    go_wp2_with fail
    refine (zzrefuse1_any F q f r i a t _ ?_ ?_ ?_).mono ?_
    · exact hF
    · exact hg
    · exact ht
    rintro e w1 ⟨pb, rfl, hc1, hb⟩
    have hg1 : w1.cell? ⟨0, 0, none⟩ = some (.iface 57 (.pointer (some a))) := (hb.cell (p := ⟨0, 0, none⟩) hl0).trans hg
    go_wp2_with fail
    refine (unwrap_wrap pb 0 a _ hc1).mono ?_
    rintro e w1 ⟨rfl, rfl⟩
    go_wp2_with fail
    refine (is_same a _).mono ?_
    rintro e w1 ⟨rfl, rfl⟩
    go_wp2_with fail
    refine (unwrap_plain _ _).mono ?_
    rintro e w1 ⟨rfl, rfl⟩
    go_wp2_with fail
    refine (is_wrap_same pb 0 a _ hc1).mono ?_
    rintro e w1 ⟨rfl, rfl⟩
    go_wp2
    go_ret
    exact ⟨rfl, hb⟩

end Go.Proofs.Qxb6612396aFmt
