/- The walk of FnRefuseWrapsNotSingleTable. -/
import Derived.Test.Qxb6612396aFmtRefuse
namespace Go.Proofs.Qxb6612396aFmt
open Go.RowKit Go.Extern.Stop Go.Stop Go.Extern

set_option maxHeartbeats 400000 in
theorem bytes5 (q f : ByteArray) (i : Int) (w : World) (h : q.size + f.size ≤ 1048576) :
    Calls Tryf.prog 5 #[.string q, .int .i64 i, .string f] w fun e w' => e = .returned (.bool true) ∧ w' = w := by
  go_enter Tryf.func5, Tryf.ntmps5
  go_wp2
  go_ret
  exact ⟨rfl, rfl⟩

set_option maxHeartbeats 400000 in
theorem bytes5_not (q f : ByteArray) (i : Int) (w : World) (hq : q.size ≤ 9223372036854775807) (hf : f.size ≤ 9223372036854775807) (h : 1048576 < q.size + f.size) :
    Calls Tryf.prog 5 #[.string q, .int .i64 i, .string f] w fun e w' => e = .returned (.bool false) ∧ w' = w := by
  go_enter Tryf.func5, Tryf.ntmps5
  go_wp2
  all_goals
    go_ret
    exact ⟨rfl, rfl⟩

set_option maxHeartbeats 400000 in
theorem law1 (F : Interp) (q f : ByteArray) (i : Int) (a : Addr) (t : ByteArray) (w : World) (hq : q.size ≤ 9223372036854775807) (hf : f.size ≤ 9223372036854775807) (hF : F.answers w.tape)
    (hg : w.cell? ⟨0, 0, none⟩ = some (.iface 57 (.pointer (some a)))) (ht : w.cell? a = some (.string t)) :
    Calls Tryf.prog 3 #[.string q, .int .i64 i, .string f] w fun e w' => e = .returned (.bool true) ∧ Below w.heap.size w w' := by
  have hl0 : 0 < w.heap.size := World.block_lt_of_cell? _ _ hg
  by_cases h : 1048576 < q.size + f.size
  · go_enter Tryf.func3, Tryf.ntmps3
    go_wp2_with (go_at_call 5; refine (bytes5_not _ _ _ _ hq hf h).mono ?_; rintro e w ⟨rfl, rfl⟩)
    go_ret
    exact ⟨rfl, Below.refl _ _⟩
  · have h' : q.size + f.size ≤ 1048576 := by omega
    have c0 : q.size ≤ 1048576 := by omega
    have c1 : f.size ≤ 1048576 := by omega
    clear h
    go_enter Tryf.func3, Tryf.ntmps3
    go_wp2_with fail
    refine (bytes5 _ _ _ _ h').mono ?_
    rintro e w ⟨rfl, rfl⟩
    go_wp2_with fail
    refine (zzrefuse0_any F q f i a t _ ?_ ?_ ?_).mono ?_
    · exact hF
    · exact hg
    · exact ht
    rintro e w1 ⟨pb, rfl, hc1, hb⟩
    have hg1 : w1.cell? ⟨0, 0, none⟩ = some (.iface 57 (.pointer (some a))) := (hb.cell (p := ⟨0, 0, none⟩) hl0).trans hg
    go_wp2_with fail
    refine (is_wrap_same pb 0 a _ hc1).mono ?_
    rintro e w1 ⟨rfl, rfl⟩
    go_wp2
    go_ret
    exact ⟨rfl, hb⟩

end Go.Proofs.Qxb6612396aFmt
