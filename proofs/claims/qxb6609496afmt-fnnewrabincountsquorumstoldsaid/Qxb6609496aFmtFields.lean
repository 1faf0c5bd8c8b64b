/- ZZtallyFields. -/
import Derived.Test.Qxb6609496aFmtCountAny
namespace Go.Proofs.Qxb6609496aFmt
open Go.RowKit Go.Maps
attribute [local go_sem ↓] Go.wp_at_zero Go.wp_at_succ

set_option maxHeartbeats 1000000 in
theorem fields_any (tb o hb ho wd l cap : Nat) (c a b : Nat) (pa : Option Addr) (w : World)
    (s0 : w.cell? ⟨tb, o, none⟩ = some (.slice (some ⟨hb, ho, none⟩) wd wd)) (s1 : w.cell? ⟨tb, o + 1, none⟩ = some (.int .i64 (c : Int))) (s2 : w.cell? ⟨tb, o + 2, none⟩ = some (.int .i64 (a : Int))) (s3 : w.cell? ⟨tb, o + 2 + 1, none⟩ = some (.int .i64 (b : Int))) (s4 : w.cell? ⟨tb, o + 4, none⟩ = some (.slice pa l cap)) :
    Calls Tryf.prog 14 #[.pointer (some ⟨tb, o, none⟩)] w fun e w' => e = .returned (.tuple #[.slice (some ⟨hb, ho, none⟩) wd wd, .int .i64 (c : Int), .agg #[.int .i64 (a : Int), .int .i64 (b : Int)], .slice pa l cap]) ∧
      ∃ m, w' = (w.alloc (.cells #[.int .i64 (a : Int), .int .i64 (b : Int)] 52)).drewN m := by
  have hl : tb < w.heap.size := lt_of_cell s0
  have n0 := World.new_ne w _ s0
  have n1 := World.new_ne w _ s1
  have n2 := World.new_ne w _ s2
  have n3 := World.new_ne w _ s3
  have n4 := World.new_ne w _ s4
  go_enter Tryf.func14, Tryf.ntmps14
  go_wp2_with fail
  go_region_held3 (fun w' => w'.cell? ⟨tb, o, none⟩ = some (.slice (some ⟨hb, ho, none⟩) wd wd) ∧ w'.cell? ⟨tb, o + 1, none⟩ = some (.int .i64 (c : Int)) ∧ w'.cell? ⟨tb, o + 2, none⟩ = some (.int .i64 (a : Int)) ∧ w'.cell? ⟨tb, o + 2 + 1, none⟩ = some (.int .i64 (b : Int)) ∧ w'.cell? ⟨tb, o + 4, none⟩ = some (.slice pa l cap)) (go_keep) (fail)
  go_wp2
  exact bodyPost_ret (v := .tuple #[.slice (some ⟨hb, ho, none⟩) wd wd, .int .i64 (c : Int), .agg #[.int .i64 (a : Int), .int .i64 (b : Int)], .slice pa l cap]) (by simp [results, Tryf.results14, go_sem]) rfl ⟨rfl, 1, rfl⟩

end Go.Proofs.Qxb6609496aFmt
