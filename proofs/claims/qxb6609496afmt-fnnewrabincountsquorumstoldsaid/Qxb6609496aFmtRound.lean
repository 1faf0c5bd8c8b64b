/- (*tallies).newRound: three empty tallies. -/
import Derived.Test.Qxb6609496aFmtAdd
import Derived.Deep.OwnRows
namespace Go.Proofs.Qxb6609496aFmt
open Go.RowKit

theorem info22 : (Tryf.prog.info? 22).map (fun i => (i.zero, i.size, i.bytes)) = some (some (.int .u64 0), 1, 8) := by kernel_rfl
theorem make89 (w : World) : (Instr.makeSlice 89 (.int .i64 3) (.int .i64 3)).run Tryf.prog w = .ok (.slice (some ⟨w.heap.size, 0, none⟩) 3 3)
    (w.alloc (.cells #[.slice none 0 0, .int .i64 0, .int .i64 0, .int .i64 0, .slice none 0 0, .slice none 0 0, .int .i64 0, .int .i64 0, .int .i64 0, .slice none 0 0, .slice none 0 0, .int .i64 0, .int .i64 0, .int .i64 0, .slice none 0 0] 77)) := by kernel_rfl

/-- Three rows of zero words. -/
def zrow (wd : Nat) : Array Value := madeCells #[.int .u64 0] (3 * wd)
theorem make23 (wd : Nat) (hwd : wd ≤ 1024) (w : World) : (Instr.makeSlice 23 (.int .i64 ((wd : Int) * 3)) (.int .i64 ((wd : Int) * 3))).run Tryf.prog w = .ok (.slice (some ⟨w.heap.size, 0, none⟩) (3 * wd) (3 * wd)) (w.alloc (.cells (zrow wd) 22)) := by
  have h := run_make_row' (P := Tryf.prog) 23 22 (.int .u64 0) 8 Tryf.underlying23 info22 rfl .i64 .i64 (3 * wd) (by omega) (by omega) w
  rw [show ((3 * wd : Nat) : Int) = (wd : Int) * 3 by omega] at h
  exact h
theorem size_zrow (wd : Nat) : (zrow wd).size = 3 * wd := size_madeCells _ _

def wds (n : Nat) : Nat := (n + 63) / 64

set_option maxHeartbeats 1000000 in
theorem newRound_any (rb n wd : Nat) (w : World) (hwd : wd ≤ 1024) (hwd1 : 1 ≤ wd) (hwords : ∀ w : World, Calls Tryf.prog 34 #[.int .i64 n] w fun e w' => e = .returned (.int .i64 (wd : Int)) ∧ w' = w)
    (c11 : w.cell? ⟨rb, 11, none⟩ = some (.int .i64 (n : Int))) (c12 : w.cell? ⟨rb, 12, none⟩ = some (.int .i64 3)) (c14 : w.cell? ⟨rb, 14, none⟩ = some (.slice none 0 0)) :
    Calls Tryf.prog 32 #[.pointer (some ⟨rb, 11, none⟩)] w fun e w' => e = .returned (.slice (some ⟨w.heap.size + 1, 0, none⟩) 3 3) ∧
      w' = (w.alloc (.cells (zrow wd) 22)).alloc (.cells #[.slice (some ⟨w.heap.size, 0, none⟩) wd wd, .int .i64 0, .int .i64 0, .int .i64 0, .slice none 0 0, .slice (some ⟨w.heap.size, wd, none⟩) wd wd, .int .i64 0, .int .i64 0, .int .i64 0, .slice none 0 0, .slice (some ⟨w.heap.size, 2 * wd, none⟩) wd wd, .int .i64 0, .int .i64 0, .int .i64 0, .slice none 0 0] 77) := by
  have hmk := make23 wd hwd
  have hrb : rb < w.heap.size := World.block_lt_of_cell? _ _ c11
  have hm89 := make89
  have HW : Hid (∀ w : World, Calls Tryf.prog 34 #[.int .i64 n] w fun e w' => e = .returned (.int .i64 (wd : Int)) ∧ w' = w) := hwords
  clear hwords
  go_enter Tryf.func32, Tryf.ntmps32
  go_wp2_with (go_at_call 34; refine (HW.out _).mono ?_; rintro e w ⟨rfl, rfl⟩)
  refine wp_loop_rounds 4 ?_
  rw [rounds_succ]
  go_wp2
  rw [rounds_succ]
  go_wp2
  rw [rounds_succ]
  go_wp2
  rw [rounds_succ]
  go_wp2
  go_ret
  exact ⟨rfl, by rw [show 2 * wd - wd = wd by omega, show 3 * wd - 2 * wd = wd by omega]⟩

end Go.Proofs.Qxb6609496aFmt
