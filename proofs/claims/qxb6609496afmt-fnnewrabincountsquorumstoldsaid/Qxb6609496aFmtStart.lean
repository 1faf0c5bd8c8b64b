/- The start of the law's books. -/
import Derived.Test.Qxb6609496aFmtLoop1
import Derived.Test.Qxb6609496aFmtLoop2
import Derived.Test.Qxb6609496aFmtLoop3
namespace Go.Proofs.Qxb6609496aFmt
open Go.RowKit
set_option linter.unusedVariables false

theorem info4 : (Tryf.prog.info? 4).map (fun i => (i.zero, i.size, i.bytes)) = some (some (.bool false), 1, 1) := by kernel_rfl
theorem make44 (n : Nat) (hn : n ≤ 65536) (w : World) : (Instr.makeSlice 44 (.int .i64 (3 * ((n : Int) + 1))) (.int .i64 (3 * ((n : Int) + 1)))).run Tryf.prog w = .ok (.slice (some ⟨w.heap.size, 0, none⟩) (3 * (n + 1)) (3 * (n + 1))) (w.alloc (.cells (madeCells #[.bool false] (3 * (n + 1))) 4)) := by
  have h := run_make_row' (P := Tryf.prog) 44 4 (.bool false) 1 Tryf.underlying44 info4 rfl .i64 .i64 (3 * (n + 1)) (by omega) (by omega) w
  rw [show ((3 * (n + 1) : Nat) : Int) = 3 * ((n : Int) + 1) by omega] at h
  exact h

def A45 : Obj := .cells #[.int .i64 0, .int .i64 0, .int .i64 0] 45
def A46 : Obj := .cells #[.bool false, .bool false, .bool false] 46
def Wm (w : World) (n : Nat) : World := ((((w.alloc (.cells (madeCells #[.bool false] (3 * (n + 1))) 4)).alloc A45).alloc A46).alloc A45).alloc A45

theorem wm_keep (w : World) (n : Nat) : ∀ k, k < w.heap.size → (Wm w n).heap[k]? = w.heap[k]? := fun k hk => by
  unfold Wm
  rw [Below.heap_alloc _ _ k (by simp; omega), Below.heap_alloc _ _ k (by simp; omega), Below.heap_alloc _ _ k (by simp; omega), Below.heap_alloc _ _ k (by simp; omega), Below.heap_alloc _ _ k hk]
theorem wm_size (w : World) (n : Nat) : (Wm w n).heap.size = w.heap.size + 5 := by unfold Wm; simp
theorem wm_0 (w : World) (n : Nat) : (Wm w n).heap[w.heap.size]? = some (.cells (madeCells #[.bool false] (3 * (n + 1))) 4 (0, 0)) := by
  unfold Wm
  rw [Below.heap_alloc _ _ _ (by simp; omega), Below.heap_alloc _ _ _ (by simp; omega), Below.heap_alloc _ _ _ (by simp; omega), Below.heap_alloc _ _ _ (by simp)]
  exact heap_alloc_last w _
theorem last_at (w : World) (o : Obj) (k : Nat) (h : w.heap.size = k) : (w.alloc o).heap[k]? = some o := by subst h; exact heap_alloc_last w o
theorem wm_1 (w : World) (n : Nat) : (Wm w n).heap[w.heap.size + 1]? = some A45 := by
  unfold Wm
  rw [Below.heap_alloc _ _ _ (by simp <;> omega), Below.heap_alloc _ _ _ (by simp <;> omega), Below.heap_alloc _ _ _ (by simp <;> omega)]
  exact last_at _ _ _ (by simp <;> omega)
theorem wm_2 (w : World) (n : Nat) : (Wm w n).heap[w.heap.size + 2]? = some A46 := by
  unfold Wm
  rw [Below.heap_alloc _ _ _ (by simp <;> omega), Below.heap_alloc _ _ _ (by simp <;> omega)]
  exact last_at _ _ _ (by simp <;> omega)
theorem wm_3 (w : World) (n : Nat) : (Wm w n).heap[w.heap.size + 3]? = some A45 := by
  unfold Wm
  rw [Below.heap_alloc _ _ _ (by simp <;> omega)]
  exact last_at _ _ _ (by simp <;> omega)
theorem wm_4 (w : World) (n : Nat) : (Wm w n).heap[w.heap.size + 4]? = some A45 := by
  unfold Wm
  exact last_at _ _ _ (by simp <;> omega)

theorem z45 {W : World} {b e : Nat} (h : W.heap[b]? = some A45) (he : e < 3) : W.cell? ⟨b, e, none⟩ = some (.int .i64 ((0 : Nat) : Int)) := by
  rw [cell_of_row W b e _ _ _ h]
  have : e = 0 ∨ e = 1 ∨ e = 2 := by omega
  rcases this with rfl | rfl | rfl <;> rfl
theorem z46 {W : World} {b e : Nat} (h : W.heap[b]? = some A46) (he : e < 3) : W.cell? ⟨b, e, none⟩ = some (.bool false) := by
  rw [cell_of_row W b e _ _ _ h]
  have : e = 0 ∨ e = 1 ∨ e = 2 := by omega
  rcases this with rfl | rfl | rfl <;> rfl

theorem inv_start {B rb mb id n t r wd : Nat} {w0 w : World} (hF : Fresh w rb mb id n t) (hB : Below B w0 w) (hBw : B = w0.heap.size) (h1 : B ≤ rb) (h2 : B ≤ mb) (h3 : rb < w.heap.size) (h4 : mb < w.heap.size) :
    Inv B rb mb w.heap.size id n t r wd w0 (Wm w n) (.slice none 0 0) (.slice none 0 0) 0 [] S0 := by
  have sz := wm_size w n
  have hz := hB.size
  refine ⟨ok0 id n t, Or.inl ⟨rfl, rfl, hF.rbh.keep (wm_keep w n rb h3), map_keep hF.m (wm_keep w n mb h4)⟩, ⟨fun e he f hf => ?_, fun e he => z45 (wm_1 w n) he, fun e he => z46 (wm_2 w n) he, fun e he => z45 (wm_3 w n) he, fun e he => z45 (wm_4 w n) he, fun b o hb1 hb2 => ?_, World.ownsRow_nil _ _ _ _, World.ownsRow_nil _ _ _ _, fun k q => by simp [Value.ownBlock] at q, fun k q => by simp [Value.ownBlock] at q⟩, hB.trans ⟨rfl, rfl, rfl, by omega, fun k hk => wm_keep w n k (by omega)⟩, ⟨h1, h2, h3, h4⟩, by omega, fun k q => by cases q⟩
  · rw [cell_of_row _ _ _ _ _ _ (wm_0 w n)]
    have := Nat.mul_le_mul_right (n + 1) (show e ≤ 2 by omega)
    have hl : e * (n + 1) + f < 3 * (n + 1) := by omega
    unfold madeCells
    simp [hl, Nat.mod_one, S0]
  · have : b = w.heap.size ∨ b = w.heap.size + 1 ∨ b = w.heap.size + 2 ∨ b = w.heap.size + 3 ∨ b = w.heap.size + 4 := by omega
    rcases this with rfl | rfl | rfl | rfl | rfl
    · exact fz_row (wm_0 w n) o
    · exact fz_row (wm_1 w n) o
    · exact fz_row (wm_2 w n) o
    · exact fz_row (wm_3 w n) o
    · exact fz_row (wm_4 w n) o


end Go.Proofs.Qxb6609496aFmt
