/- zzClone and zzBytes. -/
import Derived.Test.Qxb6609496aFmtNewRabin
import Derived.Lib.LazyBuf
namespace Go.Proofs.Qxb6609496aFmt
open Go.RowKit
set_option linter.unusedVariables false

structure Cl (w wr : World) (l k : Nat) (zs : Nat → Nat) : Prop where
  b : Below w.heap.size w wr
  lt : w.heap.size < wr.heap.size
  done : ∀ j, j < k → wr.cell? ⟨w.heap.size, j, none⟩ = some (.int .u64 (zs j : Int))
  rest : ∀ j, k ≤ j → j < l → wr.cell? ⟨w.heap.size, j, none⟩ = some (.int .u64 0)
  fz : ∀ j, wr.frozen? ⟨w.heap.size, j, none⟩ = false

theorem fz_row {W : World} {b t : Nat} {C : Array Value} (h : W.heap[b]? = some (.cells C t (0, 0))) (j : Nat) : W.frozen? ⟨b, j, none⟩ = false := by simp [World.frozen?, h]

def zrow1 (l : Nat) : Array Value := madeCells #[.int .u64 0] l
theorem cl_start (w : World) (l : Nat) (zs : Nat → Nat) : Cl w (w.alloc (.cells (zrow1 l) 22)) l 0 zs := by
  have hb : (w.alloc (.cells (zrow1 l) 22)).heap[w.heap.size]? = some (.cells (zrow1 l) 22 (0, 0)) := heap_alloc_last w _
  refine ⟨below_new (Below.refl _ _) _, by simp, fun j hj => by omega, fun j _ hj => ?_, fun j => fz_row hb j⟩
  rw [cell_of_row _ _ j _ _ _ hb]
  unfold zrow1 madeCells
  simp [hj]
  rw [Nat.mod_one]; rfl
theorem Cl.next {w wr : World} {l k : Nat} {zs : Nat → Nat} (h : Cl w wr l k zs) (hk : k < l) : Cl w (wr.setCell ⟨w.heap.size, k, none⟩ (.int .u64 (zs k : Int))) l (k + 1) zs := by
  refine ⟨h.b.setCell (Nat.le_refl _) _, by simpa [World.setCell] using h.lt, fun j hj => ?_, fun j hj hl => (cs_other (Or.inr (by omega))).trans (h.rest j (by omega) hl), fun j => (World.frozen?_setCell _ _ _ _).trans (h.fz j)⟩
  by_cases q : j = k
  · subst q; exact World.cell?_setCell_same _ _ _ (h.rest j (by omega) hk)
  · exact (cs_other (Or.inr (by omega))).trans (h.done j (by omega))

set_option maxHeartbeats 400000 in
theorem clone_any (b off l c : Nat) (zs : Nat → Nat) (w : World) (hl1 : 1 ≤ l) (hl : l ≤ 65536) (hc : ∀ j, j < l → w.cell? ⟨b, off + j, none⟩ = some (.int .u64 (zs j : Int))) :
    Calls Tryf.prog 8 #[.slice (some ⟨b, off, none⟩) l c] w fun e w' => e = .returned (.slice (some ⟨w.heap.size, 0, none⟩) l l) ∧ Cl w w' l l zs := by
  have hb : b < w.heap.size := lt_of_cell (hc 0 (by omega))
  have hmk : ∀ w : World, (Instr.makeSlice 23 (.int .i64 (l : Int)) (.int .i64 (l : Int))).run Tryf.prog w = .ok (.slice (some ⟨w.heap.size, 0, none⟩) l l) (w.alloc (.cells (zrow1 l) 22)) := fun w => run_make_row' (P := Tryf.prog) 23 22 (.int .u64 0) 8 Tryf.underlying23 info22 rfl .i64 .i64 l (by omega) (by omega) w
  have hnil : ∀ w : World, (binOp .eql 23 (.slice (some ⟨b, off, none⟩) l c) (.slice none 0 0)).run Tryf.prog w = .ok (.bool false) w := fun w => run_eql_slice_nil w 23 22 (some ⟨b, off, none⟩) l c Tryf.underlying23
  have HC : Hid (∀ j, j < l → w.cell? ⟨b, off + j, none⟩ = some (.int .u64 (zs j : Int))) := hc
  clear hc
  go_enter Tryf.func8, Tryf.ntmps8
  go_wp2
  go_loopw [4] (fun i wr => ∃ k : Nat, k ≤ l ∧ i = .int .i64 k ∧ Cl w wr l k zs) (fun i _ => l - (intOf i).toNat)
  case atStart => exact ⟨0, Nat.zero_le _, rfl, cl_start w l zs⟩
  case round =>
    obtain ⟨k, hk, rfl, HCl⟩ := hrel
    by_cases hlt : k < l
    · have g : wr.cell? ⟨b, off + k, none⟩ = some (.int .u64 (zs k : Int)) := (HCl.b.cell (p := ⟨b, off + k, none⟩) hb).trans (HC.out k hlt)
      have q1 := HCl.rest k (Nat.le_refl _) hlt
      have q2 := HCl.fz k
      have i1 : (k : Int) < (l : Int) := by omega
      have HN : Hid (Cl w (wr.setCell ⟨w.heap.size, k, none⟩ (.int .u64 (zs k : Int))) l (k + 1) zs) := HCl.next hlt
      clear HCl hmk hnil
      go_wp2
      go_roundw
      case rel => exact ⟨k + 1, by omega, by go_num, HN.out⟩
      case measure => simp [intOf]; omega
    · obtain rfl : k = l := by omega
      clear hmk hnil
      go_wp2
      go_ret
      exact ⟨rfl, HCl⟩

set_option maxHeartbeats 1000000 in
theorem bytes4 (v0 v1 v2 v3 v4 v5 v7 : Value) (sa fa ea va : Option Addr) (sl sc fl fc el ec vl vc : Nat) (w : World) (h : sl + fl + el + vl ≤ 1048576) :
    Calls Tryf.prog 4 #[v0, v1, v2, v3, v4, v5, .slice sa sl sc, v7, .slice fa fl fc, .slice ea el ec, .slice va vl vc] w fun e w' => e = .returned (.bool true) ∧ w' = w := by
  go_enter Tryf.func4, Tryf.ntmps4
  go_wp2
  go_ret
  exact ⟨rfl, rfl⟩

set_option maxHeartbeats 1000000 in
theorem bytes4_not (v0 v1 v2 v3 v4 v5 v7 : Value) (sa fa ea va : Option Addr) (sl sc fl fc el ec vl vc : Nat) (w : World) (a1 : sl ≤ 9223372036854775807) (a2 : fl ≤ 9223372036854775807) (a3 : el ≤ 9223372036854775807) (a4 : vl ≤ 9223372036854775807) (h : 1048576 < sl + fl + el + vl) :
    Calls Tryf.prog 4 #[v0, v1, v2, v3, v4, v5, .slice sa sl sc, v7, .slice fa fl fc, .slice ea el ec, .slice va vl vc] w fun e w' => e = .returned (.bool false) ∧ w' = w := by
  go_enter Tryf.func4, Tryf.ntmps4
  go_wp2
  all_goals
    go_ret
    exact ⟨rfl, rfl⟩

end Go.Proofs.Qxb6609496aFmt
