/- NewRabin: a fresh node. -/
import Derived.Test.Qxb6609496aFmtNew
import Derived.Stop.IfaceNil
namespace Go.Proofs.Qxb6609496aFmt
open Go.RowKit Go.Maps
set_option linter.unusedVariables false
attribute [local go_sem ↓] Go.wp_at_zero Go.wp_at_succ

theorem bcell {W w1 : World} (hb : Below W.heap.size W w1) : (∀ b o, b < W.heap.size → w1.cell? ⟨b, o, none⟩ = W.cell? ⟨b, o, none⟩) :=
  fun b o h => hb.cell (p := ⟨b, o, none⟩) h

/-- The world behind the new node. -/
theorem fresh_made (w : World) (id n t : Nat) (a0 a1 a2 a3 a4 a5 a6 a7 : Value) :
    Fresh (((w.alloc (.cells #[.int .i64 n, .int .i64 3, .map (some (w.heap.size + 1)), .slice none 0 0] 69)).alloc (.map #[] 0)).alloc (.cells #[.int .i64 (id : Int), .int .i64 (n : Int), .int .i64 (t : Int), a0, a1, a2, a3, a4, a5, a6, a7, .int .i64 (n : Int), .int .i64 3, .map (some (w.heap.size + 1)), .slice none 0 0, .slice none 0 0, .bool false] 73)).drew (w.heap.size + 1 + 1) (w.heap.size + 1) id n t := by
  have hb : ((((w.alloc (.cells #[.int .i64 n, .int .i64 3, .map (some (w.heap.size + 1)), .slice none 0 0] 69)).alloc (.map #[] 0)).alloc (.cells #[.int .i64 (id : Int), .int .i64 (n : Int), .int .i64 (t : Int), a0, a1, a2, a3, a4, a5, a6, a7, .int .i64 (n : Int), .int .i64 3, .map (some (w.heap.size + 1)), .slice none 0 0, .slice none 0 0, .bool false] 73)).drew).heap[w.heap.size + 1 + 1]? = some (.cells #[.int .i64 (id : Int), .int .i64 (n : Int), .int .i64 (t : Int), a0, a1, a2, a3, a4, a5, a6, a7, .int .i64 (n : Int), .int .i64 3, .map (some (w.heap.size + 1)), .slice none 0 0, .slice none 0 0, .bool false] 73 (0, 0)) := by
    show (((w.heap.push _).push _).push _)[w.heap.size + 1 + 1]? = _
    rw [Array.getElem?_push, if_pos (by simp)]
  have cell := fun j => cell_of_row _ _ j _ _ _ hb
  refine ⟨⟨by rw [cell]; rfl, by rw [cell]; rfl, by rw [cell]; rfl, by rw [cell]; rfl, by rw [cell]; rfl, by rw [cell]; rfl, by rw [cell]; rfl⟩, ?_⟩
  have h := (World.ownsMap_made (w.alloc (.cells #[.int .i64 n, .int .i64 3, .map (some (w.heap.size + 1)), .slice none 0 0] 69)) Tryf.prog 24 R3).alloc (.cells #[.int .i64 (id : Int), .int .i64 (n : Int), .int .i64 (t : Int), a0, a1, a2, a3, a4, a5, a6, a7, .int .i64 (n : Int), .int .i64 3, .map (some (w.heap.size + 1)), .slice none 0 0, .slice none 0 0, .bool false] 73)
  rw [World.size_alloc] at h
  exact h.drew

theorem eqlNil (w : World) : (binOp .eql 41 (.func (.func 11) #[] #[]) .nilFunc).run Tryf.prog w = .ok (.bool false) w := by kernel_rfl

set_option maxHeartbeats 2000000 in
theorem newRabin_any (id n t i p r b off l c : Nat) (w : World) (h : 10 * t < n) (hn : n ≤ 65536) (hi : i ≤ 1) (hid1 : 1 ≤ id) (hidn : id ≤ n) (hp : n < p) (hp' : p < 4294967296) (hl1 : 1 ≤ l) (hl : l ≤ 65536)
    (hc : ∀ j, j < l → ∃ x : Nat, w.cell? ⟨b, off + j, none⟩ = some (.int .u64 (x : Int)) ∧ x < p) :
    Calls Tryf.prog 9 #[.agg #[.int .i64 id, .int .i64 n, .int .i64 t, .int .u8 i, .int .u64 p, .int .u64 r, .slice (some ⟨b, off, none⟩) l c, .func (.func 11) #[] #[]]] w
      fun e w' => ∃ rb mb, e = .returned (.tuple #[.pointer (some ⟨rb, 0, none⟩), .nilIface]) ∧ Fresh w' rb mb id n t ∧ Below w.heap.size w w' ∧ w.heap.size ≤ rb ∧ w.heap.size ≤ mb := by
  have hb : b < w.heap.size := by
    obtain ⟨x, q, _⟩ := hc 0 (by omega)
    exact lt_of_cell q
  have HC : Hid (∀ W : World, W.heap[b]? = w.heap[b]? → ∀ j, j < l → ∃ x : Nat, W.cell? ⟨b, off + j, none⟩ = some (.int .u64 (x : Int)) ∧ x < p) := fun W hW j hj => by
    obtain ⟨x, q, hx⟩ := hc j hj
    exact ⟨x, (World.cell?_of_block (a := ⟨b, off + j, none⟩) hW).trans q, hx⟩
  clear hc
  go_enter Tryf.func9, Tryf.ntmps9
  go_wp2_with fail
  refine (checkNode_any n t i _ h hn hi).mono ?_
  rintro e0 w0 ⟨rfl, rfl⟩
  go_wp2_with fail
  refine (checkField_any p r n _ hp hp' hn).mono ?_
  rintro e1 w1 ⟨rfl, hb1⟩
  have z1 := hb1.size
  simp only [World.size_alloc] at z1
  have k1 := bcell hb1
  simp only [World.size_alloc] at k1
  go_wp2_with fail
  refine (checkShares_any b off l c p r _ hl1 hl (by omega) ?_).mono ?_
  · exact HC.out w1 ((hb1.block b (by simp; omega)).trans (Below.heap_alloc w _ b hb))
  rintro e2 w2 ⟨rfl, hb2⟩
  have hb12 := hb1.trans (hb2.mono hb1.size)
  have z2 := hb12.size
  simp only [World.size_alloc] at z2
  have k2 := bcell hb12
  simp only [World.size_alloc] at k2
  clear k1 z1
  have e0 : w2.cell? ⟨w.heap.size, 0, none⟩ = some (.int .i64 (id : Int)) := (k2 _ 0 (by omega)).trans (by go_simp)
  have e1 : w2.cell? ⟨w.heap.size, 1, none⟩ = some (.int .i64 (n : Int)) := (k2 _ 1 (by omega)).trans (by go_simp)
  have e2 : w2.cell? ⟨w.heap.size, 2, none⟩ = some (.int .i64 (t : Int)) := (k2 _ 2 (by omega)).trans (by go_simp)
  have e3 : w2.cell? ⟨w.heap.size, 3, none⟩ = some (.int .u8 (i : Int)) := (k2 _ 3 (by omega)).trans (by go_simp)
  have e4 : w2.cell? ⟨w.heap.size, 4, none⟩ = some (.int .u64 (p : Int)) := (k2 _ 4 (by omega)).trans (by go_simp)
  have e5 : w2.cell? ⟨w.heap.size, 5, none⟩ = some (.int .u64 (r : Int)) := (k2 _ 5 (by omega)).trans (by go_simp)
  have e6 : w2.cell? ⟨w.heap.size, 6, none⟩ = some (.slice (some ⟨b, off, none⟩) l c) := (k2 _ 6 (by omega)).trans (by go_simp)
  have e7 : w2.cell? ⟨w.heap.size, 7, none⟩ = some (.func (.func 11) #[] #[]) := (k2 _ 7 (by omega)).trans (by go_simp)
  clear k2
  have hq := eqlNil
  have zz : w.heap.size < w2.heap.size := by omega
  have HZ1 : Hid (∀ o, w.heap.size < (w2.alloc o).heap.size) := fun o => by rw [World.size_alloc]; omega
  have HZ2 : Hid (∀ o o', w.heap.size < ((w2.alloc o).alloc o').heap.size) := fun o o' => by rw [World.size_alloc, World.size_alloc]; omega
  have HK : Hid (∀ W : World, W.heap[w.heap.size]? = w2.heap[w.heap.size]? → W.cell? ⟨w.heap.size, 0, none⟩ = some (.int .i64 (id : Int)) ∧ W.cell? ⟨w.heap.size, 1, none⟩ = some (.int .i64 (n : Int)) ∧ W.cell? ⟨w.heap.size, 2, none⟩ = some (.int .i64 (t : Int)) ∧ W.cell? ⟨w.heap.size, 3, none⟩ = some (.int .u8 (i : Int)) ∧ W.cell? ⟨w.heap.size, 4, none⟩ = some (.int .u64 (p : Int)) ∧ W.cell? ⟨w.heap.size, 5, none⟩ = some (.int .u64 (r : Int)) ∧ W.cell? ⟨w.heap.size, 6, none⟩ = some (.slice (some ⟨b, off, none⟩) l c) ∧ W.cell? ⟨w.heap.size, 7, none⟩ = some (.func (.func 11) #[] #[])) := fun W hW => by
    have q : ∀ o, W.cell? ⟨w.heap.size, o, none⟩ = w2.cell? ⟨w.heap.size, o, none⟩ := fun o => World.cell?_of_block (a := ⟨w.heap.size, o, none⟩) hW
    exact ⟨(q _).trans e0, (q _).trans e1, (q _).trans e2, (q _).trans e3, (q _).trans e4, (q _).trans e5, (q _).trans e6, (q _).trans e7⟩
  go_wp2_with fail
  go_region_held3 (fun w' => w'.cell? ⟨w.heap.size, 0, none⟩ = some (.int .i64 (id : Int)) ∧ w'.cell? ⟨w.heap.size, 1, none⟩ = some (.int .i64 (n : Int)) ∧ w'.cell? ⟨w.heap.size, 2, none⟩ = some (.int .i64 (t : Int)) ∧ w'.cell? ⟨w.heap.size, 3, none⟩ = some (.int .u8 (i : Int)) ∧ w'.cell? ⟨w.heap.size, 4, none⟩ = some (.int .u64 (p : Int)) ∧ w'.cell? ⟨w.heap.size, 5, none⟩ = some (.int .u64 (r : Int)) ∧ w'.cell? ⟨w.heap.size, 6, none⟩ = some (.slice (some ⟨b, off, none⟩) l c) ∧ w'.cell? ⟨w.heap.size, 7, none⟩ = some (.func (.func 11) #[] #[])) (first | exact HK.out _ rfl | (refine HK.out _ ?_; exact (Below.heap_alloc _ _ w.heap.size (HZ1.out _)).trans (Below.heap_alloc w2 _ w.heap.size zz)) | (refine HK.out _ ?_; exact (Below.heap_alloc _ _ w.heap.size (HZ2.out _ _)).trans ((Below.heap_alloc _ _ w.heap.size (HZ1.out _)).trans (Below.heap_alloc w2 _ w.heap.size zz))))
    (first | (go_at_call 23; refine (newTallies_any n _).mono ?_; rintro e9 w9 ⟨rfl, rfl⟩))
  have hB : Below w.heap.size w w2 := (below_new (Below.refl _ w) _).trans (hb12.mono (by simp))
  have hF := fresh_made w2 id n t (.int .u64 (p : Int)) (.int .u64 (r : Int)) (.slice (some ⟨b, off, none⟩) l c) (.func (.func 11) #[] #[]) (.int .u32 (IntKind.u32.wrap (l : Int))) (.int .u8 (i : Int)) (.int .u32 0) (.int .u8 0)
  clear e0 e1 e2 e3 e4 e5 e6 e7 HK
  go_wp2
  go_ret2
  exact ⟨w2.heap.size + 1 + 1, w2.heap.size + 1, rfl, hF, (below_new (below_new (below_new hB _) _) _).drew, by omega, by omega⟩

end Go.Proofs.Qxb6609496aFmt
