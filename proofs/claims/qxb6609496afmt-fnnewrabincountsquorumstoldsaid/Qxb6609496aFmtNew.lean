/- checkShares, newTallies, ZZField, NewRabin. -/
import Derived.Test.Qxb6609496aFmtChecks2
namespace Go.Proofs.Qxb6609496aFmt
open Go.RowKit Go.Maps
set_option linter.unusedVariables false
attribute [local go_sem ↓] Go.wp_at_zero Go.wp_at_succ

set_option maxHeartbeats 1000000 in
theorem checkShares_any (b off n c p r : Nat) (w : World) (hn1 : 1 ≤ n) (hbig : n ≤ 65536) (hp : p < 18446744073709551616)
    (hc : ∀ j, j < n → ∃ x : Nat, w.cell? ⟨b, off + j, none⟩ = some (.int .u64 (x : Int)) ∧ x < p) :
    Calls Tryf.prog 21 #[.agg #[.int .u64 p, .int .u64 r], .slice (some ⟨b, off, none⟩) n c] w fun e w' => e = .returned .nilIface ∧ Below w.heap.size w w' := by
  have hb : b < w.heap.size := by
    obtain ⟨x, h, _⟩ := hc 0 (by omega)
    exact lt_of_cell h
  have HC : Hid (∀ W : World, (∀ k, k < w.heap.size → W.heap[k]? = w.heap[k]?) → ∀ j, j < n → ∃ x : Nat, W.cell? ⟨b, off + j, none⟩ = some (.int .u64 (x : Int)) ∧ x < p) := fun W hW j hj => by
    obtain ⟨x, h, hx⟩ := hc j hj
    exact ⟨x, (World.cell?_of_block (a := ⟨b, off + j, none⟩) (hW b hb)).trans h, hx⟩
  clear hc
  go_enter Tryf.func21, Tryf.ntmps21
  go_wp2_with fail
  go_region_held3 (fun w' => w'.cell? ⟨w.heap.size, 0, none⟩ = some (.int .u64 (p : Int)) ∧ w'.cell? ⟨w.heap.size, 1, none⟩ = some (.int .u64 (r : Int))) (go_keep)
    (first | (go_at_call 29; refine (prime_any _ _ _).mono ?_; rintro e w1 ⟨rfl, rfl⟩) | (go_at_call 30; refine (max_any b off n c p _ hn1 hbig hp ?_).mono ?_; (apply HC.out; intro k hk; first | exact Below.heap_alloc w _ k hk | exact (Below.heap_alloc _ _ k (by simp; omega)).trans (Below.heap_alloc w _ k hk)); rintro e w1 ⟨⟨m, hm, rfl⟩, rfl⟩))
  go_wp2
  go_ret
  exact ⟨rfl, (below_new (below_new (Below.refl _ _) _) _).drew⟩

set_option maxHeartbeats 400000 in
theorem newTallies_any (n : Nat) (w : World) :
    Calls Tryf.prog 23 #[.int .i64 n, .int .i64 3] w fun e w' => e = .returned (.agg #[.int .i64 n, .int .i64 3, .map (some (w.heap.size + 1)), .slice none 0 0]) ∧
      w' = (w.alloc (.cells #[.int .i64 n, .int .i64 3, .map (some (w.heap.size + 1)), .slice none 0 0] 69)).alloc (.map #[] 0) := by
  have hmm := @run_makeMap Tryf.prog
  go_enter Tryf.func23, Tryf.ntmps23
  go_wp2
  exact bodyPost_ret (v := .agg #[.int .i64 n, .int .i64 3, .map (some (w.heap.size + 1)), .slice none 0 0]) (by simp [results, Tryf.results23, go_sem]) rfl ⟨rfl, rfl⟩

set_option maxHeartbeats 400000 in
theorem zzfield_any (p r : Nat) (w : World) :
    Calls Tryf.prog 10 #[.int .u64 p, .int .u64 r] w fun e w' => e = .returned (.agg #[.int .u64 p, .int .u64 r]) ∧ w' = w.alloc (.cells #[.int .u64 p, .int .u64 r] 39) := by
  go_enter Tryf.func10, Tryf.ntmps10
  go_wp2
  exact bodyPost_ret (v := .agg #[.int .u64 p, .int .u64 r]) (by simp [results, Tryf.results10, go_sem]) rfl ⟨rfl, rfl⟩

end Go.Proofs.Qxb6609496aFmt
