/- (*Rabin).count. -/
import Derived.Test.Qxb6609496aFmtRab
import Derived.Deep.WholeRow
namespace Go.Proofs.Qxb6609496aFmt
open Go.RowKit Go.Maps
attribute [local go_sem ↓] Go.wp_at_zero Go.wp_at_succ

section
variable {w : World} {tb hb wd n base : Nat} {pv : Value} {seen : Nat → Nat → Bool} {c v0 v1 : Nat → Nat} {pts : List (Nat × Nat)}
theorem add_no (h : Tal w tb hb wd n base pv seen c v0 v1 pts) {e f v : Nat} {Q : Int} (h0 : 0 ≤ Q) (he : e < 3) (h1 : 1 ≤ f) (hfn : f ≤ n) (hn : n ≤ 65536) (hno : Q ≤ (c e : Int) ∨ seen e f = true) :
    Calls Tryf.prog 31 #[.pointer (some ⟨tb, e * 5, none⟩), .int .i64 f, .int .u32 v, .int .i64 Q] w fun e' w' => e' = .returned (.bool false) ∧ ∃ m, w' = w.drewN m := by
  obtain ⟨q, rfl⟩ := Int.eq_ofNat_of_zero_le h0
  exact add_tal_no h he h1 hfn hn (hno.imp (fun a => by omega) id)
theorem add_yes (h : Tal w tb hb wd n base pv seen c v0 v1 pts) {e f v : Nat} {Q : Int} (he : e < 3) (h1 : 1 ≤ f) (hfn : f ≤ n) (hn : n ≤ 65536) (hq : (c e : Int) < Q) (hs : seen e f = false) (hc' : c e ≤ 1000000) (hv0 : v0 e ≤ 1000000) (hv1 : v1 e ≤ 1000000) :
    Calls Tryf.prog 31 #[.pointer (some ⟨tb, e * 5, none⟩), .int .i64 f, .int .u32 v, .int .i64 Q] w fun e' w' => e' = .returned (.bool true) ∧
      Tal w' tb hb wd n base pv (fun e' g => if e' = e ∧ g = f then true else seen e' g) (put c e (c e + 1)) (put v0 e (v0 e + b2n (v = 0))) (put v1 e (v1 e + b2n (v = 1))) pts ∧ Ch w w' [tb, hb] := by
  obtain ⟨q, rfl⟩ := Int.eq_ofNat_of_zero_le (show 0 ≤ Q by omega)
  exact add_tal_yes h he h1 hfn hn (by omega) hs hc' hv0 hv1
end

/-- The state behind a counted message, the points aside. -/
theorem put_cnt {S : St} {id e f v : Nat} (hs : S.seen e f = false) : put (cnt S id) e (cnt S id e + 1) = cnt (took S id e f v) id := by
  funext e'
  unfold put cnt took up
  by_cases he : e' = e
  · subst he
    by_cases hf : f = id
    · subst hf; simp [b2n, hs]
    · have : ¬ id = f := fun h => hf h.symm
      simp [b2n, hf, this]; omega
  · simp [he]
theorem put_up (g : Nat → Nat) (e k : Nat) : put g e (g e + k) = up g e k := by
  funext e'
  unfold put up
  split
  · rename_i q; rw [q]
  · rfl

theorem made_took {w w' : World} {rb mb id n t r wd base tb hb e f v : Nat} {pv : Value} {S : St} (hM : Made w rb mb id n t r wd base tb hb pv S) (hs : S.seen e f = false) (e2 : e ≠ 2)
    (hT : Tal w' tb hb wd n base pv (fun e' g => if e' = e ∧ g = f then true else S.seen e' g) (put (cnt S id) e (cnt S id e + 1)) (put S.v0 e (S.v0 e + b2n (v = 0))) (put S.v1 e (S.v1 e + b2n (v = 1))) S.pts) (hC : Ch w w' [tb, hb]) :
    Made w' rb mb id n t r wd base tb hb pv (took S id e f v) := by
  rw [put_cnt (v := v) hs, put_up, put_up] at hT
  have o1 := hM.out tb (by simp [fpOf])
  have o2 := hM.out hb (by simp [fpOf])
  refine ⟨hM.rbh.keep (hC.blk _ ?_), map_keep hM.m (hC.blk _ ?_), ?_, hM.out⟩
  · simp; exact ⟨fun q => o1.1 q.symm, fun q => o2.1 q.symm⟩
  · simp; exact ⟨fun q => o1.2 q.symm, fun q => o2.2 q.symm⟩
  · have e1 : (took S id e f v).pts = S.pts := by simp [took, e2]
    rw [e1]
    exact hT

set_option maxHeartbeats 1000000 in
theorem count_a_id_yes {w : World} {rb mb id n t r wd base e f v k : Nat} {fp : List Nat} {S : St} (h : Rab w rb mb id n t r wd base fp S) (_hok : Ok S id n t k) (_hk : k ≤ 100000) (hr : r < 4294967296) (he : e < 3) (hwd : wd ≤ 1024) (hwd1 : 1 ≤ wd) (hwide : ∀ f, f ≤ n → (f - 1) / 64 < wd)
    (HW : Hid (∀ w : World, Calls Tryf.prog 34 #[.int .i64 n] w fun e w' => e = .returned (.int .i64 (wd : Int)) ∧ w' = w)) (hn : n ≤ 65536) (ht : t < n) (hf1 : 1 ≤ f) (hfn : f ≤ n)
    (c0 : w.cell? ⟨rb, 0, none⟩ = some (.int .i64 (id : Int))) (c1 : w.cell? ⟨rb, 1, none⟩ = some (.int .i64 (n : Int))) (c2 : w.cell? ⟨rb, 2, none⟩ = some (.int .i64 (t : Int)))
    (e2 : e ≠ 2) (tid : ((f : Int) != (id : Int)) = false) (hs : S.seen e f = false) (hq : (cnt S id e : Int) < ((n : Int) - (t : Int))) :
    Calls Tryf.prog 24 #[.pointer (some ⟨rb, 0, none⟩), .int .i64 f, .agg #[.int .u8 ((e : Int) + 1), .int .u32 r, .int .u32 v]] w fun e' w' => e' = .returned (.tuple #[]) ∧ ∃ fp', Rab w' rb mb id n t r wd base fp' (took S id e f v) ∧ Step w w' mb fp fp' := by
  have hrb : rb < w.heap.size := lt_of_cell c0
  have t3 : ((e : Int) + 1 == 3) = false := by simp; omega
  have hlt := h.lt hwd1
  go_enter Tryf.func24, Tryf.ntmps24
  go_wp2
  go_quiet (fail)
  go_wp2_with fail
  go_region_held3 (fun w' => w'.cell? ⟨w.heap.size, 0, none⟩ = some (.int .u8 ((e : Int) + 1)) ∧ w'.cell? ⟨w.heap.size, 1, none⟩ = some (.int .u32 (r : Int))) (go_keep)
    (first | (go_at_call 25; refine (of_any (h.keep ?_) hr he hwd hwd1 hwide HW.out).mono ?_; (intro k q; exact Below.heap_alloc w _ k (hlt k q)); rintro e' w1 ⟨tb, hb, pv, rfl, hM, hS⟩; have hm : w1.heap[w.heap.size]? = some (.cells #[.int .u8 ((e : Int) + 1), .int .u32 (r : Int), .int .u32 (v : Int)] 49 (0, 0)) := (hS.blk w.heap.size (by simp) (fun q => absurd (hlt mb (Or.inr (Or.inl rfl))) (by omega)) (fun q => absurd (hlt _ (Or.inr (Or.inr q))) (by omega))).trans (heap_alloc_last w _); have m0 := cell_of_row w1 _ 0 _ _ _ hm; have m1 := cell_of_row w1 _ 1 _ _ _ hm; have m2 := cell_of_row w1 _ 2 _ _ _ hm; simp at m0 m1 m2))
  have d0 := hM.rbh.c0
  have hnot : ∀ k, k ∈ fpOf tb hb pv → w.heap.size ≠ k := fun k q => by
    rcases hS.fp k q with a | a
    · have := hlt k (Or.inr (Or.inr a)); omega
    · simp at a; omega
  go_wp2_with fail
  refine (add_yes hM.tal he hf1 hfn hn ?_ hs ?_ ?_ ?_).mono ?_
  · exact hq
  · have := _hok.c e; have := b2n_le (S.seen e id); unfold cnt; omega
  · have := _hok.v0 e; omega
  · have := _hok.v1 e; omega
  rintro e' w2 ⟨rfl, hT, hC⟩
  have nb : w2.heap[w.heap.size]? = w1.heap[w.heap.size]? := hC.blk _ (by simp [hnot tb (by simp [fpOf]), hnot hb (by simp [fpOf])])
  have n0 : w2.cell? ⟨w.heap.size, 0, none⟩ = some (.int .u8 ((e : Int) + 1)) := (World.cell?_of_block (a := ⟨w.heap.size, 0, none⟩) nb).trans m0
  go_wp2
  go_end0
  refine ⟨rfl, fpOf tb hb pv, Or.inr ⟨tb, hb, pv, rfl, made_took hM hs e2 hT hC⟩, ((((Step.refl w mb fp).alloc _).drewN _).trans hS).ch hC (by simp [fpOf])⟩

set_option maxHeartbeats 1000000 in
theorem count_a_id_no {w : World} {rb mb id n t r wd base e f v k : Nat} {fp : List Nat} {S : St} (h : Rab w rb mb id n t r wd base fp S) (_hok : Ok S id n t k) (_hk : k ≤ 100000) (hr : r < 4294967296) (he : e < 3) (hwd : wd ≤ 1024) (hwd1 : 1 ≤ wd) (hwide : ∀ f, f ≤ n → (f - 1) / 64 < wd)
    (HW : Hid (∀ w : World, Calls Tryf.prog 34 #[.int .i64 n] w fun e w' => e = .returned (.int .i64 (wd : Int)) ∧ w' = w)) (hn : n ≤ 65536) (ht : t < n) (hf1 : 1 ≤ f) (hfn : f ≤ n)
    (c0 : w.cell? ⟨rb, 0, none⟩ = some (.int .i64 (id : Int))) (c1 : w.cell? ⟨rb, 1, none⟩ = some (.int .i64 (n : Int))) (c2 : w.cell? ⟨rb, 2, none⟩ = some (.int .i64 (t : Int)))
    (e2 : e ≠ 2) (tid : ((f : Int) != (id : Int)) = false) (hno : ((n : Int) - (t : Int)) ≤ (cnt S id e : Int) ∨ S.seen e f = true) :
    Calls Tryf.prog 24 #[.pointer (some ⟨rb, 0, none⟩), .int .i64 f, .agg #[.int .u8 ((e : Int) + 1), .int .u32 r, .int .u32 v]] w fun e' w' => e' = .returned (.tuple #[]) ∧ ∃ fp', Rab w' rb mb id n t r wd base fp' (S) ∧ Step w w' mb fp fp' := by
  have hrb : rb < w.heap.size := lt_of_cell c0
  have t3 : ((e : Int) + 1 == 3) = false := by simp; omega
  have hlt := h.lt hwd1
  go_enter Tryf.func24, Tryf.ntmps24
  go_wp2
  go_quiet (fail)
  go_wp2_with fail
  go_region_held3 (fun w' => w'.cell? ⟨w.heap.size, 0, none⟩ = some (.int .u8 ((e : Int) + 1)) ∧ w'.cell? ⟨w.heap.size, 1, none⟩ = some (.int .u32 (r : Int))) (go_keep)
    (first | (go_at_call 25; refine (of_any (h.keep ?_) hr he hwd hwd1 hwide HW.out).mono ?_; (intro k q; exact Below.heap_alloc w _ k (hlt k q)); rintro e' w1 ⟨tb, hb, pv, rfl, hM, hS⟩; have hm : w1.heap[w.heap.size]? = some (.cells #[.int .u8 ((e : Int) + 1), .int .u32 (r : Int), .int .u32 (v : Int)] 49 (0, 0)) := (hS.blk w.heap.size (by simp) (fun q => absurd (hlt mb (Or.inr (Or.inl rfl))) (by omega)) (fun q => absurd (hlt _ (Or.inr (Or.inr q))) (by omega))).trans (heap_alloc_last w _); have m0 := cell_of_row w1 _ 0 _ _ _ hm; have m1 := cell_of_row w1 _ 1 _ _ _ hm; have m2 := cell_of_row w1 _ 2 _ _ _ hm; simp at m0 m1 m2))
  have d0 := hM.rbh.c0
  have hnot : ∀ k, k ∈ fpOf tb hb pv → w.heap.size ≠ k := fun k q => by
    rcases hS.fp k q with a | a
    · have := hlt k (Or.inr (Or.inr a)); omega
    · simp at a; omega
  go_wp2_with fail
  refine (add_no hM.tal ?_ he hf1 hfn hn hno).mono ?_
  · omega
  rintro e' w2 ⟨rfl, m', rfl⟩
  go_wp2
  go_end0
  exact ⟨rfl, fpOf tb hb pv, Or.inr ⟨tb, hb, pv, rfl, hM.keep (fun _ _ => rfl)⟩, ((((Step.refl w mb fp).alloc _).drewN _).trans hS).drewN _⟩

set_option maxHeartbeats 1000000 in
theorem count_a_old_yes {w : World} {rb mb id n t r wd base e f v k : Nat} {fp : List Nat} {S : St} (h : Rab w rb mb id n t r wd base fp S) (_hok : Ok S id n t k) (_hk : k ≤ 100000) (hr : r < 4294967296) (he : e < 3) (hwd : wd ≤ 1024) (hwd1 : 1 ≤ wd) (hwide : ∀ f, f ≤ n → (f - 1) / 64 < wd)
    (HW : Hid (∀ w : World, Calls Tryf.prog 34 #[.int .i64 n] w fun e w' => e = .returned (.int .i64 (wd : Int)) ∧ w' = w)) (hn : n ≤ 65536) (ht : t < n) (hf1 : 1 ≤ f) (hfn : f ≤ n)
    (c0 : w.cell? ⟨rb, 0, none⟩ = some (.int .i64 (id : Int))) (c1 : w.cell? ⟨rb, 1, none⟩ = some (.int .i64 (n : Int))) (c2 : w.cell? ⟨rb, 2, none⟩ = some (.int .i64 (t : Int)))
    (e2 : e ≠ 2) (tid : ((f : Int) != (id : Int)) = true) (hsid : S.seen e id = true) (hid1 : 1 ≤ id) (hidn : id ≤ n) (hs : S.seen e f = false) (hq : (cnt S id e : Int) < ((n : Int) - (t : Int))) :
    Calls Tryf.prog 24 #[.pointer (some ⟨rb, 0, none⟩), .int .i64 f, .agg #[.int .u8 ((e : Int) + 1), .int .u32 r, .int .u32 v]] w fun e' w' => e' = .returned (.tuple #[]) ∧ ∃ fp', Rab w' rb mb id n t r wd base fp' (took S id e f v) ∧ Step w w' mb fp fp' := by
  have hrb : rb < w.heap.size := lt_of_cell c0
  have t3 : ((e : Int) + 1 == 3) = false := by simp; omega
  have hlt := h.lt hwd1
  go_enter Tryf.func24, Tryf.ntmps24
  go_wp2
  go_quiet (fail)
  go_wp2_with fail
  go_region_held3 (fun w' => w'.cell? ⟨w.heap.size, 0, none⟩ = some (.int .u8 ((e : Int) + 1)) ∧ w'.cell? ⟨w.heap.size, 1, none⟩ = some (.int .u32 (r : Int))) (go_keep)
    (first | (go_at_call 25; refine (of_any (h.keep ?_) hr he hwd hwd1 hwide HW.out).mono ?_; (intro k q; exact Below.heap_alloc w _ k (hlt k q)); rintro e' w1 ⟨tb, hb, pv, rfl, hM, hS⟩; have hm : w1.heap[w.heap.size]? = some (.cells #[.int .u8 ((e : Int) + 1), .int .u32 (r : Int), .int .u32 (v : Int)] 49 (0, 0)) := (hS.blk w.heap.size (by simp) (fun q => absurd (hlt mb (Or.inr (Or.inl rfl))) (by omega)) (fun q => absurd (hlt _ (Or.inr (Or.inr q))) (by omega))).trans (heap_alloc_last w _); have m0 := cell_of_row w1 _ 0 _ _ _ hm; have m1 := cell_of_row w1 _ 1 _ _ _ hm; have m2 := cell_of_row w1 _ 2 _ _ _ hm; simp at m0 m1 m2))
  have d0 := hM.rbh.c0
  have hnot : ∀ k, k ∈ fpOf tb hb pv → w.heap.size ≠ k := fun k q => by
    rcases hS.fp k q with a | a
    · have := hlt k (Or.inr (Or.inr a)); omega
    · simp at a; omega
  go_wp2_with fail
  refine (has_tal hM.tal he hid1 hidn hn).mono ?_
  rintro e' w1' ⟨rfl, m, rfl⟩
  go_wp2_with fail
  refine (add_yes (hM.tal.drewN m) he hf1 hfn hn ?_ hs ?_ ?_ ?_).mono ?_
  · exact hq
  · have := _hok.c e; have := b2n_le (S.seen e id); unfold cnt; omega
  · have := _hok.v0 e; omega
  · have := _hok.v1 e; omega
  rintro e' w2 ⟨rfl, hT, hC⟩
  have nb : w2.heap[w.heap.size]? = w1.heap[w.heap.size]? := hC.blk _ (by simp [hnot tb (by simp [fpOf]), hnot hb (by simp [fpOf])])
  have n0 : w2.cell? ⟨w.heap.size, 0, none⟩ = some (.int .u8 ((e : Int) + 1)) := (World.cell?_of_block (a := ⟨w.heap.size, 0, none⟩) nb).trans m0
  go_wp2
  go_end0
  refine ⟨rfl, fpOf tb hb pv, Or.inr ⟨tb, hb, pv, rfl, made_took (hM.keep (w' := w1.drewN m) (fun _ _ => rfl)) hs e2 hT hC⟩, (((((Step.refl w mb fp).alloc _).drewN _).trans hS).drewN m).ch hC (by simp [fpOf])⟩

set_option maxHeartbeats 1000000 in
theorem count_a_old_no {w : World} {rb mb id n t r wd base e f v k : Nat} {fp : List Nat} {S : St} (h : Rab w rb mb id n t r wd base fp S) (_hok : Ok S id n t k) (_hk : k ≤ 100000) (hr : r < 4294967296) (he : e < 3) (hwd : wd ≤ 1024) (hwd1 : 1 ≤ wd) (hwide : ∀ f, f ≤ n → (f - 1) / 64 < wd)
    (HW : Hid (∀ w : World, Calls Tryf.prog 34 #[.int .i64 n] w fun e w' => e = .returned (.int .i64 (wd : Int)) ∧ w' = w)) (hn : n ≤ 65536) (ht : t < n) (hf1 : 1 ≤ f) (hfn : f ≤ n)
    (c0 : w.cell? ⟨rb, 0, none⟩ = some (.int .i64 (id : Int))) (c1 : w.cell? ⟨rb, 1, none⟩ = some (.int .i64 (n : Int))) (c2 : w.cell? ⟨rb, 2, none⟩ = some (.int .i64 (t : Int)))
    (e2 : e ≠ 2) (tid : ((f : Int) != (id : Int)) = true) (hsid : S.seen e id = true) (hid1 : 1 ≤ id) (hidn : id ≤ n) (hno : ((n : Int) - (t : Int)) ≤ (cnt S id e : Int) ∨ S.seen e f = true) :
    Calls Tryf.prog 24 #[.pointer (some ⟨rb, 0, none⟩), .int .i64 f, .agg #[.int .u8 ((e : Int) + 1), .int .u32 r, .int .u32 v]] w fun e' w' => e' = .returned (.tuple #[]) ∧ ∃ fp', Rab w' rb mb id n t r wd base fp' (S) ∧ Step w w' mb fp fp' := by
  have hrb : rb < w.heap.size := lt_of_cell c0
  have t3 : ((e : Int) + 1 == 3) = false := by simp; omega
  have hlt := h.lt hwd1
  go_enter Tryf.func24, Tryf.ntmps24
  go_wp2
  go_quiet (fail)
  go_wp2_with fail
  go_region_held3 (fun w' => w'.cell? ⟨w.heap.size, 0, none⟩ = some (.int .u8 ((e : Int) + 1)) ∧ w'.cell? ⟨w.heap.size, 1, none⟩ = some (.int .u32 (r : Int))) (go_keep)
    (first | (go_at_call 25; refine (of_any (h.keep ?_) hr he hwd hwd1 hwide HW.out).mono ?_; (intro k q; exact Below.heap_alloc w _ k (hlt k q)); rintro e' w1 ⟨tb, hb, pv, rfl, hM, hS⟩; have hm : w1.heap[w.heap.size]? = some (.cells #[.int .u8 ((e : Int) + 1), .int .u32 (r : Int), .int .u32 (v : Int)] 49 (0, 0)) := (hS.blk w.heap.size (by simp) (fun q => absurd (hlt mb (Or.inr (Or.inl rfl))) (by omega)) (fun q => absurd (hlt _ (Or.inr (Or.inr q))) (by omega))).trans (heap_alloc_last w _); have m0 := cell_of_row w1 _ 0 _ _ _ hm; have m1 := cell_of_row w1 _ 1 _ _ _ hm; have m2 := cell_of_row w1 _ 2 _ _ _ hm; simp at m0 m1 m2))
  have d0 := hM.rbh.c0
  have hnot : ∀ k, k ∈ fpOf tb hb pv → w.heap.size ≠ k := fun k q => by
    rcases hS.fp k q with a | a
    · have := hlt k (Or.inr (Or.inr a)); omega
    · simp at a; omega
  go_wp2_with fail
  refine (has_tal hM.tal he hid1 hidn hn).mono ?_
  rintro e' w1' ⟨rfl, m, rfl⟩
  go_wp2_with fail
  refine (add_no (hM.tal.drewN m) ?_ he hf1 hfn hn hno).mono ?_
  · omega
  rintro e' w2 ⟨rfl, m', rfl⟩
  go_wp2
  go_end0
  exact ⟨rfl, fpOf tb hb pv, Or.inr ⟨tb, hb, pv, rfl, hM.keep (fun _ _ => rfl)⟩, ((((Step.refl w mb fp).alloc _).drewN _).trans hS).drewN _⟩

set_option maxHeartbeats 1000000 in
theorem count_a_new_yes {w : World} {rb mb id n t r wd base e f v k : Nat} {fp : List Nat} {S : St} (h : Rab w rb mb id n t r wd base fp S) (_hok : Ok S id n t k) (_hk : k ≤ 100000) (hr : r < 4294967296) (he : e < 3) (hwd : wd ≤ 1024) (hwd1 : 1 ≤ wd) (hwide : ∀ f, f ≤ n → (f - 1) / 64 < wd)
    (HW : Hid (∀ w : World, Calls Tryf.prog 34 #[.int .i64 n] w fun e w' => e = .returned (.int .i64 (wd : Int)) ∧ w' = w)) (hn : n ≤ 65536) (ht : t < n) (hf1 : 1 ≤ f) (hfn : f ≤ n)
    (c0 : w.cell? ⟨rb, 0, none⟩ = some (.int .i64 (id : Int))) (c1 : w.cell? ⟨rb, 1, none⟩ = some (.int .i64 (n : Int))) (c2 : w.cell? ⟨rb, 2, none⟩ = some (.int .i64 (t : Int)))
    (e2 : e ≠ 2) (tid : ((f : Int) != (id : Int)) = true) (hsid : S.seen e id = false) (hid1 : 1 ≤ id) (hidn : id ≤ n) (hs : S.seen e f = false) (hq : (cnt S id e : Int) < (((n : Int) - (t : Int)) - 1)) :
    Calls Tryf.prog 24 #[.pointer (some ⟨rb, 0, none⟩), .int .i64 f, .agg #[.int .u8 ((e : Int) + 1), .int .u32 r, .int .u32 v]] w fun e' w' => e' = .returned (.tuple #[]) ∧ ∃ fp', Rab w' rb mb id n t r wd base fp' (took S id e f v) ∧ Step w w' mb fp fp' := by
  have hrb : rb < w.heap.size := lt_of_cell c0
  have t3 : ((e : Int) + 1 == 3) = false := by simp; omega
  have hlt := h.lt hwd1
  go_enter Tryf.func24, Tryf.ntmps24
  go_wp2
  go_quiet (fail)
  go_wp2_with fail
  go_region_held3 (fun w' => w'.cell? ⟨w.heap.size, 0, none⟩ = some (.int .u8 ((e : Int) + 1)) ∧ w'.cell? ⟨w.heap.size, 1, none⟩ = some (.int .u32 (r : Int))) (go_keep)
    (first | (go_at_call 25; refine (of_any (h.keep ?_) hr he hwd hwd1 hwide HW.out).mono ?_; (intro k q; exact Below.heap_alloc w _ k (hlt k q)); rintro e' w1 ⟨tb, hb, pv, rfl, hM, hS⟩; have hm : w1.heap[w.heap.size]? = some (.cells #[.int .u8 ((e : Int) + 1), .int .u32 (r : Int), .int .u32 (v : Int)] 49 (0, 0)) := (hS.blk w.heap.size (by simp) (fun q => absurd (hlt mb (Or.inr (Or.inl rfl))) (by omega)) (fun q => absurd (hlt _ (Or.inr (Or.inr q))) (by omega))).trans (heap_alloc_last w _); have m0 := cell_of_row w1 _ 0 _ _ _ hm; have m1 := cell_of_row w1 _ 1 _ _ _ hm; have m2 := cell_of_row w1 _ 2 _ _ _ hm; simp at m0 m1 m2))
  have d0 := hM.rbh.c0
  have hnot : ∀ k, k ∈ fpOf tb hb pv → w.heap.size ≠ k := fun k q => by
    rcases hS.fp k q with a | a
    · have := hlt k (Or.inr (Or.inr a)); omega
    · simp at a; omega
  go_wp2_with fail
  refine (has_tal hM.tal he hid1 hidn hn).mono ?_
  rintro e' w1' ⟨rfl, m, rfl⟩
  go_wp2_with fail
  refine (add_yes (hM.tal.drewN m) he hf1 hfn hn ?_ hs ?_ ?_ ?_).mono ?_
  · exact hq
  · have := _hok.c e; have := b2n_le (S.seen e id); unfold cnt; omega
  · have := _hok.v0 e; omega
  · have := _hok.v1 e; omega
  rintro e' w2 ⟨rfl, hT, hC⟩
  have nb : w2.heap[w.heap.size]? = w1.heap[w.heap.size]? := hC.blk _ (by simp [hnot tb (by simp [fpOf]), hnot hb (by simp [fpOf])])
  have n0 : w2.cell? ⟨w.heap.size, 0, none⟩ = some (.int .u8 ((e : Int) + 1)) := (World.cell?_of_block (a := ⟨w.heap.size, 0, none⟩) nb).trans m0
  go_wp2
  go_end0
  refine ⟨rfl, fpOf tb hb pv, Or.inr ⟨tb, hb, pv, rfl, made_took (hM.keep (w' := w1.drewN m) (fun _ _ => rfl)) hs e2 hT hC⟩, (((((Step.refl w mb fp).alloc _).drewN _).trans hS).drewN m).ch hC (by simp [fpOf])⟩

set_option maxHeartbeats 1000000 in
theorem count_a_new_no {w : World} {rb mb id n t r wd base e f v k : Nat} {fp : List Nat} {S : St} (h : Rab w rb mb id n t r wd base fp S) (_hok : Ok S id n t k) (_hk : k ≤ 100000) (hr : r < 4294967296) (he : e < 3) (hwd : wd ≤ 1024) (hwd1 : 1 ≤ wd) (hwide : ∀ f, f ≤ n → (f - 1) / 64 < wd)
    (HW : Hid (∀ w : World, Calls Tryf.prog 34 #[.int .i64 n] w fun e w' => e = .returned (.int .i64 (wd : Int)) ∧ w' = w)) (hn : n ≤ 65536) (ht : t < n) (hf1 : 1 ≤ f) (hfn : f ≤ n)
    (c0 : w.cell? ⟨rb, 0, none⟩ = some (.int .i64 (id : Int))) (c1 : w.cell? ⟨rb, 1, none⟩ = some (.int .i64 (n : Int))) (c2 : w.cell? ⟨rb, 2, none⟩ = some (.int .i64 (t : Int)))
    (e2 : e ≠ 2) (tid : ((f : Int) != (id : Int)) = true) (hsid : S.seen e id = false) (hid1 : 1 ≤ id) (hidn : id ≤ n) (hno : (((n : Int) - (t : Int)) - 1) ≤ (cnt S id e : Int) ∨ S.seen e f = true) :
    Calls Tryf.prog 24 #[.pointer (some ⟨rb, 0, none⟩), .int .i64 f, .agg #[.int .u8 ((e : Int) + 1), .int .u32 r, .int .u32 v]] w fun e' w' => e' = .returned (.tuple #[]) ∧ ∃ fp', Rab w' rb mb id n t r wd base fp' (S) ∧ Step w w' mb fp fp' := by
  have hrb : rb < w.heap.size := lt_of_cell c0
  have t3 : ((e : Int) + 1 == 3) = false := by simp; omega
  have hlt := h.lt hwd1
  go_enter Tryf.func24, Tryf.ntmps24
  go_wp2
  go_quiet (fail)
  go_wp2_with fail
  go_region_held3 (fun w' => w'.cell? ⟨w.heap.size, 0, none⟩ = some (.int .u8 ((e : Int) + 1)) ∧ w'.cell? ⟨w.heap.size, 1, none⟩ = some (.int .u32 (r : Int))) (go_keep)
    (first | (go_at_call 25; refine (of_any (h.keep ?_) hr he hwd hwd1 hwide HW.out).mono ?_; (intro k q; exact Below.heap_alloc w _ k (hlt k q)); rintro e' w1 ⟨tb, hb, pv, rfl, hM, hS⟩; have hm : w1.heap[w.heap.size]? = some (.cells #[.int .u8 ((e : Int) + 1), .int .u32 (r : Int), .int .u32 (v : Int)] 49 (0, 0)) := (hS.blk w.heap.size (by simp) (fun q => absurd (hlt mb (Or.inr (Or.inl rfl))) (by omega)) (fun q => absurd (hlt _ (Or.inr (Or.inr q))) (by omega))).trans (heap_alloc_last w _); have m0 := cell_of_row w1 _ 0 _ _ _ hm; have m1 := cell_of_row w1 _ 1 _ _ _ hm; have m2 := cell_of_row w1 _ 2 _ _ _ hm; simp at m0 m1 m2))
  have d0 := hM.rbh.c0
  have hnot : ∀ k, k ∈ fpOf tb hb pv → w.heap.size ≠ k := fun k q => by
    rcases hS.fp k q with a | a
    · have := hlt k (Or.inr (Or.inr a)); omega
    · simp at a; omega
  go_wp2_with fail
  refine (has_tal hM.tal he hid1 hidn hn).mono ?_
  rintro e' w1' ⟨rfl, m, rfl⟩
  go_wp2_with fail
  refine (add_no (hM.tal.drewN m) ?_ he hf1 hfn hn hno).mono ?_
  · omega
  rintro e' w2 ⟨rfl, m', rfl⟩
  go_wp2
  go_end0
  exact ⟨rfl, fpOf tb hb pv, Or.inr ⟨tb, hb, pv, rfl, hM.keep (fun _ _ => rfl)⟩, ((((Step.refl w mb fp).alloc _).drewN _).trans hS).drewN _⟩

set_option maxHeartbeats 1000000 in
theorem count_c_id_no {w : World} {rb mb id n t r wd base e f v k : Nat} {fp : List Nat} {S : St} (h : Rab w rb mb id n t r wd base fp S) (_hok : Ok S id n t k) (_hk : k ≤ 100000) (hr : r < 4294967296) (he : e < 3) (hwd : wd ≤ 1024) (hwd1 : 1 ≤ wd) (hwide : ∀ f, f ≤ n → (f - 1) / 64 < wd)
    (HW : Hid (∀ w : World, Calls Tryf.prog 34 #[.int .i64 n] w fun e w' => e = .returned (.int .i64 (wd : Int)) ∧ w' = w)) (hn : n ≤ 65536) (ht : t < n) (hf1 : 1 ≤ f) (hfn : f ≤ n)
    (c0 : w.cell? ⟨rb, 0, none⟩ = some (.int .i64 (id : Int))) (c1 : w.cell? ⟨rb, 1, none⟩ = some (.int .i64 (n : Int))) (c2 : w.cell? ⟨rb, 2, none⟩ = some (.int .i64 (t : Int)))
    (HE : Hid (e = 2)) (tid : ((f : Int) != (id : Int)) = false) (hno : ((t : Int) + 1) ≤ (cnt S id e : Int) ∨ S.seen e f = true) :
    Calls Tryf.prog 24 #[.pointer (some ⟨rb, 0, none⟩), .int .i64 f, .agg #[.int .u8 ((e : Int) + 1), .int .u32 r, .int .u32 v]] w fun e' w' => e' = .returned (.tuple #[]) ∧ ∃ fp', Rab w' rb mb id n t r wd base fp' (S) ∧ Step w w' mb fp fp' := by
  have hrb : rb < w.heap.size := lt_of_cell c0
  have t3 : ((e : Int) + 1 == 3) = true := by have := HE.out; simp; omega
  have hlt := h.lt hwd1
  go_enter Tryf.func24, Tryf.ntmps24
  go_wp2
  go_quiet (fail)
  go_wp2_with fail
  go_region_held3 (fun w' => w'.cell? ⟨w.heap.size, 0, none⟩ = some (.int .u8 ((e : Int) + 1)) ∧ w'.cell? ⟨w.heap.size, 1, none⟩ = some (.int .u32 (r : Int))) (go_keep)
    (first | (go_at_call 25; refine (of_any (h.keep ?_) hr he hwd hwd1 hwide HW.out).mono ?_; (intro k q; exact Below.heap_alloc w _ k (hlt k q)); rintro e' w1 ⟨tb, hb, pv, rfl, hM, hS⟩; have hm : w1.heap[w.heap.size]? = some (.cells #[.int .u8 ((e : Int) + 1), .int .u32 (r : Int), .int .u32 (v : Int)] 49 (0, 0)) := (hS.blk w.heap.size (by simp) (fun q => absurd (hlt mb (Or.inr (Or.inl rfl))) (by omega)) (fun q => absurd (hlt _ (Or.inr (Or.inr q))) (by omega))).trans (heap_alloc_last w _); have m0 := cell_of_row w1 _ 0 _ _ _ hm; have m1 := cell_of_row w1 _ 1 _ _ _ hm; have m2 := cell_of_row w1 _ 2 _ _ _ hm; simp at m0 m1 m2))
  have d0 := hM.rbh.c0
  have hnot : ∀ k, k ∈ fpOf tb hb pv → w.heap.size ≠ k := fun k q => by
    rcases hS.fp k q with a | a
    · have := hlt k (Or.inr (Or.inr a)); omega
    · simp at a; omega
  go_wp2_with fail
  refine (add_no hM.tal ?_ he hf1 hfn hn hno).mono ?_
  · omega
  rintro e' w2 ⟨rfl, m', rfl⟩
  go_wp2
  go_end0
  exact ⟨rfl, fpOf tb hb pv, Or.inr ⟨tb, hb, pv, rfl, hM.keep (fun _ _ => rfl)⟩, ((((Step.refl w mb fp).alloc _).drewN _).trans hS).drewN _⟩

set_option maxHeartbeats 1000000 in
theorem count_c_old_no {w : World} {rb mb id n t r wd base e f v k : Nat} {fp : List Nat} {S : St} (h : Rab w rb mb id n t r wd base fp S) (_hok : Ok S id n t k) (_hk : k ≤ 100000) (hr : r < 4294967296) (he : e < 3) (hwd : wd ≤ 1024) (hwd1 : 1 ≤ wd) (hwide : ∀ f, f ≤ n → (f - 1) / 64 < wd)
    (HW : Hid (∀ w : World, Calls Tryf.prog 34 #[.int .i64 n] w fun e w' => e = .returned (.int .i64 (wd : Int)) ∧ w' = w)) (hn : n ≤ 65536) (ht : t < n) (hf1 : 1 ≤ f) (hfn : f ≤ n)
    (c0 : w.cell? ⟨rb, 0, none⟩ = some (.int .i64 (id : Int))) (c1 : w.cell? ⟨rb, 1, none⟩ = some (.int .i64 (n : Int))) (c2 : w.cell? ⟨rb, 2, none⟩ = some (.int .i64 (t : Int)))
    (HE : Hid (e = 2)) (tid : ((f : Int) != (id : Int)) = true) (hsid : S.seen e id = true) (hid1 : 1 ≤ id) (hidn : id ≤ n) (hno : ((t : Int) + 1) ≤ (cnt S id e : Int) ∨ S.seen e f = true) :
    Calls Tryf.prog 24 #[.pointer (some ⟨rb, 0, none⟩), .int .i64 f, .agg #[.int .u8 ((e : Int) + 1), .int .u32 r, .int .u32 v]] w fun e' w' => e' = .returned (.tuple #[]) ∧ ∃ fp', Rab w' rb mb id n t r wd base fp' (S) ∧ Step w w' mb fp fp' := by
  have hrb : rb < w.heap.size := lt_of_cell c0
  have t3 : ((e : Int) + 1 == 3) = true := by have := HE.out; simp; omega
  have hlt := h.lt hwd1
  go_enter Tryf.func24, Tryf.ntmps24
  go_wp2
  go_quiet (fail)
  go_wp2_with fail
  go_region_held3 (fun w' => w'.cell? ⟨w.heap.size, 0, none⟩ = some (.int .u8 ((e : Int) + 1)) ∧ w'.cell? ⟨w.heap.size, 1, none⟩ = some (.int .u32 (r : Int))) (go_keep)
    (first | (go_at_call 25; refine (of_any (h.keep ?_) hr he hwd hwd1 hwide HW.out).mono ?_; (intro k q; exact Below.heap_alloc w _ k (hlt k q)); rintro e' w1 ⟨tb, hb, pv, rfl, hM, hS⟩; have hm : w1.heap[w.heap.size]? = some (.cells #[.int .u8 ((e : Int) + 1), .int .u32 (r : Int), .int .u32 (v : Int)] 49 (0, 0)) := (hS.blk w.heap.size (by simp) (fun q => absurd (hlt mb (Or.inr (Or.inl rfl))) (by omega)) (fun q => absurd (hlt _ (Or.inr (Or.inr q))) (by omega))).trans (heap_alloc_last w _); have m0 := cell_of_row w1 _ 0 _ _ _ hm; have m1 := cell_of_row w1 _ 1 _ _ _ hm; have m2 := cell_of_row w1 _ 2 _ _ _ hm; simp at m0 m1 m2))
  have d0 := hM.rbh.c0
  have hnot : ∀ k, k ∈ fpOf tb hb pv → w.heap.size ≠ k := fun k q => by
    rcases hS.fp k q with a | a
    · have := hlt k (Or.inr (Or.inr a)); omega
    · simp at a; omega
  go_wp2_with fail
  refine (has_tal hM.tal he hid1 hidn hn).mono ?_
  rintro e' w1' ⟨rfl, m, rfl⟩
  go_wp2_with fail
  refine (add_no (hM.tal.drewN m) ?_ he hf1 hfn hn hno).mono ?_
  · omega
  rintro e' w2 ⟨rfl, m', rfl⟩
  go_wp2
  go_end0
  exact ⟨rfl, fpOf tb hb pv, Or.inr ⟨tb, hb, pv, rfl, hM.keep (fun _ _ => rfl)⟩, ((((Step.refl w mb fp).alloc _).drewN _).trans hS).drewN _⟩

set_option maxHeartbeats 1000000 in
theorem count_c_new_no {w : World} {rb mb id n t r wd base e f v k : Nat} {fp : List Nat} {S : St} (h : Rab w rb mb id n t r wd base fp S) (_hok : Ok S id n t k) (_hk : k ≤ 100000) (hr : r < 4294967296) (he : e < 3) (hwd : wd ≤ 1024) (hwd1 : 1 ≤ wd) (hwide : ∀ f, f ≤ n → (f - 1) / 64 < wd)
    (HW : Hid (∀ w : World, Calls Tryf.prog 34 #[.int .i64 n] w fun e w' => e = .returned (.int .i64 (wd : Int)) ∧ w' = w)) (hn : n ≤ 65536) (ht : t < n) (hf1 : 1 ≤ f) (hfn : f ≤ n)
    (c0 : w.cell? ⟨rb, 0, none⟩ = some (.int .i64 (id : Int))) (c1 : w.cell? ⟨rb, 1, none⟩ = some (.int .i64 (n : Int))) (c2 : w.cell? ⟨rb, 2, none⟩ = some (.int .i64 (t : Int)))
    (HE : Hid (e = 2)) (tid : ((f : Int) != (id : Int)) = true) (hsid : S.seen e id = false) (hid1 : 1 ≤ id) (hidn : id ≤ n) (hno : (t : Int) ≤ (cnt S id e : Int) ∨ S.seen e f = true) :
    Calls Tryf.prog 24 #[.pointer (some ⟨rb, 0, none⟩), .int .i64 f, .agg #[.int .u8 ((e : Int) + 1), .int .u32 r, .int .u32 v]] w fun e' w' => e' = .returned (.tuple #[]) ∧ ∃ fp', Rab w' rb mb id n t r wd base fp' (S) ∧ Step w w' mb fp fp' := by
  have hrb : rb < w.heap.size := lt_of_cell c0
  have t3 : ((e : Int) + 1 == 3) = true := by have := HE.out; simp; omega
  have hlt := h.lt hwd1
  go_enter Tryf.func24, Tryf.ntmps24
  go_wp2
  go_quiet (fail)
  go_wp2_with fail
  go_region_held3 (fun w' => w'.cell? ⟨w.heap.size, 0, none⟩ = some (.int .u8 ((e : Int) + 1)) ∧ w'.cell? ⟨w.heap.size, 1, none⟩ = some (.int .u32 (r : Int))) (go_keep)
    (first | (go_at_call 25; refine (of_any (h.keep ?_) hr he hwd hwd1 hwide HW.out).mono ?_; (intro k q; exact Below.heap_alloc w _ k (hlt k q)); rintro e' w1 ⟨tb, hb, pv, rfl, hM, hS⟩; have hm : w1.heap[w.heap.size]? = some (.cells #[.int .u8 ((e : Int) + 1), .int .u32 (r : Int), .int .u32 (v : Int)] 49 (0, 0)) := (hS.blk w.heap.size (by simp) (fun q => absurd (hlt mb (Or.inr (Or.inl rfl))) (by omega)) (fun q => absurd (hlt _ (Or.inr (Or.inr q))) (by omega))).trans (heap_alloc_last w _); have m0 := cell_of_row w1 _ 0 _ _ _ hm; have m1 := cell_of_row w1 _ 1 _ _ _ hm; have m2 := cell_of_row w1 _ 2 _ _ _ hm; simp at m0 m1 m2))
  have d0 := hM.rbh.c0
  have hnot : ∀ k, k ∈ fpOf tb hb pv → w.heap.size ≠ k := fun k q => by
    rcases hS.fp k q with a | a
    · have := hlt k (Or.inr (Or.inr a)); omega
    · simp at a; omega
  go_wp2_with fail
  refine (has_tal hM.tal he hid1 hidn hn).mono ?_
  rintro e' w1' ⟨rfl, m, rfl⟩
  go_wp2_with fail
  refine (add_no (hM.tal.drewN m) ?_ he hf1 hfn hn hno).mono ?_
  · omega
  rintro e' w2 ⟨rfl, m', rfl⟩
  go_wp2
  go_end0
  exact ⟨rfl, fpOf tb hb pv, Or.inr ⟨tb, hb, pv, rfl, hM.keep (fun _ _ => rfl)⟩, ((((Step.refl w mb fp).alloc _).drewN _).trans hS).drewN _⟩

end Go.Proofs.Qxb6609496aFmt
