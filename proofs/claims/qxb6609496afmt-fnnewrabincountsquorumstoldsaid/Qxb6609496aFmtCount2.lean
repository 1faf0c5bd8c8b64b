/- (*Rabin).count, the lottery's counted share: the point is appended. -/
import Derived.Test.Qxb6609496aFmtCount
import Derived.Deep.RegionLaw
namespace Go.Proofs.Qxb6609496aFmt
open Go.RowKit Go.Maps
attribute [local go_sem ↓] Go.wp_at_zero Go.wp_at_succ

theorem info57 : (Tryf.prog.info? 57).map (fun i => (i.zero, i.size, i.bytes)) = some (some (.agg #[.int .u64 0, .int .u64 0]), 2, 16) := by kernel_rfl
theorem info57' : ∃ i, Tryf.prog.info? 57 = some i ∧ i.zero = some (.agg #[.int .u64 0, .int .u64 0]) ∧ i.size = 2 ∧ i.bytes = 16 := by
  obtain ⟨i, hi, hz⟩ := Option.map_eq_some_iff.1 info57
  simp only [Prod.mk.injEq] at hz
  exact ⟨i, hi, hz.1, hz.2.1, hz.2.2⟩

theorem tal_append {w2 W w3 : World} {tb hb wd n base g cap f v : Nat} {pv : Value} {seen : Nat → Nat → Bool} {c v0 v1 : Nat → Nat} {pts : List (Nat × Nat)} (hT : Tal w2 tb hb wd n base pv seen c v0 v1 pts)
    (hW : ∀ k, k < w2.heap.size → W.heap[k]? = w2.heap[k]?) (hWs : w2.heap.size ≤ W.heap.size) (hg : W.grownBy w3 pv.ownBlock)
    (hown : w3.ownsRow base 57 2 (.slice (some ⟨g, 0, none⟩) (pts.length + 1) cap) (pts.length + 1) (ptCells pts ++ [.int .u64 (f : Int), .int .u64 (v : Int)])) (hat : pv.ownBlock = some g ∨ w2.heap.size ≤ g)
    (htb : tb < w2.heap.size) (hhb : hb < w2.heap.size) :
    Tal (w3.setCell ⟨tb, 14, none⟩ (.slice (some ⟨g, 0, none⟩) (pts.length + 1) cap)) tb hb wd n base (.slice (some ⟨g, 0, none⟩) (pts.length + 1) cap) seen c v0 v1 (pts ++ [(f, v)]) := by
  have b1 : w3.heap[tb]? = w2.heap[tb]? := (hg.block tb (by omega) (fun q => (hT.pt tb q.symm).1 rfl)).trans (hW tb htb)
  have b2 : w3.heap[hb]? = w2.heap[hb]? := (hg.block hb (by omega) (fun q => (hT.pt hb q.symm).2 rfl)).trans (hW hb hhb)
  have e1 : ∀ o, w3.cell? ⟨tb, o, none⟩ = w2.cell? ⟨tb, o, none⟩ := fun o => World.cell?_of_block (a := ⟨tb, o, none⟩) b1
  have e2 : ∀ o, w3.cell? ⟨hb, o, none⟩ = w2.cell? ⟨hb, o, none⟩ := fun o => World.cell?_of_block (a := ⟨hb, o, none⟩) b2
  have g1 : ∀ o, w3.frozen? ⟨tb, o, none⟩ = w2.frozen? ⟨tb, o, none⟩ := fun o => World.frozen?_of_block (a := ⟨tb, o, none⟩) b1
  have g2 : ∀ o, w3.frozen? ⟨hb, o, none⟩ = w2.frozen? ⟨hb, o, none⟩ := fun o => World.frozen?_of_block (a := ⟨hb, o, none⟩) b2
  have gt : g ≠ tb ∧ g ≠ hb := by
    rcases hat with q | q
    · exact hT.pt g q
    · omega
  refine ⟨hT.ne, hT.wide, fun e he => ?_, fun e he => ?_, fun e he => ?_, fun e he => ?_, fun e he => ?_, ?_, fun o ho => ((World.frozen?_setCell _ _ _ _).trans (g1 o)).trans (hT.fz o ho), fun e he j hj => ?_, fun o ho => ((World.frozen?_setCell _ _ _ _).trans (g2 o)).trans (hT.hf o ho), ?_, ?_⟩
  · exact ((cs_other (Or.inr (by omega))).trans (e1 _)).trans (hT.sl e he)
  · exact ((cs_other (Or.inr (by omega))).trans (e1 _)).trans (hT.cc e he)
  · exact ((cs_other (Or.inr (by omega))).trans (e1 _)).trans (hT.cv0 e he)
  · exact ((cs_other (Or.inr (by omega))).trans (e1 _)).trans (hT.cv1 e he)
  · exact ((cs_other (Or.inr (by omega))).trans (e1 _)).trans (hT.p e he)
  · exact World.cell?_setCell_same _ _ _ ((e1 14).trans hT.p2)
  · obtain ⟨x, hx, hc, hb'⟩ := hT.hd e he j hj
    exact ⟨x, hx, ((cs_other (Or.inl hT.ne)).trans (e2 _)).trans hc, hb'⟩
  · have := row_keep (w' := w3.setCell ⟨tb, 14, none⟩ (.slice (some ⟨g, 0, none⟩) (pts.length + 1) cap)) hown (fun k q => heap_other (by simp [Value.ownBlock] at q; subst q; exact gt.1))
    rw [ptCells_append, List.length_append]
    exact this
  · intro k q
    simp [Value.ownBlock] at q
    subst q
    exact gt

theorem made_point {w1 w2 W w3 : World} {rb mb id n t r wd base tb hb g cap e f v : Nat} {pv : Value} {S : St} (hM : Made w1 rb mb id n t r wd base tb hb pv S) (hw : 1 ≤ wd) (hs : S.seen e f = false) (he : e = 2)
    (hT : Tal w2 tb hb wd n base pv (fun e' g => if e' = e ∧ g = f then true else S.seen e' g) (put (cnt S id) e (cnt S id e + 1)) (put S.v0 e (S.v0 e + b2n (v = 0))) (put S.v1 e (S.v1 e + b2n (v = 1))) S.pts) (hC : Ch w1 w2 [tb, hb])
    (hW : ∀ k, k < w2.heap.size → W.heap[k]? = w2.heap[k]?) (hWs : w2.heap.size ≤ W.heap.size) (hg : W.grownBy w3 pv.ownBlock)
    (hown : w3.ownsRow base 57 2 (.slice (some ⟨g, 0, none⟩) (S.pts.length + 1) cap) (S.pts.length + 1) (ptCells S.pts ++ [.int .u64 (f : Int), .int .u64 (v : Int)])) (hat : pv.ownBlock = some g ∨ w2.heap.size ≤ g) :
    Made (w3.setCell ⟨tb, e * 5 + 4, none⟩ (.slice (some ⟨g, 0, none⟩) (S.pts.length + 1) cap)) rb mb id n t r wd base tb hb (.slice (some ⟨g, 0, none⟩) (S.pts.length + 1) cap) (took S id e f v) := by
  subst he
  have hl := hM.lt hw
  have hz := hC.size
  have k1 : ∀ k, (k = rb ∨ k = mb ∨ k ∈ fpOf tb hb pv) → k < w2.heap.size := fun k q => by rw [hz]; exact hl k q
  have hT' := tal_append hT hW hWs hg hown hat (k1 tb (by simp [fpOf])) (k1 hb (by simp [fpOf]))
  rw [put_cnt (v := v) hs, put_up, put_up] at hT'
  have o1 := hM.out tb (by simp [fpOf])
  have o2 := hM.out hb (by simp [fpOf])
  have far : ∀ k, (k = rb ∨ k = mb) → (w3.setCell ⟨tb, 14, none⟩ (.slice (some ⟨g, 0, none⟩) (S.pts.length + 1) cap)).heap[k]? = w1.heap[k]? := fun k q => by
    have hk := k1 k (by rcases q with q | q; exact Or.inl q; exact Or.inr (Or.inl q))
    have nt : k ≠ tb := by rcases q with rfl | rfl; exact fun a => o1.1 a.symm; exact fun a => o1.2 a.symm
    have nh : k ≠ hb := by rcases q with rfl | rfl; exact fun a => o2.1 a.symm; exact fun a => o2.2 a.symm
    have np : some k ≠ pv.ownBlock := fun a => by
      have := hM.out k (by simp [fpOf, a.symm])
      rcases q with rfl | rfl
      · exact this.1 rfl
      · exact this.2 rfl
    rw [heap_other (a := ⟨tb, 14, none⟩) nt, hg.block k (by omega) np, hW k hk, hC.blk k (by simp [nt, nh])]
  refine ⟨hM.rbh.keep (far rb (Or.inl rfl)), map_keep hM.m (far mb (Or.inr rfl)), hT', ?_⟩
  intro k q
  simp only [fpOf, List.mem_cons, Option.mem_toList, Value.ownBlock, Option.some.injEq] at q
  rcases q with rfl | rfl | rfl
  · exact o1
  · exact o2
  · rcases hat with q | q
    · exact hM.out _ (by simp [fpOf, q])
    · have a1 := k1 rb (Or.inl rfl)
      have a2 := k1 mb (Or.inr (Or.inl rfl))
      omega

theorem step_point {w w1 w2 W w3 : World} {mb tb hb g cap l o : Nat} {pv : Value} {fp : List Nat} (hS : Step w w1 mb fp (fpOf tb hb pv)) (hC : Ch w1 w2 [tb, hb]) (hW : ∀ k, k < w2.heap.size → W.heap[k]? = w2.heap[k]?) (hWs : w2.heap.size ≤ W.heap.size) (hWo : W.os = w2.os) (hWt : W.tape = w2.tape) (hWp : W.output = w2.output) (hg : W.grownBy w3 pv.ownBlock) (hat : pv.ownBlock = some g ∨ w2.heap.size ≤ g) :
    Step w (w3.setCell ⟨tb, o, none⟩ (.slice (some ⟨g, 0, none⟩) l cap)) mb fp (fpOf tb hb (.slice (some ⟨g, 0, none⟩) l cap)) := by
  have hz := hC.size
  have inn : ∀ k, k ∈ fpOf tb hb pv → ∀ i, i < w.heap.size → i ∉ fp → i ≠ k := fun k q i hi hf a => by
    subst a
    rcases hS.fp i q with b | b
    · exact hf b
    · omega
  refine ⟨by rw [← hS.os, ← hC.os, ← hWo, ← hg.os]; rfl, by rw [← hS.tape, ← hC.tape, ← hWt, ← hg.tape]; rfl, by rw [← hS.output, ← hC.output, ← hWp, ← hg.output]; rfl, ?_, fun k hk hm hf => ?_, fun k q => ?_⟩
  · have a := hS.size
    have b := hg.size
    rw [World.size_setCell]
    omega
  · have nt := inn tb (by simp [fpOf]) k hk hf
    have nh := inn hb (by simp [fpOf]) k hk hf
    have s1 := hS.size
    rw [heap_other (a := ⟨tb, o, none⟩) nt, hg.block k (by omega) (fun a => inn k (by simp [fpOf, a.symm]) k hk hf rfl), hW k (by omega), hC.blk k (by simp [nt, nh]), hS.blk k hk hm hf]
  · simp only [fpOf, List.mem_cons, Option.mem_toList, Value.ownBlock, Option.some.injEq] at q
    have s1 := hS.size
    rcases q with rfl | rfl | rfl
    · exact hS.fp _ (by simp [fpOf])
    · exact hS.fp _ (by simp [fpOf])
    · rcases hat with q | q
      · exact hS.fp _ (by simp [fpOf, q])
      · right; omega

set_option maxHeartbeats 1000000 in
theorem count_c_id_yes {w : World} {rb mb id n t r wd base e f v k : Nat} {fp : List Nat} {S : St} (h : Rab w rb mb id n t r wd base fp S) (_hok : Ok S id n t k) (_hk : k ≤ 100000) (hr : r < 4294967296) (he : e < 3) (hwd : wd ≤ 1024) (hwd1 : 1 ≤ wd) (hwide : ∀ f, f ≤ n → (f - 1) / 64 < wd)
    (HW : Hid (∀ w : World, Calls Tryf.prog 34 #[.int .i64 n] w fun e w' => e = .returned (.int .i64 (wd : Int)) ∧ w' = w)) (hn : n ≤ 65536) (ht : t < n) (hf1 : 1 ≤ f) (hfn : f ≤ n) (hv : v < 4294967296) (hbase : base ≤ w.heap.size)
    (c0 : w.cell? ⟨rb, 0, none⟩ = some (.int .i64 (id : Int))) (c1 : w.cell? ⟨rb, 1, none⟩ = some (.int .i64 (n : Int))) (c2 : w.cell? ⟨rb, 2, none⟩ = some (.int .i64 (t : Int)))
    (HE : Hid (e = 2)) (tid : ((f : Int) != (id : Int)) = false) (hs : S.seen e f = false) (hq : (cnt S id e : Int) < ((t : Int) + 1)) :
    Calls Tryf.prog 24 #[.pointer (some ⟨rb, 0, none⟩), .int .i64 f, .agg #[.int .u8 ((e : Int) + 1), .int .u32 r, .int .u32 v]] w fun e' w' => e' = .returned (.tuple #[]) ∧ ∃ fp', Rab w' rb mb id n t r wd base fp' (took S id e f v) ∧ Step w w' mb fp fp' := by
  have hrb : rb < w.heap.size := lt_of_cell c0
  have t3 : ((e : Int) + 1 == 3) = true := by have := HE.out; simp; omega
  have hlt := h.lt hwd1
  go_enter Tryf.func24, Tryf.ntmps24
  go_wp2
  go_quiet (fail)
  go_wp2_with fail
  go_region_held3 (fun w' => w'.cell? ⟨w.heap.size, 0, none⟩ = some (.int .u8 ((e : Int) + 1)) ∧ w'.cell? ⟨w.heap.size, 1, none⟩ = some (.int .u32 (r : Int))) (go_keep)
    (first | (go_at_call 25; refine (of_any (h.keep ?_) hr he hwd hwd1 hwide HW.out).mono ?_; (intro k q; exact Below.heap_alloc w _ k (hlt k q)); rintro e' w1 ⟨tb, hb, pv, rfl, hM, hS⟩; have hm : w1.heap[w.heap.size]? = some (.cells #[.int .u8 ((e : Int) + 1), .int .u32 (r : Int), .int .u32 (v : Int)] 49 (0, 0)) := (hS.blk w.heap.size (by simp) (fun q => absurd (hlt mb (Or.inr (Or.inl rfl))) (by omega)) (fun q => absurd (hlt _ (Or.inr (Or.inr q))) (by omega))).trans (heap_alloc_last w _); have m0 := cell_of_row w1 _ 0 _ _ _ hm; have m1 := cell_of_row w1 _ 1 _ _ _ hm; have m2 := cell_of_row w1 _ 2 _ _ _ hm; simp at m0 m1 m2))
  have d0 := hM.rbh.c0
  have hnot : ∀ k, k ∈ fpOf tb hb pv → w.heap.size ≠ k := fun k q => by
    rcases hS.fp k q with a | a
    · have := hlt k (Or.inr (Or.inr a)); omega
    · simp at a; omega
  go_wp2_with fail
  refine (add_yes hM.tal he hf1 hfn hn ?_ hs ?_ ?_ ?_).mono ?_
  · exact hq
  · have := _hok.c e; have := b2n_le (S.seen e id); unfold cnt; omega
  · have := _hok.v0 e; omega
  · have := _hok.v1 e; omega
  rintro e' w2 ⟨rfl, hT, hC⟩
  have nb : w2.heap[w.heap.size]? = w1.heap[w.heap.size]? := hC.blk _ (by simp [hnot tb (by simp [fpOf]), hnot hb (by simp [fpOf])])
  have n0 : w2.cell? ⟨w.heap.size, 0, none⟩ = some (.int .u8 ((e : Int) + 1)) := (World.cell?_of_block (a := ⟨w.heap.size, 0, none⟩) nb).trans m0
  have HE' : e * 5 + 4 = 14 := by have := HE.out; omega
  have p4 : w2.cell? ⟨tb, e * 5 + 4, none⟩ = some pv := by rw [HE']; exact hT.p2
  have f4 : w2.frozen? ⟨tb, e * 5 + 4, none⟩ = false := hT.fz _ (by omega)
  have n2 : w2.cell? ⟨w.heap.size, 2, none⟩ = some (.int .u32 (v : Int)) := (World.cell?_of_block (a := ⟨w.heap.size, 2, none⟩) nb).trans m2
  have hl2 : tb < w2.heap.size := lt_of_cell p4
  have hlen : S.pts.length ≤ 100000 := Nat.le_trans _hok.p _hk
  have hb2 : base ≤ w2.heap.size := by rw [hC.size]; have := hS.size; simp at this; first | omega | (simp; omega)
  have ntp : some tb ≠ pv.ownBlock := fun q => (hT.pt tb q.symm).1 rfl
  obtain ⟨i0, hi, hz0, hz1, hz2⟩ := info57'
  have r1 : IntKind.u64.wrap (f : Int) = (f : Int) := by rw [IntKind.wrap_u64]; omega
  have r2 : IntKind.u64.wrap (v : Int) = (v : Int) := by rw [IntKind.wrap_u64]; omega
  have Hown : Hid (∀ W : World, (∀ k, k < w2.heap.size → W.heap[k]? = w2.heap[k]?) → W.ownsRow base 57 2 pv S.pts.length (ptCells S.pts)) := fun W hW => row_keep hT.row (fun k q => hW k (hT.row.lt k q).2)
  have Hfar : Hid (∀ W w3 : World, W.grownBy w3 pv.ownBlock → (∀ k, k < w2.heap.size → W.heap[k]? = w2.heap[k]?) → w2.heap.size ≤ W.heap.size → w3.cell? ⟨tb, e * 5 + 4, none⟩ = some pv ∧ w3.frozen? ⟨tb, e * 5 + 4, none⟩ = false) := fun W w3 hg hW hWs => by
    have b : w3.heap[tb]? = w2.heap[tb]? := (hg.block tb (by omega) ntp).trans (hW tb hl2)
    exact ⟨(World.cell?_of_block (a := ⟨tb, e * 5 + 4, none⟩) b).trans p4, (World.frozen?_of_block (a := ⟨tb, e * 5 + 4, none⟩) b).trans f4⟩
  have s1 : S.pts.length + 1 ≤ maxLen := by unfold maxLen; omega
  have s2 : (S.pts.length + 1) * 16 ≤ 140737488355328 := by omega
  have S12 : Hid (S.pts.length + 1 ≤ maxLen ∧ (S.pts.length + 1) * 16 ≤ 140737488355328) := ⟨s1, s2⟩
  clear HE' s1 s2 hlen
  go_wp2_with fail
  go_region_law ((refine step_append_lies _ (by rfl) (.tmp 65) (.tmp 72) 53 (by rfl) base 57 i0 (.agg #[.int .u64 0, .int .u64 0]) 2 16 Tryf.underlying53 hi hz0 hz1 hz2 rfl (by decide) pv S.pts.length (ptCells S.pts) (by rfl) (Hown.out _ (fun k hk => Below.heap_alloc w2 _ k hk)) ⟨w2.heap.size, 0, none⟩ 1 1 [.int .u64 (f : Int), .int .u64 (v : Int)] (by rfl) rfl (World.news_of_block (cs := #[.int .u64 (f : Int), .int .u64 (v : Int)]) (heap_alloc_last w2 _)) (by simp [Value.oneCell']) (by decide) S12.out.1 S12.out.2 (by simp; omega) (w2.heap.size + 1) (by simp) ?_; intro g cap w3 hown3 hgrow3 hat hlt3; obtain ⟨q4, g4⟩ := Hfar.out _ w3 hgrow3 (fun k hk => Below.heap_alloc w2 _ k hk) (by simp)))
  all_goals
    go_end0
    exact ⟨rfl, fpOf tb hb (.slice (some ⟨g, 0, none⟩) (S.pts.length + 1) cap), Or.inr ⟨tb, hb, _, rfl, made_point (W := (w2.alloc (.cells #[.int .u64 (f : Int), .int .u64 (v : Int)] 57)).drew) hM hwd1 hs HE.out hT hC (fun k hk => Below.heap_alloc w2 _ k hk) (by simp) hgrow3 hown3 (hat.imp (fun q => q) (fun q => by omega))⟩, step_point (W := (w2.alloc (.cells #[.int .u64 (f : Int), .int .u64 (v : Int)] 57)).drew) ((((Step.refl w mb fp).alloc _).drewN _).trans hS) hC (fun k hk => Below.heap_alloc w2 _ k hk) (by simp) rfl rfl rfl hgrow3 (hat.imp (fun q => q) (fun q => by omega))⟩


set_option maxHeartbeats 1000000 in
theorem count_c_old_yes {w : World} {rb mb id n t r wd base e f v k : Nat} {fp : List Nat} {S : St} (h : Rab w rb mb id n t r wd base fp S) (_hok : Ok S id n t k) (_hk : k ≤ 100000) (hr : r < 4294967296) (he : e < 3) (hwd : wd ≤ 1024) (hwd1 : 1 ≤ wd) (hwide : ∀ f, f ≤ n → (f - 1) / 64 < wd)
    (HW : Hid (∀ w : World, Calls Tryf.prog 34 #[.int .i64 n] w fun e w' => e = .returned (.int .i64 (wd : Int)) ∧ w' = w)) (hn : n ≤ 65536) (ht : t < n) (hf1 : 1 ≤ f) (hfn : f ≤ n) (hv : v < 4294967296) (hbase : base ≤ w.heap.size)
    (c0 : w.cell? ⟨rb, 0, none⟩ = some (.int .i64 (id : Int))) (c1 : w.cell? ⟨rb, 1, none⟩ = some (.int .i64 (n : Int))) (c2 : w.cell? ⟨rb, 2, none⟩ = some (.int .i64 (t : Int)))
    (HE : Hid (e = 2)) (tid : ((f : Int) != (id : Int)) = true) (hsid : S.seen e id = true) (hid1 : 1 ≤ id) (hidn : id ≤ n) (hs : S.seen e f = false) (hq : (cnt S id e : Int) < ((t : Int) + 1)) :
    Calls Tryf.prog 24 #[.pointer (some ⟨rb, 0, none⟩), .int .i64 f, .agg #[.int .u8 ((e : Int) + 1), .int .u32 r, .int .u32 v]] w fun e' w' => e' = .returned (.tuple #[]) ∧ ∃ fp', Rab w' rb mb id n t r wd base fp' (took S id e f v) ∧ Step w w' mb fp fp' := by
  have hrb : rb < w.heap.size := lt_of_cell c0
  have t3 : ((e : Int) + 1 == 3) = true := by have := HE.out; simp; omega
  have hlt := h.lt hwd1
  go_enter Tryf.func24, Tryf.ntmps24
  go_wp2
  go_quiet (fail)
  go_wp2_with fail
  go_region_held3 (fun w' => w'.cell? ⟨w.heap.size, 0, none⟩ = some (.int .u8 ((e : Int) + 1)) ∧ w'.cell? ⟨w.heap.size, 1, none⟩ = some (.int .u32 (r : Int))) (go_keep)
    (first | (go_at_call 25; refine (of_any (h.keep ?_) hr he hwd hwd1 hwide HW.out).mono ?_; (intro k q; exact Below.heap_alloc w _ k (hlt k q)); rintro e' w1 ⟨tb, hb, pv, rfl, hM, hS⟩; have hm : w1.heap[w.heap.size]? = some (.cells #[.int .u8 ((e : Int) + 1), .int .u32 (r : Int), .int .u32 (v : Int)] 49 (0, 0)) := (hS.blk w.heap.size (by simp) (fun q => absurd (hlt mb (Or.inr (Or.inl rfl))) (by omega)) (fun q => absurd (hlt _ (Or.inr (Or.inr q))) (by omega))).trans (heap_alloc_last w _); have m0 := cell_of_row w1 _ 0 _ _ _ hm; have m1 := cell_of_row w1 _ 1 _ _ _ hm; have m2 := cell_of_row w1 _ 2 _ _ _ hm; simp at m0 m1 m2))
  have d0 := hM.rbh.c0
  have hnot : ∀ k, k ∈ fpOf tb hb pv → w.heap.size ≠ k := fun k q => by
    rcases hS.fp k q with a | a
    · have := hlt k (Or.inr (Or.inr a)); omega
    · simp at a; omega
  go_wp2_with fail
  refine (has_tal hM.tal he hid1 hidn hn).mono ?_
  rintro e' w1' ⟨rfl, m, rfl⟩
  go_wp2_with fail
  refine (add_yes (hM.tal.drewN m) he hf1 hfn hn ?_ hs ?_ ?_ ?_).mono ?_
  · exact hq
  · have := _hok.c e; have := b2n_le (S.seen e id); unfold cnt; omega
  · have := _hok.v0 e; omega
  · have := _hok.v1 e; omega
  rintro e' w2 ⟨rfl, hT, hC⟩
  have nb : w2.heap[w.heap.size]? = w1.heap[w.heap.size]? := hC.blk _ (by simp [hnot tb (by simp [fpOf]), hnot hb (by simp [fpOf])])
  have n0 : w2.cell? ⟨w.heap.size, 0, none⟩ = some (.int .u8 ((e : Int) + 1)) := (World.cell?_of_block (a := ⟨w.heap.size, 0, none⟩) nb).trans m0
  have HE' : e * 5 + 4 = 14 := by have := HE.out; omega
  have p4 : w2.cell? ⟨tb, e * 5 + 4, none⟩ = some pv := by rw [HE']; exact hT.p2
  have f4 : w2.frozen? ⟨tb, e * 5 + 4, none⟩ = false := hT.fz _ (by omega)
  have n2 : w2.cell? ⟨w.heap.size, 2, none⟩ = some (.int .u32 (v : Int)) := (World.cell?_of_block (a := ⟨w.heap.size, 2, none⟩) nb).trans m2
  have hl2 : tb < w2.heap.size := lt_of_cell p4
  have hlen : S.pts.length ≤ 100000 := Nat.le_trans _hok.p _hk
  have hb2 : base ≤ w2.heap.size := by rw [hC.size]; have := hS.size; simp at this; first | omega | (simp; omega)
  have ntp : some tb ≠ pv.ownBlock := fun q => (hT.pt tb q.symm).1 rfl
  obtain ⟨i0, hi, hz0, hz1, hz2⟩ := info57'
  have r1 : IntKind.u64.wrap (f : Int) = (f : Int) := by rw [IntKind.wrap_u64]; omega
  have r2 : IntKind.u64.wrap (v : Int) = (v : Int) := by rw [IntKind.wrap_u64]; omega
  have Hown : Hid (∀ W : World, (∀ k, k < w2.heap.size → W.heap[k]? = w2.heap[k]?) → W.ownsRow base 57 2 pv S.pts.length (ptCells S.pts)) := fun W hW => row_keep hT.row (fun k q => hW k (hT.row.lt k q).2)
  have Hfar : Hid (∀ W w3 : World, W.grownBy w3 pv.ownBlock → (∀ k, k < w2.heap.size → W.heap[k]? = w2.heap[k]?) → w2.heap.size ≤ W.heap.size → w3.cell? ⟨tb, e * 5 + 4, none⟩ = some pv ∧ w3.frozen? ⟨tb, e * 5 + 4, none⟩ = false) := fun W w3 hg hW hWs => by
    have b : w3.heap[tb]? = w2.heap[tb]? := (hg.block tb (by omega) ntp).trans (hW tb hl2)
    exact ⟨(World.cell?_of_block (a := ⟨tb, e * 5 + 4, none⟩) b).trans p4, (World.frozen?_of_block (a := ⟨tb, e * 5 + 4, none⟩) b).trans f4⟩
  have s1 : S.pts.length + 1 ≤ maxLen := by unfold maxLen; omega
  have s2 : (S.pts.length + 1) * 16 ≤ 140737488355328 := by omega
  have S12 : Hid (S.pts.length + 1 ≤ maxLen ∧ (S.pts.length + 1) * 16 ≤ 140737488355328) := ⟨s1, s2⟩
  clear HE' s1 s2 hlen
  go_wp2_with fail
  go_region_law ((refine step_append_lies _ (by rfl) (.tmp 65) (.tmp 72) 53 (by rfl) base 57 i0 (.agg #[.int .u64 0, .int .u64 0]) 2 16 Tryf.underlying53 hi hz0 hz1 hz2 rfl (by decide) pv S.pts.length (ptCells S.pts) (by rfl) (Hown.out _ (fun k hk => Below.heap_alloc w2 _ k hk)) ⟨w2.heap.size, 0, none⟩ 1 1 [.int .u64 (f : Int), .int .u64 (v : Int)] (by rfl) rfl (World.news_of_block (cs := #[.int .u64 (f : Int), .int .u64 (v : Int)]) (heap_alloc_last w2 _)) (by simp [Value.oneCell']) (by decide) S12.out.1 S12.out.2 (by simp; omega) (w2.heap.size + 1) (by simp) ?_; intro g cap w3 hown3 hgrow3 hat hlt3; obtain ⟨q4, g4⟩ := Hfar.out _ w3 hgrow3 (fun k hk => Below.heap_alloc w2 _ k hk) (by simp)))
  all_goals
    go_end0
    exact ⟨rfl, fpOf tb hb (.slice (some ⟨g, 0, none⟩) (S.pts.length + 1) cap), Or.inr ⟨tb, hb, _, rfl, made_point (W := (w2.alloc (.cells #[.int .u64 (f : Int), .int .u64 (v : Int)] 57)).drew) (hM.keep (w' := w1.drewN m) (fun _ _ => rfl)) hwd1 hs HE.out hT hC (fun k hk => Below.heap_alloc w2 _ k hk) (by simp) hgrow3 hown3 (hat.imp (fun q => q) (fun q => by omega))⟩, step_point (W := (w2.alloc (.cells #[.int .u64 (f : Int), .int .u64 (v : Int)] 57)).drew) (((((Step.refl w mb fp).alloc _).drewN _).trans hS).drewN m) hC (fun k hk => Below.heap_alloc w2 _ k hk) (by simp) rfl rfl rfl hgrow3 (hat.imp (fun q => q) (fun q => by omega))⟩


set_option maxHeartbeats 1000000 in
theorem count_c_new_yes {w : World} {rb mb id n t r wd base e f v k : Nat} {fp : List Nat} {S : St} (h : Rab w rb mb id n t r wd base fp S) (_hok : Ok S id n t k) (_hk : k ≤ 100000) (hr : r < 4294967296) (he : e < 3) (hwd : wd ≤ 1024) (hwd1 : 1 ≤ wd) (hwide : ∀ f, f ≤ n → (f - 1) / 64 < wd)
    (HW : Hid (∀ w : World, Calls Tryf.prog 34 #[.int .i64 n] w fun e w' => e = .returned (.int .i64 (wd : Int)) ∧ w' = w)) (hn : n ≤ 65536) (ht : t < n) (hf1 : 1 ≤ f) (hfn : f ≤ n) (hv : v < 4294967296) (hbase : base ≤ w.heap.size)
    (c0 : w.cell? ⟨rb, 0, none⟩ = some (.int .i64 (id : Int))) (c1 : w.cell? ⟨rb, 1, none⟩ = some (.int .i64 (n : Int))) (c2 : w.cell? ⟨rb, 2, none⟩ = some (.int .i64 (t : Int)))
    (HE : Hid (e = 2)) (tid : ((f : Int) != (id : Int)) = true) (hsid : S.seen e id = false) (hid1 : 1 ≤ id) (hidn : id ≤ n) (hs : S.seen e f = false) (hq : (cnt S id e : Int) < (t : Int)) :
    Calls Tryf.prog 24 #[.pointer (some ⟨rb, 0, none⟩), .int .i64 f, .agg #[.int .u8 ((e : Int) + 1), .int .u32 r, .int .u32 v]] w fun e' w' => e' = .returned (.tuple #[]) ∧ ∃ fp', Rab w' rb mb id n t r wd base fp' (took S id e f v) ∧ Step w w' mb fp fp' := by
  have hrb : rb < w.heap.size := lt_of_cell c0
  have t3 : ((e : Int) + 1 == 3) = true := by have := HE.out; simp; omega
  have hlt := h.lt hwd1
  go_enter Tryf.func24, Tryf.ntmps24
  go_wp2
  go_quiet (fail)
  go_wp2_with fail
  go_region_held3 (fun w' => w'.cell? ⟨w.heap.size, 0, none⟩ = some (.int .u8 ((e : Int) + 1)) ∧ w'.cell? ⟨w.heap.size, 1, none⟩ = some (.int .u32 (r : Int))) (go_keep)
    (first | (go_at_call 25; refine (of_any (h.keep ?_) hr he hwd hwd1 hwide HW.out).mono ?_; (intro k q; exact Below.heap_alloc w _ k (hlt k q)); rintro e' w1 ⟨tb, hb, pv, rfl, hM, hS⟩; have hm : w1.heap[w.heap.size]? = some (.cells #[.int .u8 ((e : Int) + 1), .int .u32 (r : Int), .int .u32 (v : Int)] 49 (0, 0)) := (hS.blk w.heap.size (by simp) (fun q => absurd (hlt mb (Or.inr (Or.inl rfl))) (by omega)) (fun q => absurd (hlt _ (Or.inr (Or.inr q))) (by omega))).trans (heap_alloc_last w _); have m0 := cell_of_row w1 _ 0 _ _ _ hm; have m1 := cell_of_row w1 _ 1 _ _ _ hm; have m2 := cell_of_row w1 _ 2 _ _ _ hm; simp at m0 m1 m2))
  have d0 := hM.rbh.c0
  have hnot : ∀ k, k ∈ fpOf tb hb pv → w.heap.size ≠ k := fun k q => by
    rcases hS.fp k q with a | a
    · have := hlt k (Or.inr (Or.inr a)); omega
    · simp at a; omega
  go_wp2_with fail
  refine (has_tal hM.tal he hid1 hidn hn).mono ?_
  rintro e' w1' ⟨rfl, m, rfl⟩
  go_wp2_with fail
  refine (add_yes (hM.tal.drewN m) he hf1 hfn hn ?_ hs ?_ ?_ ?_).mono ?_
  · exact hq
  · have := _hok.c e; have := b2n_le (S.seen e id); unfold cnt; omega
  · have := _hok.v0 e; omega
  · have := _hok.v1 e; omega
  rintro e' w2 ⟨rfl, hT, hC⟩
  have nb : w2.heap[w.heap.size]? = w1.heap[w.heap.size]? := hC.blk _ (by simp [hnot tb (by simp [fpOf]), hnot hb (by simp [fpOf])])
  have n0 : w2.cell? ⟨w.heap.size, 0, none⟩ = some (.int .u8 ((e : Int) + 1)) := (World.cell?_of_block (a := ⟨w.heap.size, 0, none⟩) nb).trans m0
  have HE' : e * 5 + 4 = 14 := by have := HE.out; omega
  have p4 : w2.cell? ⟨tb, e * 5 + 4, none⟩ = some pv := by rw [HE']; exact hT.p2
  have f4 : w2.frozen? ⟨tb, e * 5 + 4, none⟩ = false := hT.fz _ (by omega)
  have n2 : w2.cell? ⟨w.heap.size, 2, none⟩ = some (.int .u32 (v : Int)) := (World.cell?_of_block (a := ⟨w.heap.size, 2, none⟩) nb).trans m2
  have hl2 : tb < w2.heap.size := lt_of_cell p4
  have hlen : S.pts.length ≤ 100000 := Nat.le_trans _hok.p _hk
  have hb2 : base ≤ w2.heap.size := by rw [hC.size]; have := hS.size; simp at this; first | omega | (simp; omega)
  have ntp : some tb ≠ pv.ownBlock := fun q => (hT.pt tb q.symm).1 rfl
  obtain ⟨i0, hi, hz0, hz1, hz2⟩ := info57'
  have r1 : IntKind.u64.wrap (f : Int) = (f : Int) := by rw [IntKind.wrap_u64]; omega
  have r2 : IntKind.u64.wrap (v : Int) = (v : Int) := by rw [IntKind.wrap_u64]; omega
  have Hown : Hid (∀ W : World, (∀ k, k < w2.heap.size → W.heap[k]? = w2.heap[k]?) → W.ownsRow base 57 2 pv S.pts.length (ptCells S.pts)) := fun W hW => row_keep hT.row (fun k q => hW k (hT.row.lt k q).2)
  have Hfar : Hid (∀ W w3 : World, W.grownBy w3 pv.ownBlock → (∀ k, k < w2.heap.size → W.heap[k]? = w2.heap[k]?) → w2.heap.size ≤ W.heap.size → w3.cell? ⟨tb, e * 5 + 4, none⟩ = some pv ∧ w3.frozen? ⟨tb, e * 5 + 4, none⟩ = false) := fun W w3 hg hW hWs => by
    have b : w3.heap[tb]? = w2.heap[tb]? := (hg.block tb (by omega) ntp).trans (hW tb hl2)
    exact ⟨(World.cell?_of_block (a := ⟨tb, e * 5 + 4, none⟩) b).trans p4, (World.frozen?_of_block (a := ⟨tb, e * 5 + 4, none⟩) b).trans f4⟩
  have s1 : S.pts.length + 1 ≤ maxLen := by unfold maxLen; omega
  have s2 : (S.pts.length + 1) * 16 ≤ 140737488355328 := by omega
  have S12 : Hid (S.pts.length + 1 ≤ maxLen ∧ (S.pts.length + 1) * 16 ≤ 140737488355328) := ⟨s1, s2⟩
  clear HE' s1 s2 hlen
  go_wp2_with fail
  go_region_law ((refine step_append_lies _ (by rfl) (.tmp 65) (.tmp 72) 53 (by rfl) base 57 i0 (.agg #[.int .u64 0, .int .u64 0]) 2 16 Tryf.underlying53 hi hz0 hz1 hz2 rfl (by decide) pv S.pts.length (ptCells S.pts) (by rfl) (Hown.out _ (fun k hk => Below.heap_alloc w2 _ k hk)) ⟨w2.heap.size, 0, none⟩ 1 1 [.int .u64 (f : Int), .int .u64 (v : Int)] (by rfl) rfl (World.news_of_block (cs := #[.int .u64 (f : Int), .int .u64 (v : Int)]) (heap_alloc_last w2 _)) (by simp [Value.oneCell']) (by decide) S12.out.1 S12.out.2 (by simp; omega) (w2.heap.size + 1) (by simp) ?_; intro g cap w3 hown3 hgrow3 hat hlt3; obtain ⟨q4, g4⟩ := Hfar.out _ w3 hgrow3 (fun k hk => Below.heap_alloc w2 _ k hk) (by simp)))
  all_goals
    go_end0
    exact ⟨rfl, fpOf tb hb (.slice (some ⟨g, 0, none⟩) (S.pts.length + 1) cap), Or.inr ⟨tb, hb, _, rfl, made_point (W := (w2.alloc (.cells #[.int .u64 (f : Int), .int .u64 (v : Int)] 57)).drew) (hM.keep (w' := w1.drewN m) (fun _ _ => rfl)) hwd1 hs HE.out hT hC (fun k hk => Below.heap_alloc w2 _ k hk) (by simp) hgrow3 hown3 (hat.imp (fun q => q) (fun q => by omega))⟩, step_point (W := (w2.alloc (.cells #[.int .u64 (f : Int), .int .u64 (v : Int)] 57)).drew) (((((Step.refl w mb fp).alloc _).drewN _).trans hS).drewN m) hC (fun k hk => Below.heap_alloc w2 _ k hk) (by simp) rfl rfl rfl hgrow3 (hat.imp (fun q => q) (fun q => by omega))⟩


end Go.Proofs.Qxb6609496aFmt
