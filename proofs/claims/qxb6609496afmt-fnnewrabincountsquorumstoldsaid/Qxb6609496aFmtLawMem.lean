/- The law's own stores between two messages, and the invariant handed on. -/
import Derived.Test.Qxb6609496aFmtLaw
namespace Go.Proofs.Qxb6609496aFmt
open Go.RowKit

theorem xCells_append (l : List (Nat × Nat)) (f v : Nat) : xCells (l ++ [(f, v)]) = xCells l ++ [.int .u64 (f : Int)] := by simp [xCells]
theorem yCells_append (l : List (Nat × Nat)) (f v : Nat) : yCells (l ++ [(f, v)]) = yCells l ++ [.int .u64 (v : Int)] := by simp [yCells]

/-- What the law's own stores leave alone. -/
structure Lx (Sb : Nat) (px py : Value) (w W : World) : Prop where
  os : W.os = w.os
  tape : W.tape = w.tape
  output : W.output = w.output
  size : w.heap.size ≤ W.heap.size
  blk : ∀ k, k < w.heap.size → ¬ (Sb ≤ k ∧ k < Sb + 5) → px.ownBlock ≠ some k → py.ownBlock ≠ some k → W.heap[k]? = w.heap[k]?

theorem Lx.refl (Sb : Nat) (px py : Value) (w : World) : Lx Sb px py w w := ⟨rfl, rfl, rfl, Nat.le_refl _, fun _ _ _ _ _ => rfl⟩
theorem Lx.set {Sb : Nat} {px py : Value} {w W : World} (h : Lx Sb px py w W) {a : Addr} (h1 : Sb ≤ a.block) (h2 : a.block < Sb + 5) (u : Value) : Lx Sb px py w (W.setCell a u) :=
  ⟨h.os, h.tape, h.output, by simpa [World.setCell] using h.size, fun k hk hs hx hy => (heap_other (fun q => hs (by rw [q]; exact ⟨h1, h2⟩))).trans (h.blk k hk hs hx hy)⟩
theorem Lx.app {Sb : Nat} {px py : Value} {w W w3 w5 : World} {o o' : Obj} (h : Lx Sb px py w W) (hx : (W.alloc o).grownBy w3 px.ownBlock) (hy : (w3.alloc o').grownBy w5 py.ownBlock) : Lx Sb px py w w5 := by
  have s1 := hx.size
  have s2 := hy.size
  have s0 := h.size
  simp only [World.size_alloc] at s1 s2
  refine ⟨(hy.os.trans hx.os).trans h.os, (hy.tape.trans hx.tape).trans h.tape, (hy.output.trans hx.output).trans h.output, by omega, fun k hk hs kx ky => ?_⟩
  rw [hy.block k (by simp; omega) (fun q => ky q.symm), Below.heap_alloc w3 _ k (by omega), hx.block k (by simp; omega) (fun q => kx q.symm), Below.heap_alloc W _ k (by omega)]
  exact h.blk k hk hs kx ky

theorem LI.app {W w3 w5 : World} {Sb n B g g' cap cap' f v : Nat} {seen : Nat → Nat → Bool} {own : Nat → Bool} {oth v0 v1 : Nat → Nat} {px py : Value} {pts : List (Nat × Nat)} {o o' : Obj} (h : LI W Sb n B seen own oth v0 v1 px py pts)
    (hx : (W.alloc o).grownBy w3 px.ownBlock) (ox : w3.ownsRow B 22 1 (.slice (some ⟨g, 0, none⟩) (pts.length + 1) cap) (pts.length + 1) (xCells pts ++ [.int .u64 (f : Int)])) (ax : px.ownBlock = some g ∨ g = W.heap.size + 1) (gl : g < w3.heap.size)
    (hy : (w3.alloc o').grownBy w5 py.ownBlock) (oy : w5.ownsRow B 22 1 (.slice (some ⟨g', 0, none⟩) (pts.length + 1) cap') (pts.length + 1) (yCells pts ++ [.int .u64 (v : Int)])) (ay : py.ownBlock = some g' ∨ g' = w3.heap.size + 1) (top : Sb + 5 ≤ W.heap.size) :
    LI w5 Sb n B seen own oth v0 v1 (.slice (some ⟨g, 0, none⟩) (pts.length + 1) cap) (.slice (some ⟨g', 0, none⟩) (pts.length + 1) cap') (pts ++ [(f, v)]) := by
  have s1 := hx.size
  have s2 := hy.size
  simp only [World.size_alloc] at s1 s2
  have k1 : ∀ k, k < W.heap.size → px.ownBlock ≠ some k → w3.heap[k]? = W.heap[k]? := fun k hk q => (hx.block k (by simp; omega) (fun a => q a.symm)).trans (Below.heap_alloc W _ k hk)
  have k2 : ∀ k, k < w3.heap.size → py.ownBlock ≠ some k → w5.heap[k]? = w3.heap[k]? := fun k hk q => (hy.block k (by simp; omega) (fun a => q a.symm)).trans (Below.heap_alloc w3 _ k hk)
  have kS : ∀ k, Sb ≤ k → k < Sb + 5 → w5.heap[k]? = W.heap[k]? := fun k h1 h2 => (k2 k (by omega) (fun q => by have := h.bY k q; omega)).trans (k1 k (by omega) (fun q => by have := (h.bx k q).1; omega))
  have c : ∀ b o, Sb ≤ b → b < Sb + 5 → w5.cell? ⟨b, o, none⟩ = W.cell? ⟨b, o, none⟩ := fun b o h1 h2 => World.cell?_of_block (a := ⟨b, o, none⟩) (kS b h1 h2)
  have gy : py.ownBlock ≠ some g := fun q => by
    rcases ax with a | a
    · exact (h.bx g a).2 q
    · have := (h.ry.lt g q).2; omega
  refine ⟨fun e he f hf => (c _ _ (by omega) (by omega)).trans (h.sn e he f hf), fun e he => (c _ _ (by omega) (by omega)).trans (h.ot e he), fun e he => (c _ _ (by omega) (by omega)).trans (h.ow e he), fun e he => (c _ _ (by omega) (by omega)).trans (h.a0 e he), fun e he => (c _ _ (by omega) (by omega)).trans (h.a1 e he),
    fun b o h1 h2 => (World.frozen?_of_block (a := ⟨b, o, none⟩) (kS b h1 h2)).trans (h.fz b o h1 h2), ?_, ?_, ?_, ?_⟩
  · rw [xCells_append, List.length_append]
    refine row_keep ox (fun k q => ?_)
    simp [Value.ownBlock] at q
    subst q
    exact k2 g gl gy
  · rw [yCells_append, List.length_append]
    exact oy
  · intro k q
    simp [Value.ownBlock] at q
    subst q
    refine ⟨?_, fun q => ?_⟩
    · rcases ax with a | a
      · exact (h.bx g a).1
      · omega
    · simp [Value.ownBlock] at q
      subst q
      rcases ay with a | a
      · exact gy a
      · omega
  · intro k q
    simp [Value.ownBlock] at q
    subst q
    rcases ay with a | a
    · exact h.bY g' a
    · omega

theorem Inv.next {B rb mb Sb id n t r wd k : Nat} {w0 w w1 W : World} {px py px' py' : Value} {fp fp' : List Nat} {S S' : St} (h : Inv B rb mb Sb id n t r wd w0 w px py k fp S) (hwd : 1 ≤ wd) (hR : Rab w1 rb mb id n t r wd B fp' S') (hS : Step w w1 mb fp fp')
    (hL : LI W Sb n B S'.seen (fun e => S'.seen e id) S'.oth S'.v0 S'.v1 px' py' S'.pts) (hX : Lx Sb px py w1 W) (hx : ∀ k, px'.ownBlock = some k → px.ownBlock = some k ∨ w1.heap.size ≤ k) (hy : ∀ k, py'.ownBlock = some k → py.ownBlock = some k ∨ w1.heap.size ≤ k) (hok : Ok S' id n t (k + 1)) :
    Inv B rb mb Sb id n t r wd w0 W px' py' (k + 1) fp' S' := by
  have z1 := hS.size
  have z2 := hX.size
  have hlt := hR.lt hwd
  have hf : ∀ k, k ∈ fp' → Sb + 5 ≤ k ∧ px.ownBlock ≠ some k ∧ py.ownBlock ≠ some k := fun k q => by
    rcases hS.fp k q with a | a
    · exact h.fpl k a
    · exact ⟨Nat.le_trans h.top a, fun q => by have := (h.li.rx.lt k q).2; omega, fun q => by have := (h.li.ry.lt k q).2; omega⟩
  have lo := h.lo
  have top := h.top
  have kb : ∀ k, k < Sb → k < w1.heap.size → W.heap[k]? = w1.heap[k]? := fun k hk hl => hX.blk k hl (by omega) (fun q => by have := (h.li.bx k q).1; omega) (fun q => by have := h.li.bY k q; omega)
  refine ⟨hok, hR.keep (fun k q => ?_), hL, ?_, h.lo, by omega, fun k q => ⟨(hf k q).1, fun a => ?_, fun a => ?_⟩⟩
  · rcases q with rfl | rfl | q
    · exact kb _ lo.2.2.1 (hlt _ (Or.inl rfl))
    · exact kb _ lo.2.2.2 (hlt _ (Or.inr (Or.inl rfl)))
    · have := hf k q
      exact hX.blk k (hlt _ (Or.inr (Or.inr q))) (by omega) this.2.1 this.2.2
  · refine h.bel.trans ⟨hX.os.trans hS.os, hX.tape.trans hS.tape, hX.output.trans hS.output, by omega, fun k hk => ?_⟩
    have hB : k < w.heap.size := by omega
    refine (kb k (by omega) (by omega)).trans (hS.blk k hB (by omega) (fun q => ?_))
    have := (h.fpl k q).1
    omega
  · rcases hx k a with b | b
    · exact (hf k q).2.1 b
    · have := hlt k (Or.inr (Or.inr q)); omega
  · rcases hy k a with b | b
    · exact (hf k q).2.2 b
    · have := hlt k (Or.inr (Or.inr q)); omega

/-- Behind the call, before the law's own stores. -/
theorem Inv.li1 {B rb mb Sb id n t r wd k : Nat} {w0 w w1 : World} {px py : Value} {fp fp' : List Nat} {S : St} (h : Inv B rb mb Sb id n t r wd w0 w px py k fp S) (hS : Step w w1 mb fp fp') :
    LI w1 Sb n B S.seen (fun e => S.seen e id) S.oth S.v0 S.v1 px py S.pts := by
  have lo := h.lo
  have top := h.top
  refine h.li.keep (fun k q => ?_)
  rcases q with q | q | q
  · exact hS.blk k (by omega) (by omega) (fun a => by have := (h.fpl k a).1; omega)
  · exact hS.blk k (h.li.rx.lt k q).2 (by have := (h.li.bx k q).1; omega) (fun a => (h.fpl k a).2.1 q)
  · exact hS.blk k (h.li.ry.lt k q).2 (by have := h.li.bY k q; omega) (fun a => (h.fpl k a).2.2 q)

/-- An argument's cell, behind the call. -/
theorem Inv.arg {B rb mb Sb id n t r wd k : Nat} {w0 w w1 : World} {px py : Value} {fp fp' : List Nat} {S : St} (h : Inv B rb mb Sb id n t r wd w0 w px py k fp S) (hS : Step w w1 mb fp fp') {b o : Nat} (hb : b < B) : w1.cell? ⟨b, o, none⟩ = w0.cell? ⟨b, o, none⟩ := by
  have lo := h.lo
  have top := h.top
  exact (World.cell?_of_block (a := ⟨b, o, none⟩) (hS.blk b (by omega) (by omega) (fun a => by have := (h.fpl b a).1; omega))).trans (World.cell?_of_block (a := ⟨b, o, none⟩) (h.bel.block b hb))

end Go.Proofs.Qxb6609496aFmt
