/- The second loop: what a counted message leaves, without a walk. -/
import Derived.Test.Qxb6609496aFmtWi2
namespace Go.Proofs.Qxb6609496aFmt
open Go.RowKit

theorem LI.cast {W : World} {Sb n B : Nat} {s s' : Nat → Nat → Bool} {o o' : Nat → Bool} {a a' b b' c c' : Nat → Nat} {px py : Value} {p p' : List (Nat × Nat)} (h : LI W Sb n B s o a b c px py p) (h1 : s = s') (h2 : o = o') (h3 : a = a') (h4 : b = b') (h5 : c = c') (h6 : p = p') : LI W Sb n B s' o' a' b' c' px py p' := by
  subst h1 h2 h3 h4 h5 h6; exact h

theorem up0 (g : Nat → Nat) (e : Nat) : up g e 0 = g := by funext x; simp [up]

section
variable {w W : World} {Sb n B id e f v M : Nat} {S : St} {px py : Value} {pts : List (Nat × Nat)}

theorem end_other (h : LI w Sb n B S.seen (fun e => S.seen e id) S.oth S.v0 S.v1 px py pts) (hM : M = e * (n + 1)) (he : e < 3) (hf : f ≤ n) (hi : f ≠ id) :
    LI ((w.setCell ⟨Sb, M + f, none⟩ (.bool true)).setCell ⟨Sb + 1, e, none⟩ (.int .i64 ((S.oth e : Int) + 1))) Sb n B (took S id e f v).seen (fun e' => (took S id e f v).seen e' id) (took S id e f v).oth S.v0 S.v1 px py pts := by
  subst hM
  refine ((h.set_seen he hf).set_oth (k := S.oth e + 1) he).cast rfl ?_ ?_ rfl rfl rfl
  · funext x; simp [took]; intro _ q; exact absurd q.symm hi
  · simp [took, b2n, hi]; exact put_up _ _ _
theorem end_own (h : LI w Sb n B S.seen (fun e => S.seen e id) S.oth S.v0 S.v1 px py pts) (hM : M = e * (n + 1)) (he : e < 3) (hf : f ≤ n) (hi : f = id) :
    LI ((w.setCell ⟨Sb, M + f, none⟩ (.bool true)).setCell ⟨Sb + 2, e, none⟩ (.bool true)) Sb n B (took S id e f v).seen (fun e' => (took S id e f v).seen e' id) (took S id e f v).oth S.v0 S.v1 px py pts := by
  subst hM
  refine ((h.set_seen he hf).set_own he).cast rfl ?_ ?_ rfl rfl rfl
  · funext x; simp [took, hi]
  · simp [took, b2n, hi]; exact (up0 _ _).symm
theorem end_v0 {s : Nat → Nat → Bool} {o : Nat → Bool} {a : Nat → Nat} (h : LI W Sb n B s o a S.v0 S.v1 px py pts) (he : e < 3) (hv : v = 0) :
    LI (W.setCell ⟨Sb + 3, e, none⟩ (.int .i64 ((S.v0 e : Int) + 1))) Sb n B s o a (took S id e f v).v0 (took S id e f v).v1 px py pts := by
  refine (h.set_v0 (k := S.v0 e + 1) he).cast rfl rfl rfl ?_ ?_ rfl
  · simp [took, b2n, hv]; exact put_up _ _ _
  · simp [took, b2n, hv]; exact (up0 _ _).symm
theorem end_v1 {s : Nat → Nat → Bool} {o : Nat → Bool} {a : Nat → Nat} (h : LI W Sb n B s o a S.v0 S.v1 px py pts) (he : e < 3) (hv : v = 1) :
    LI (W.setCell ⟨Sb + 4, e, none⟩ (.int .i64 ((S.v1 e : Int) + 1))) Sb n B s o a (took S id e f v).v0 (took S id e f v).v1 px py pts := by
  refine (h.set_v1 (k := S.v1 e + 1) he).cast rfl rfl rfl ?_ ?_ rfl
  · simp [took, b2n, hv]; exact (up0 _ _).symm
  · simp [took, b2n, hv]; exact put_up _ _ _
theorem end_v2 {s : Nat → Nat → Bool} {o : Nat → Bool} {a : Nat → Nat} (h : LI W Sb n B s o a S.v0 S.v1 px py pts) (h0 : v ≠ 0) (h1 : v ≠ 1) :
    LI W Sb n B s o a (took S id e f v).v0 (took S id e f v).v1 px py pts := by
  refine h.cast rfl rfl rfl ?_ ?_ rfl
  · simp [took, b2n, h0]; exact (up0 _ _).symm
  · simp [took, b2n, h1]; exact (up0 _ _).symm
end

section
variable {B rb mb Sb id n t r wd k e f v : Nat} {w0 w w1 W w3 w5 : World} {px py : Value} {fp fp' : List Nat} {S : St} {o o' : Obj} {g g' cap cap' : Nat}

theorem Inv.plain (h : Inv B rb mb Sb id n t r wd w0 w px py k fp S) (hwd : 1 ≤ wd) (hR : Rab w1 rb mb id n t r wd B fp' (step S id n t e f v)) (hS : Step w w1 mb fp fp') (hc : counted S id n t e f = true) (he : e ≠ 2) (he3 : e < 3) (hf : f ≤ 65536) (hv : v < 4294967296)
    (hL : LI W Sb n B (took S id e f v).seen (fun e' => (took S id e f v).seen e' id) (took S id e f v).oth (took S id e f v).v0 (took S id e f v).v1 px py S.pts) (hX : Lx Sb px py w1 W) : Rel2 B rb mb Sb id n t r wd w0 (k + 1) px py W := by
  have hok := ok_step (t := t) (v := v) h.ok he3 hf hv
  have e1 : step S id n t e f v = took S id e f v := by simp [step, hc]
  rw [e1] at hR hok
  exact ⟨fp', took S id e f v, h.next hwd hR hS (hL.cast rfl rfl rfl rfl rfl (by simp [took, he])) hX (fun _ q => Or.inl q) (fun _ q => Or.inl q) hok⟩

theorem Inv.point (h : Inv B rb mb Sb id n t r wd w0 w px py k fp S) (hwd : 1 ≤ wd) (hR : Rab w1 rb mb id n t r wd B fp' (step S id n t e f v)) (hS : Step w w1 mb fp fp') (hc : counted S id n t e f = true) (he : e = 2) (hf : f ≤ 65536) (hv : v < 4294967296)
    (hL : LI W Sb n B (took S id e f v).seen (fun e' => (took S id e f v).seen e' id) (took S id e f v).oth (took S id e f v).v0 (took S id e f v).v1 px py S.pts) (hX : Lx Sb px py w1 W)
    (hx : (W.alloc o).grownBy w3 px.ownBlock) (ox : w3.ownsRow B 22 1 (.slice (some ⟨g, 0, none⟩) (S.pts.length + 1) cap) (S.pts.length + 1) (xCells S.pts ++ [.int .u64 (f : Int)])) (ax : px.ownBlock = some g ∨ g = W.heap.size + 1) (gl : g < w3.heap.size)
    (hy : (w3.alloc o').grownBy w5 py.ownBlock) (oy : w5.ownsRow B 22 1 (.slice (some ⟨g', 0, none⟩) (S.pts.length + 1) cap') (S.pts.length + 1) (yCells S.pts ++ [.int .u64 (v : Int)])) (ay : py.ownBlock = some g' ∨ g' = w3.heap.size + 1) :
    Rel2 B rb mb Sb id n t r wd w0 (k + 1) (.slice (some ⟨g, 0, none⟩) (S.pts.length + 1) cap) (.slice (some ⟨g', 0, none⟩) (S.pts.length + 1) cap') w5 := by
  have hok := ok_step (t := t) (v := v) h.ok (show e < 3 by omega) hf hv
  have e1 : step S id n t e f v = took S id e f v := by simp [step, hc]
  rw [e1] at hR hok
  have z := hX.size
  have z1 := hS.size
  have top := h.top
  have zx := hx.size
  simp only [World.size_alloc] at zx
  have hL' := hL.app hx ox ax gl hy oy ay (by omega)
  refine ⟨fp', took S id e f v, h.next hwd hR hS (hL'.cast rfl rfl rfl rfl rfl (by simp [took, he])) (hX.app hx hy) (fun k q => ?_) (fun k q => ?_) hok⟩
  · simp [Value.ownBlock] at q
    subst q
    exact ax.imp (fun a => a) (fun a => by omega)
  · simp [Value.ownBlock] at q
    subst q
    exact ay.imp (fun a => a) (fun a => by omega)

theorem Inv.not (h : Inv B rb mb Sb id n t r wd w0 w px py k fp S) (hwd : 1 ≤ wd) (hR : Rab w1 rb mb id n t r wd B fp' (step S id n t e f v)) (hS : Step w w1 mb fp fp') (hc : counted S id n t e f = false) (he3 : e < 3) (hf : f ≤ 65536) (hv : v < 4294967296) : Rel2 B rb mb Sb id n t r wd w0 (k + 1) px py w1 := by
  have hok := ok_step (t := t) (v := v) h.ok he3 hf hv
  have e1 : step S id n t e f v = S := by simp [step, hc]
  rw [e1] at hR hok
  exact ⟨fp', S, h.next hwd hR hS (h.li1 hS) (Lx.refl _ _ _ _) (fun _ q => Or.inl q) (fun _ q => Or.inl q) hok⟩
end

end Go.Proofs.Qxb6609496aFmt
