/- The third loop: what it leaves, without a walk. -/
import Derived.Test.Qxb6609496aFmtLoop4
namespace Go.Proofs.Qxb6609496aFmt
open Go.RowKit

theorem row_slice {w : World} {base e size n : Nat} {v : Value} {xs : List Value} (h : w.ownsRow base e size v n xs) : ∃ a cap, v = .slice a n cap := by
  rcases h.2 with ⟨rfl, rfl⟩ | ⟨g, cap, cur, rfl, _⟩
  · exact ⟨none, 0, rfl⟩
  · exact ⟨_, cap, rfl⟩

theorem Ok.mono {S : St} {id n t k : Nat} (h : Ok S id n t k) : Ok S id n t (k + 1) :=
  ⟨h.oth, fun e => Nat.le_succ_of_le (h.c e), fun e => Nat.le_succ_of_le (h.v0 e), fun e => Nat.le_succ_of_le (h.v1 e), Nat.le_succ_of_le h.p, h.pf⟩

theorem Inv.same {B rb mb Sb id n t r wd k : Nat} {w0 w w1 W : World} {px py : Value} {fp fp' : List Nat} {S : St} (h : Inv B rb mb Sb id n t r wd w0 w px py k fp S) (hwd : 1 ≤ wd) (hR : Rab w1 rb mb id n t r wd B fp' S) (hS : Step w w1 mb fp fp')
    (o1 : W.os = w1.os) (o2 : W.tape = w1.tape) (o3 : W.output = w1.output) (hz : w1.heap.size ≤ W.heap.size) (hb : ∀ k, k < w1.heap.size → W.heap[k]? = w1.heap[k]?) : Inv B rb mb Sb id n t r wd w0 W px py k fp' S := by
  have hL := h.li1 hS
  have top := h.top
  have z := hS.size
  have q := h.next (W := W) (px' := px) (py' := py) (S' := S) hwd hR hS (hL.keep (fun k q => ?_)) ⟨o1, o2, o3, hz, fun k hk _ _ _ => hb k hk⟩ (fun _ q => Or.inl q) (fun _ q => Or.inl q) h.ok.mono
  · exact ⟨h.ok, q.rab, q.li, q.bel, q.lo, q.top, q.fpl⟩
  · refine hb k ?_
    rcases q with q | q | q
    · omega
    · exact (hL.rx.lt k q).2
    · exact (hL.ry.lt k q).2

end Go.Proofs.Qxb6609496aFmt
