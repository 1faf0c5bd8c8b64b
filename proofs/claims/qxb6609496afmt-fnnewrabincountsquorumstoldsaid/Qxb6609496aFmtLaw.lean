/- How the plain state lies in the law's own memory. -/
import Derived.Test.Qxb6609496aFmtClone
namespace Go.Proofs.Qxb6609496aFmt
open Go.RowKit

def xCells (l : List (Nat × Nat)) : List Value := l.map fun x => .int .u64 (x.1 : Int)
def yCells (l : List (Nat × Nat)) : List Value := l.map fun x => .int .u64 (x.2 : Int)

structure LI (w : World) (Sb n base : Nat) (seen : Nat → Nat → Bool) (own : Nat → Bool) (oth v0 v1 : Nat → Nat) (px py : Value) (pts : List (Nat × Nat)) : Prop where
  sn : ∀ e, e < 3 → ∀ f, f ≤ n → w.cell? ⟨Sb, e * (n + 1) + f, none⟩ = some (.bool (seen e f))
  ot : ∀ e, e < 3 → w.cell? ⟨Sb + 1, e, none⟩ = some (.int .i64 (oth e : Int))
  ow : ∀ e, e < 3 → w.cell? ⟨Sb + 2, e, none⟩ = some (.bool (own e))
  a0 : ∀ e, e < 3 → w.cell? ⟨Sb + 3, e, none⟩ = some (.int .i64 (v0 e : Int))
  a1 : ∀ e, e < 3 → w.cell? ⟨Sb + 4, e, none⟩ = some (.int .i64 (v1 e : Int))
  fz : ∀ b o, Sb ≤ b → b < Sb + 5 → w.frozen? ⟨b, o, none⟩ = false
  rx : w.ownsRow base 22 1 px pts.length (xCells pts)
  ry : w.ownsRow base 22 1 py pts.length (yCells pts)
  bx : ∀ k, px.ownBlock = some k → Sb + 5 ≤ k ∧ py.ownBlock ≠ some k
  bY : ∀ k, py.ownBlock = some k → Sb + 5 ≤ k

section
variable {w w' : World} {Sb n base : Nat} {seen : Nat → Nat → Bool} {own : Nat → Bool} {oth v0 v1 : Nat → Nat} {px py : Value} {pts : List (Nat × Nat)}

theorem LI.keep (h : LI w Sb n base seen own oth v0 v1 px py pts) (hk : ∀ k, ((Sb ≤ k ∧ k < Sb + 5) ∨ px.ownBlock = some k ∨ py.ownBlock = some k) → w'.heap[k]? = w.heap[k]?) : LI w' Sb n base seen own oth v0 v1 px py pts := by
  have c : ∀ b o, Sb ≤ b → b < Sb + 5 → w'.cell? ⟨b, o, none⟩ = w.cell? ⟨b, o, none⟩ := fun b o h1 h2 => World.cell?_of_block (a := ⟨b, o, none⟩) (hk b (Or.inl ⟨h1, h2⟩))
  exact ⟨fun e he f hf => (c _ _ (by omega) (by omega)).trans (h.sn e he f hf), fun e he => (c _ _ (by omega) (by omega)).trans (h.ot e he), fun e he => (c _ _ (by omega) (by omega)).trans (h.ow e he), fun e he => (c _ _ (by omega) (by omega)).trans (h.a0 e he), fun e he => (c _ _ (by omega) (by omega)).trans (h.a1 e he),
    fun b o h1 h2 => (World.frozen?_of_block (a := ⟨b, o, none⟩) (hk b (Or.inl ⟨h1, h2⟩))).trans (h.fz b o h1 h2), row_keep h.rx (fun k q => hk k (Or.inr (Or.inl q))), row_keep h.ry (fun k q => hk k (Or.inr (Or.inr q))), h.bx, h.bY⟩

theorem LI.rows (h : LI w Sb n base seen own oth v0 v1 px py pts) {a : Addr} (ha : a.block < Sb + 5) (u : Value) : (w.setCell a u).ownsRow base 22 1 px pts.length (xCells pts) ∧ (w.setCell a u).ownsRow base 22 1 py pts.length (yCells pts) :=
  ⟨row_keep h.rx (fun k q => heap_other (by have := (h.bx k q).1; omega)), row_keep h.ry (fun k q => heap_other (by have := h.bY k q; omega))⟩

theorem LI.set_seen (h : LI w Sb n base seen own oth v0 v1 px py pts) {e f : Nat} (he : e < 3) (hf : f ≤ n) :
    LI (w.setCell ⟨Sb, e * (n + 1) + f, none⟩ (.bool true)) Sb n base (fun e' g => if e' = e ∧ g = f then true else seen e' g) own oth v0 v1 px py pts := by
  obtain ⟨r1, r2⟩ := h.rows (a := ⟨Sb, e * (n + 1) + f, none⟩) (by show Sb < Sb + 5; omega) (.bool true)
  refine ⟨fun e' he' g hg => ?_, fun e' he' => (cs_other (Or.inl (by omega))).trans (h.ot e' he'), fun e' he' => (cs_other (Or.inl (by omega))).trans (h.ow e' he'), fun e' he' => (cs_other (Or.inl (by omega))).trans (h.a0 e' he'), fun e' he' => (cs_other (Or.inl (by omega))).trans (h.a1 e' he'), fun b o h1 h2 => (World.frozen?_setCell _ _ _ _).trans (h.fz b o h1 h2), r1, r2, h.bx, h.bY⟩
  by_cases q : e' = e ∧ g = f
  · obtain ⟨rfl, rfl⟩ := q
    simp only [and_self, if_true]
    exact World.cell?_setCell_same _ _ _ (h.sn e' he' g hg)
  · rw [if_neg q]
    refine (cs_other (Or.inr fun a => q ?_)).trans (h.sn e' he' g hg)
    obtain ⟨x, y⟩ := row_unique (wd := n + 1) (by omega) (by omega) a
    exact ⟨x.symm, y.symm⟩

theorem LI.set_own (h : LI w Sb n base seen own oth v0 v1 px py pts) {e : Nat} (he : e < 3) :
    LI (w.setCell ⟨Sb + 2, e, none⟩ (.bool true)) Sb n base seen (fun e' => if e' = e then true else own e') oth v0 v1 px py pts := by
  obtain ⟨r1, r2⟩ := h.rows (a := ⟨Sb + 2, e, none⟩) (by show Sb + 2 < Sb + 5; omega) (.bool true)
  refine ⟨fun e' he' g hg => (cs_other (Or.inl (by omega))).trans (h.sn e' he' g hg), fun e' he' => (cs_other (Or.inl (by omega))).trans (h.ot e' he'), fun e' he' => ?_, fun e' he' => (cs_other (Or.inl (by omega))).trans (h.a0 e' he'), fun e' he' => (cs_other (Or.inl (by omega))).trans (h.a1 e' he'), fun b o h1 h2 => (World.frozen?_setCell _ _ _ _).trans (h.fz b o h1 h2), r1, r2, h.bx, h.bY⟩
  by_cases q : e' = e
  · subst q; rw [if_pos rfl]; exact World.cell?_setCell_same _ _ _ (h.ow e' he')
  · rw [if_neg q]; exact (cs_other (Or.inr (by omega))).trans (h.ow e' he')

theorem LI.set_oth (h : LI w Sb n base seen own oth v0 v1 px py pts) {e k : Nat} (he : e < 3) :
    LI (w.setCell ⟨Sb + 1, e, none⟩ (.int .i64 (k : Int))) Sb n base seen own (put oth e k) v0 v1 px py pts := by
  obtain ⟨r1, r2⟩ := h.rows (a := ⟨Sb + 1, e, none⟩) (by show Sb + 1 < Sb + 5; omega) (.int .i64 (k : Int))
  refine ⟨fun e' he' g hg => (cs_other (Or.inl (by omega))).trans (h.sn e' he' g hg), fun e' he' => ?_, fun e' he' => (cs_other (Or.inl (by omega))).trans (h.ow e' he'), fun e' he' => (cs_other (Or.inl (by omega))).trans (h.a0 e' he'), fun e' he' => (cs_other (Or.inl (by omega))).trans (h.a1 e' he'), fun b o h1 h2 => (World.frozen?_setCell _ _ _ _).trans (h.fz b o h1 h2), r1, r2, h.bx, h.bY⟩
  unfold put
  by_cases q : e' = e
  · subst q; rw [if_pos rfl]; exact World.cell?_setCell_same _ _ _ (h.ot e' he')
  · rw [if_neg q]; exact (cs_other (Or.inr (by omega))).trans (h.ot e' he')

theorem LI.set_v0 (h : LI w Sb n base seen own oth v0 v1 px py pts) {e k : Nat} (he : e < 3) :
    LI (w.setCell ⟨Sb + 3, e, none⟩ (.int .i64 (k : Int))) Sb n base seen own oth (put v0 e k) v1 px py pts := by
  obtain ⟨r1, r2⟩ := h.rows (a := ⟨Sb + 3, e, none⟩) (by show Sb + 3 < Sb + 5; omega) (.int .i64 (k : Int))
  refine ⟨fun e' he' g hg => (cs_other (Or.inl (by omega))).trans (h.sn e' he' g hg), fun e' he' => (cs_other (Or.inl (by omega))).trans (h.ot e' he'), fun e' he' => (cs_other (Or.inl (by omega))).trans (h.ow e' he'), fun e' he' => ?_, fun e' he' => (cs_other (Or.inl (by omega))).trans (h.a1 e' he'), fun b o h1 h2 => (World.frozen?_setCell _ _ _ _).trans (h.fz b o h1 h2), r1, r2, h.bx, h.bY⟩
  unfold put
  by_cases q : e' = e
  · subst q; rw [if_pos rfl]; exact World.cell?_setCell_same _ _ _ (h.a0 e' he')
  · rw [if_neg q]; exact (cs_other (Or.inr (by omega))).trans (h.a0 e' he')

theorem LI.set_v1 (h : LI w Sb n base seen own oth v0 v1 px py pts) {e k : Nat} (he : e < 3) :
    LI (w.setCell ⟨Sb + 4, e, none⟩ (.int .i64 (k : Int))) Sb n base seen own oth v0 (put v1 e k) px py pts := by
  obtain ⟨r1, r2⟩ := h.rows (a := ⟨Sb + 4, e, none⟩) (by show Sb + 4 < Sb + 5; omega) (.int .i64 (k : Int))
  refine ⟨fun e' he' g hg => (cs_other (Or.inl (by omega))).trans (h.sn e' he' g hg), fun e' he' => (cs_other (Or.inl (by omega))).trans (h.ot e' he'), fun e' he' => (cs_other (Or.inl (by omega))).trans (h.ow e' he'), fun e' he' => (cs_other (Or.inl (by omega))).trans (h.a0 e' he'), fun e' he' => ?_, fun b o h1 h2 => (World.frozen?_setCell _ _ _ _).trans (h.fz b o h1 h2), r1, r2, h.bx, h.bY⟩
  unfold put
  by_cases q : e' = e
  · subst q; rw [if_pos rfl]; exact World.cell?_setCell_same _ _ _ (h.a1 e' he')
  · rw [if_neg q]; exact (cs_other (Or.inr (by omega))).trans (h.a1 e' he')

end

/-- All that the law holds between two messages. -/
structure Inv (B rb mb Sb id n t r wd : Nat) (w0 w : World) (px py : Value) (k : Nat) (fp : List Nat) (S : St) : Prop where
  ok : Ok S id n t k
  rab : Rab w rb mb id n t r wd B fp S
  li : LI w Sb n B S.seen (fun e => S.seen e id) S.oth S.v0 S.v1 px py S.pts
  bel : Below B w0 w
  lo : B ≤ rb ∧ B ≤ mb ∧ rb < Sb ∧ mb < Sb
  top : Sb + 5 ≤ w.heap.size
  fpl : ∀ k, k ∈ fp → Sb + 5 ≤ k ∧ px.ownBlock ≠ some k ∧ py.ownBlock ≠ some k

end Go.Proofs.Qxb6609496aFmt
