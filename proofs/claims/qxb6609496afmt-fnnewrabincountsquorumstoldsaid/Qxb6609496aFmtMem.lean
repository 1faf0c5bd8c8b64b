/- How the plain state lies in memory: the node's side. -/
import Derived.Test.Qxb6609496aFmtOf
import Derived.Test.Qxb6609496aFmtPlain
import Derived.Deep.AppendLies
namespace Go.Proofs.Qxb6609496aFmt
open Go.RowKit Go.Maps

/-- The cells of the points, two a point. -/
def ptCells (l : List (Nat × Nat)) : List Value := l.flatMap fun x => [.int .u64 (x.1 : Int), .int .u64 (x.2 : Int)]
theorem ptCells_append (l : List (Nat × Nat)) (f v : Nat) : ptCells (l ++ [(f, v)]) = ptCells l ++ [.int .u64 (f : Int), .int .u64 (v : Int)] := by simp [ptCells]

/-- The node's own fields. -/
structure Rb (w : World) (rb mb id n t : Nat) : Prop where
  c0 : w.cell? ⟨rb, 0, none⟩ = some (.int .i64 (id : Int))
  c1 : w.cell? ⟨rb, 1, none⟩ = some (.int .i64 (n : Int))
  c2 : w.cell? ⟨rb, 2, none⟩ = some (.int .i64 (t : Int))
  c11 : w.cell? ⟨rb, 11, none⟩ = some (.int .i64 (n : Int))
  c12 : w.cell? ⟨rb, 12, none⟩ = some (.int .i64 3)
  c13 : w.cell? ⟨rb, 13, none⟩ = some (.map (some mb))
  c14 : w.cell? ⟨rb, 14, none⟩ = some (.slice none 0 0)

theorem Rb.keep {w w' : World} {rb mb id n t : Nat} (h : Rb w rb mb id n t) (hk : w'.heap[rb]? = w.heap[rb]?) : Rb w' rb mb id n t := by
  have e : ∀ o, w'.cell? ⟨rb, o, none⟩ = w.cell? ⟨rb, o, none⟩ := fun o => World.cell?_of_block (a := ⟨rb, o, none⟩) hk
  exact ⟨(e _).trans h.c0, (e _).trans h.c1, (e _).trans h.c2, (e _).trans h.c11, (e _).trans h.c12, (e _).trans h.c13, (e _).trans h.c14⟩

/-- The three tallies of the round. -/
structure Tal (w : World) (tb hb wd n base : Nat) (pv : Value) (seen : Nat → Nat → Bool) (c v0 v1 : Nat → Nat) (pts : List (Nat × Nat)) : Prop where
  ne : tb ≠ hb
  wide : ∀ f, f ≤ n → (f - 1) / 64 < wd
  sl : ∀ e, e < 3 → w.cell? ⟨tb, e * 5, none⟩ = some (.slice (some ⟨hb, e * wd, none⟩) wd wd)
  cc : ∀ e, e < 3 → w.cell? ⟨tb, e * 5 + 1, none⟩ = some (.int .i64 (c e : Int))
  cv0 : ∀ e, e < 3 → w.cell? ⟨tb, e * 5 + 2, none⟩ = some (.int .i64 (v0 e : Int))
  cv1 : ∀ e, e < 3 → w.cell? ⟨tb, e * 5 + 3, none⟩ = some (.int .i64 (v1 e : Int))
  p : ∀ e, e < 2 → w.cell? ⟨tb, e * 5 + 4, none⟩ = some (.slice none 0 0)
  p2 : w.cell? ⟨tb, 14, none⟩ = some pv
  fz : ∀ o, o < 15 → w.frozen? ⟨tb, o, none⟩ = false
  hd : ∀ e, e < 3 → ∀ j, j < wd → ∃ x : Nat, x < 18446744073709551616 ∧ w.cell? ⟨hb, e * wd + j, none⟩ = some (.int .u64 (x : Int)) ∧ ∀ f, 1 ≤ f → f ≤ n → (f - 1) / 64 = j → bitOf x f = seen e f
  hf : ∀ o, o < 3 * wd → w.frozen? ⟨hb, o, none⟩ = false
  row : w.ownsRow base 57 2 pv pts.length (ptCells pts)
  pt : ∀ k, pv.ownBlock = some k → k ≠ tb ∧ k ≠ hb

theorem row_keep {w w' : World} {base e size n : Nat} {v : Value} {xs : List Value} (h : w.ownsRow base e size v n xs) (hk : ∀ k, v.ownBlock = some k → w'.heap[k]? = w.heap[k]?) : w'.ownsRow base e size v n xs := by
  refine ⟨h.1, ?_⟩
  rcases h.2 with hn | ⟨g, cap, cur, hv, hb, hg, rest⟩
  · exact .inl hn
  · exact .inr ⟨g, cap, cur, hv, hb, by rw [hk g (by rw [hv]; rfl)]; exact hg, rest⟩

theorem Tal.keep {w w' : World} {tb hb wd n base : Nat} {pv : Value} {seen : Nat → Nat → Bool} {c v0 v1 : Nat → Nat} {pts : List (Nat × Nat)} (h : Tal w tb hb wd n base pv seen c v0 v1 pts) (h1 : w'.heap[tb]? = w.heap[tb]?) (h2 : w'.heap[hb]? = w.heap[hb]?) (h3 : ∀ k, pv.ownBlock = some k → w'.heap[k]? = w.heap[k]?) :
    Tal w' tb hb wd n base pv seen c v0 v1 pts := by
  have e1 : ∀ o, w'.cell? ⟨tb, o, none⟩ = w.cell? ⟨tb, o, none⟩ := fun o => World.cell?_of_block (a := ⟨tb, o, none⟩) h1
  have e2 : ∀ o, w'.cell? ⟨hb, o, none⟩ = w.cell? ⟨hb, o, none⟩ := fun o => World.cell?_of_block (a := ⟨hb, o, none⟩) h2
  have g1 : ∀ o, w'.frozen? ⟨tb, o, none⟩ = w.frozen? ⟨tb, o, none⟩ := fun o => World.frozen?_of_block (a := ⟨tb, o, none⟩) h1
  have g2 : ∀ o, w'.frozen? ⟨hb, o, none⟩ = w.frozen? ⟨hb, o, none⟩ := fun o => World.frozen?_of_block (a := ⟨hb, o, none⟩) h2
  exact ⟨h.ne, h.wide, fun e he => (e1 _).trans (h.sl e he), fun e he => (e1 _).trans (h.cc e he), fun e he => (e1 _).trans (h.cv0 e he), fun e he => (e1 _).trans (h.cv1 e he), fun e he => (e1 _).trans (h.p e he), (e1 _).trans h.p2, fun o ho => (g1 _).trans (h.fz o ho),
    fun e he j hj => by obtain ⟨x, hx, hc, hb⟩ := h.hd e he j hj; exact ⟨x, hx, (e2 _).trans hc, hb⟩, fun o ho => (g2 _).trans (h.hf o ho), row_keep h.row h3, h.pt⟩

theorem lt_of_cell {w : World} {a : Addr} {v : Value} (h : w.cell? a = some v) : a.block < w.heap.size := World.block_lt_of_cell? _ _ h

theorem cs_other {w : World} {b o b' o' : Nat} {v : Value} (h : b ≠ b' ∨ o ≠ o') : (w.setCell ⟨b, o, none⟩ v).cell? ⟨b', o', none⟩ = w.cell? ⟨b', o', none⟩ :=
  World.cell?_setCell_other _ _ _ _ (by simp; omega)
theorem heap_other {w : World} {a : Addr} {v : Value} {k : Nat} (h : k ≠ a.block) : (w.setCell a v).heap[k]? = w.heap[k]? := Below.heap_setCell _ _ _ _ h

theorem row_unique {wd e j e' j' : Nat} (hj : j < wd) (hj' : j' < wd) (h : e * wd + j = e' * wd + j') : e = e' ∧ j = j' := by
  have h0 : 0 < wd := by omega
  have a : (e * wd + j) / wd = e := by rw [Nat.add_comm, Nat.add_mul_div_right _ _ h0, Nat.div_eq_of_lt hj]; omega
  have b : (e' * wd + j') / wd = e' := by rw [Nat.add_comm, Nat.add_mul_div_right _ _ h0, Nat.div_eq_of_lt hj']; omega
  have c : e = e' := by rw [← a, ← b, h]
  subst c
  exact ⟨rfl, by omega⟩

section
variable {w : World} {tb hb wd n base : Nat} {pv : Value} {seen : Nat → Nat → Bool} {c v0 v1 : Nat → Nat} {pts : List (Nat × Nat)}

theorem bit_or (x f g : Nat) (hf : 1 ≤ f) (hg : 1 ≤ g) (hw : (g - 1) / 64 = (f - 1) / 64) : bitOf (x ||| hbit f) g = (decide (g = f) || bitOf x g) := by
  unfold bitOf hbit
  rw [Nat.testBit_or, Nat.testBit_two_pow]
  by_cases h : g = f
  · subst h; simp
  · have : ¬ (f - 1) % 64 = (g - 1) % 64 := by omega
    simp [h, this]

/-- The row of words lies within the three. -/
theorem in_rows {e j : Nat} (he : e < 3) (hj : j < wd) : e * wd + j < 3 * wd := by
  have : e * wd + wd ≤ 3 * wd := by
    have := Nat.mul_le_mul_right wd (show e + 1 ≤ 3 by omega)
    rw [Nat.add_mul] at this
    omega
  omega

theorem Tal.set_heard (h : Tal w tb hb wd n base pv seen c v0 v1 pts) {e f x : Nat} (he : e < 3) (hf1 : 1 ≤ f) (hfn : f ≤ n) (hx : x < 18446744073709551616)
    (hc : w.cell? ⟨hb, e * wd + (f - 1) / 64, none⟩ = some (.int .u64 (x : Int))) (hbx : ∀ g, 1 ≤ g → g ≤ n → (g - 1) / 64 = (f - 1) / 64 → bitOf x g = seen e g) :
    Tal (w.setCell ⟨hb, e * wd + (f - 1) / 64, none⟩ (.int .u64 ((x ||| hbit f : Nat) : Int))) tb hb wd n base pv (fun e' g => if e' = e ∧ g = f then true else seen e' g) c v0 v1 pts := by
  have hne : hb ≠ tb := fun q => h.ne q.symm
  have k1 : ∀ o, (w.setCell ⟨hb, e * wd + (f - 1) / 64, none⟩ (.int .u64 ((x ||| hbit f : Nat) : Int))).cell? ⟨tb, o, none⟩ = w.cell? ⟨tb, o, none⟩ := fun o => cs_other (Or.inl hne)
  refine ⟨h.ne, h.wide, fun e he => (k1 _).trans (h.sl e he), fun e he => (k1 _).trans (h.cc e he), fun e he => (k1 _).trans (h.cv0 e he), fun e he => (k1 _).trans (h.cv1 e he), fun e he => (k1 _).trans (h.p e he), (k1 _).trans h.p2, fun o ho => (World.frozen?_setCell _ _ _ _).trans (h.fz o ho), ?_, fun o ho => (World.frozen?_setCell _ _ _ _).trans (h.hf o ho), row_keep h.row (fun k hk => heap_other (h.pt k hk).2), h.pt⟩
  intro e' he' j hj
  by_cases hh : e' = e ∧ j = (f - 1) / 64
  · obtain ⟨rfl, rfl⟩ := hh
    refine ⟨x ||| hbit f, or_lt x f hx, World.cell?_setCell_same _ _ _ hc, fun g hg1 hgn hgj => ?_⟩
    rw [bit_or x f g hf1 hg1 hgj, hbx g hg1 hgn hgj]
    by_cases hgf : g = f <;> simp [hgf]
  · obtain ⟨y, hy, hcy, hby⟩ := h.hd e' he' j hj
    refine ⟨y, hy, (cs_other (Or.inr fun q => hh ?_)).trans hcy, fun g hg1 hgn hgj => ?_⟩
    · obtain ⟨a, b⟩ := row_unique (h.wide f hfn) hj q
      exact ⟨a.symm, b.symm⟩
    · rw [hby g hg1 hgn hgj, if_neg]
      rintro ⟨rfl, rfl⟩
      exact hh ⟨rfl, hgj.symm⟩

def put (g : Nat → Nat) (e k : Nat) : Nat → Nat := fun e' => if e' = e then k else g e'

theorem tb_far (h : Tal w tb hb wd n base pv seen c v0 v1 pts) {o : Nat} {u : Value} :
    (∀ e, e < 3 → e * 5 ≠ o) → (∀ e, e < 2 → e * 5 + 4 ≠ o) → o ≠ 14 →
    (∀ e, e < 3 → (w.setCell ⟨tb, o, none⟩ u).cell? ⟨tb, e * 5, none⟩ = some (.slice (some ⟨hb, e * wd, none⟩) wd wd)) ∧
    (∀ e, e < 2 → (w.setCell ⟨tb, o, none⟩ u).cell? ⟨tb, e * 5 + 4, none⟩ = some (.slice none 0 0)) ∧ (w.setCell ⟨tb, o, none⟩ u).cell? ⟨tb, 14, none⟩ = some pv :=
  fun h1 h2 h3 => ⟨fun e he => (cs_other (Or.inr (fun q => h1 e he q.symm))).trans (h.sl e he), fun e he => (cs_other (Or.inr (fun q => h2 e he q.symm))).trans (h.p e he), (cs_other (Or.inr h3)).trans h.p2⟩

theorem Tal.set_c (h : Tal w tb hb wd n base pv seen c v0 v1 pts) {e k : Nat} (he : e < 3) :
    Tal (w.setCell ⟨tb, e * 5 + 1, none⟩ (.int .i64 (k : Int))) tb hb wd n base pv seen (put c e k) v0 v1 pts := by
  obtain ⟨a1, a2, a3⟩ := tb_far h (o := e * 5 + 1) (u := .int .i64 (k : Int)) (fun _ _ => by omega) (fun _ _ => by omega) (by omega)
  refine ⟨h.ne, h.wide, a1, fun e' he' => ?_, fun e' he' => (cs_other (Or.inr (by omega))).trans (h.cv0 e' he'), fun e' he' => (cs_other (Or.inr (by omega))).trans (h.cv1 e' he'), a2, a3, fun o ho => (World.frozen?_setCell _ _ _ _).trans (h.fz o ho),
    fun e' he' j hj => by obtain ⟨y, hy, hcy, hby⟩ := h.hd e' he' j hj; exact ⟨y, hy, (cs_other (Or.inl h.ne)).trans hcy, hby⟩, fun o ho => (World.frozen?_setCell _ _ _ _).trans (h.hf o ho), row_keep h.row (fun k hk => heap_other (h.pt k hk).1), h.pt⟩
  unfold put
  by_cases q : e' = e
  · subst q; rw [if_pos rfl]; exact World.cell?_setCell_same _ _ _ (h.cc e' he')
  · rw [if_neg q]; exact (cs_other (Or.inr (by omega))).trans (h.cc e' he')

theorem Tal.set_v0 (h : Tal w tb hb wd n base pv seen c v0 v1 pts) {e k : Nat} (he : e < 3) :
    Tal (w.setCell ⟨tb, e * 5 + 2, none⟩ (.int .i64 (k : Int))) tb hb wd n base pv seen c (put v0 e k) v1 pts := by
  obtain ⟨a1, a2, a3⟩ := tb_far h (o := e * 5 + 2) (u := .int .i64 (k : Int)) (fun _ _ => by omega) (fun _ _ => by omega) (by omega)
  refine ⟨h.ne, h.wide, a1, fun e' he' => (cs_other (Or.inr (by omega))).trans (h.cc e' he'), fun e' he' => ?_, fun e' he' => (cs_other (Or.inr (by omega))).trans (h.cv1 e' he'), a2, a3, fun o ho => (World.frozen?_setCell _ _ _ _).trans (h.fz o ho),
    fun e' he' j hj => by obtain ⟨y, hy, hcy, hby⟩ := h.hd e' he' j hj; exact ⟨y, hy, (cs_other (Or.inl h.ne)).trans hcy, hby⟩, fun o ho => (World.frozen?_setCell _ _ _ _).trans (h.hf o ho), row_keep h.row (fun k hk => heap_other (h.pt k hk).1), h.pt⟩
  unfold put
  by_cases q : e' = e
  · subst q; rw [if_pos rfl]; exact World.cell?_setCell_same _ _ _ (h.cv0 e' he')
  · rw [if_neg q]; exact (cs_other (Or.inr (by omega))).trans (h.cv0 e' he')

theorem Tal.set_v1 (h : Tal w tb hb wd n base pv seen c v0 v1 pts) {e k : Nat} (he : e < 3) :
    Tal (w.setCell ⟨tb, e * 5 + 3, none⟩ (.int .i64 (k : Int))) tb hb wd n base pv seen c v0 (put v1 e k) pts := by
  obtain ⟨a1, a2, a3⟩ := tb_far h (o := e * 5 + 3) (u := .int .i64 (k : Int)) (fun _ _ => by omega) (fun _ _ => by omega) (by omega)
  refine ⟨h.ne, h.wide, a1, fun e' he' => (cs_other (Or.inr (by omega))).trans (h.cc e' he'), fun e' he' => (cs_other (Or.inr (by omega))).trans (h.cv0 e' he'), fun e' he' => ?_, a2, a3, fun o ho => (World.frozen?_setCell _ _ _ _).trans (h.fz o ho),
    fun e' he' j hj => by obtain ⟨y, hy, hcy, hby⟩ := h.hd e' he' j hj; exact ⟨y, hy, (cs_other (Or.inl h.ne)).trans hcy, hby⟩, fun o ho => (World.frozen?_setCell _ _ _ _).trans (h.hf o ho), row_keep h.row (fun k hk => heap_other (h.pt k hk).1), h.pt⟩
  unfold put
  by_cases q : e' = e
  · subst q; rw [if_pos rfl]; exact World.cell?_setCell_same _ _ _ (h.cv1 e' he')
  · rw [if_neg q]; exact (cs_other (Or.inr (by omega))).trans (h.cv1 e' he')

theorem Tal.drewN (h : Tal w tb hb wd n base pv seen c v0 v1 pts) (m : Nat) : Tal (w.drewN m) tb hb wd n base pv seen c v0 v1 pts :=
  h.keep rfl rfl (fun _ _ => rfl)

end

end Go.Proofs.Qxb6609496aFmt
