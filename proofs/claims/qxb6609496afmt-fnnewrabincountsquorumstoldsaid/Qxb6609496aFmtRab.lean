/- The node's memory, whole; of, whatever the state. -/
import Derived.Test.Qxb6609496aFmtTal
namespace Go.Proofs.Qxb6609496aFmt
open Go.RowKit Go.Maps

def fpOf (tb hb : Nat) (pv : Value) : List Nat := tb :: hb :: pv.ownBlock.toList

/-- What a call of the node may turn: the map, the footprint, new blocks. -/
structure Step (w w' : World) (mb : Nat) (fp fp' : List Nat) : Prop where
  os : w'.os = w.os
  tape : w'.tape = w.tape
  output : w'.output = w.output
  size : w.heap.size ≤ w'.heap.size
  blk : ∀ k, k < w.heap.size → k ≠ mb → k ∉ fp → w'.heap[k]? = w.heap[k]?
  fp : ∀ k, k ∈ fp' → k ∈ fp ∨ w.heap.size ≤ k

theorem Step.refl (w : World) (mb : Nat) (fp : List Nat) : Step w w mb fp fp := ⟨rfl, rfl, rfl, Nat.le_refl _, fun _ _ _ _ => rfl, fun _ h => Or.inl h⟩
theorem Step.trans {a b c : World} {mb : Nat} {f1 f2 f3 : List Nat} (h : Step a b mb f1 f2) (k : Step b c mb f2 f3) : Step a c mb f1 f3 :=
  ⟨k.os.trans h.os, k.tape.trans h.tape, k.output.trans h.output, Nat.le_trans h.size k.size,
    fun i hi hm hf => (k.blk i (Nat.lt_of_lt_of_le hi h.size) hm (fun q => by rcases h.fp i q with a | a; exact hf a; omega)).trans (h.blk i hi hm hf),
    fun i hi => by rcases k.fp i hi with a | a; exact h.fp i a; exact Or.inr (Nat.le_trans h.size a)⟩
theorem Step.alloc {a b : World} {mb : Nat} {f1 f2 : List Nat} (h : Step a b mb f1 f2) (o : Obj) : Step a (b.alloc o) mb f1 f2 :=
  ⟨h.os, h.tape, h.output, Nat.le_trans h.size (by simp), fun i hi hm hf => (Below.heap_alloc _ _ _ (Nat.lt_of_lt_of_le hi h.size)).trans (h.blk i hi hm hf), h.fp⟩
theorem Step.drewN {a b : World} {mb : Nat} {f1 f2 : List Nat} (h : Step a b mb f1 f2) (m : Nat) : Step a (b.drewN m) mb f1 f2 := ⟨h.os, h.tape, h.output, h.size, h.blk, h.fp⟩
theorem Step.ch {a b c : World} {mb : Nat} {f1 f2 l : List Nat} (h : Step a b mb f1 f2) (k : Ch b c l) (hl : ∀ i, i ∈ l → i ∈ f2) : Step a c mb f1 f2 :=
  ⟨k.os.trans h.os, k.tape.trans h.tape, k.output.trans h.output, by rw [k.size]; exact h.size,
    fun i hi hm hf => (k.blk i (fun q => by rcases h.fp i (hl i q) with a | a; exact hf a; omega)).trans (h.blk i hi hm hf), h.fp⟩

structure Made (w : World) (rb mb id n t r wd base tb hb : Nat) (pv : Value) (S : St) : Prop where
  rbh : Rb w rb mb id n t
  m : w.ownsMap Tryf.prog 24 R3 mb 1 (Dm r tb)
  tal : Tal w tb hb wd n base pv S.seen (cnt S id) S.v0 S.v1 S.pts
  out : ∀ k, k ∈ fpOf tb hb pv → k ≠ rb ∧ k ≠ mb

structure Fresh (w : World) (rb mb id n t : Nat) : Prop where
  rbh : Rb w rb mb id n t
  m : w.ownsMap Tryf.prog 24 R3 mb 0 (.map [])

def Rab (w : World) (rb mb id n t r wd base : Nat) (fp : List Nat) (S : St) : Prop :=
  (fp = [] ∧ S = S0 ∧ Fresh w rb mb id n t) ∨ ∃ tb hb pv, fp = fpOf tb hb pv ∧ Made w rb mb id n t r wd base tb hb pv S

theorem map_keep {w w' : World} {mb c : Nat} {D : DataW Unit} (h : w.ownsMap Tryf.prog 24 R3 mb c D) (hk : w'.heap[mb]? = w.heap[mb]?) : w'.ownsMap Tryf.prog 24 R3 mb c D := by
  obtain ⟨es, clock, h1, h2, h3, h4⟩ := h
  exact ⟨es, clock, hk.trans h1, h2, h3, h4⟩

theorem Made.keep {w w' : World} {rb mb id n t r wd base tb hb : Nat} {pv : Value} {S : St} (h : Made w rb mb id n t r wd base tb hb pv S) (hk : ∀ k, (k = rb ∨ k = mb ∨ k ∈ fpOf tb hb pv) → w'.heap[k]? = w.heap[k]?) :
    Made w' rb mb id n t r wd base tb hb pv S :=
  ⟨h.rbh.keep (hk _ (Or.inl rfl)), map_keep h.m (hk _ (Or.inr (Or.inl rfl))), h.tal.keep (hk _ (Or.inr (Or.inr (by simp [fpOf])))) (hk _ (Or.inr (Or.inr (by simp [fpOf])))) (fun k q => hk k (Or.inr (Or.inr (by simp [fpOf, q])))), h.out⟩

theorem Made.lt {w : World} {rb mb id n t r wd base tb hb : Nat} {pv : Value} {S : St} (h : Made w rb mb id n t r wd base tb hb pv S) (hw : 1 ≤ wd) : ∀ k, (k = rb ∨ k = mb ∨ k ∈ fpOf tb hb pv) → k < w.heap.size := by
  rintro k (rfl | rfl | hk)
  · exact lt_of_cell h.rbh.c0
  · exact h.m.lt
  · simp only [fpOf, List.mem_cons, Option.mem_toList] at hk
    rcases hk with rfl | rfl | hk
    · exact lt_of_cell (h.tal.cc 0 (by omega))
    · obtain ⟨x, _, hc, _⟩ := h.tal.hd 0 (by omega) 0 hw
      exact lt_of_cell hc
    · exact (h.tal.row.lt k hk).2

theorem Rab.keep {w w' : World} {rb mb id n t r wd base : Nat} {fp : List Nat} {S : St} (h : Rab w rb mb id n t r wd base fp S) (hk : ∀ k, (k = rb ∨ k = mb ∨ k ∈ fp) → w'.heap[k]? = w.heap[k]?) : Rab w' rb mb id n t r wd base fp S := by
  rcases h with ⟨h1, h2, h3⟩ | ⟨tb, hb, pv, h1, h2⟩
  · exact Or.inl ⟨h1, h2, h3.rbh.keep (hk _ (Or.inl rfl)), map_keep h3.m (hk _ (Or.inr (Or.inl rfl)))⟩
  · exact Or.inr ⟨tb, hb, pv, h1, h2.keep (fun k q => hk k (by rw [h1]; exact q))⟩

theorem Rab.lt {w : World} {rb mb id n t r wd base : Nat} {fp : List Nat} {S : St} (h : Rab w rb mb id n t r wd base fp S) (hw : 1 ≤ wd) : ∀ k, (k = rb ∨ k = mb ∨ k ∈ fp) → k < w.heap.size := by
  rcases h with ⟨h1, h2, h3⟩ | ⟨tb, hb, pv, h1, h2⟩
  · rintro k (rfl | rfl | hk)
    · exact lt_of_cell h3.rbh.c0
    · exact h3.m.lt
    · rw [h1] at hk; cases hk
  · intro k q
    exact h2.lt hw k (by rw [h1] at q; exact q)

/-- Three new tallies are the empty state. -/
theorem tal_new {w w' : World} {mb wd n base : Nat} (hm : mb < w.heap.size) (hwide : ∀ f, f ≤ n → (f - 1) / 64 < wd)
    (hg : ((w.alloc (.cells (zrow wd) 22)).alloc (.cells #[.slice (some ⟨w.heap.size, 0, none⟩) wd wd, .int .i64 0, .int .i64 0, .int .i64 0, .slice none 0 0, .slice (some ⟨w.heap.size, wd, none⟩) wd wd, .int .i64 0, .int .i64 0, .int .i64 0, .slice none 0 0, .slice (some ⟨w.heap.size, 2 * wd, none⟩) wd wd, .int .i64 0, .int .i64 0, .int .i64 0, .slice none 0 0] 77)).grownBy w' (some mb)) :
    Tal w' (w.heap.size + 1) w.heap.size wd n base (.slice none 0 0) (fun _ _ => false) (fun _ => 0) (fun _ => 0) (fun _ => 0) [] := by
  have s2 : ∀ o1 o2 : Obj, ((w.alloc o1).alloc o2).heap.size = w.heap.size + 2 := fun o1 o2 => by simp
  have t1 : w'.heap[w.heap.size + 1]? = some (.cells #[.slice (some ⟨w.heap.size, 0, none⟩) wd wd, .int .i64 0, .int .i64 0, .int .i64 0, .slice none 0 0, .slice (some ⟨w.heap.size, wd, none⟩) wd wd, .int .i64 0, .int .i64 0, .int .i64 0, .slice none 0 0, .slice (some ⟨w.heap.size, 2 * wd, none⟩) wd wd, .int .i64 0, .int .i64 0, .int .i64 0, .slice none 0 0] 77 (0, 0)) := by
    rw [hg.block _ (by rw [s2]; omega) (by simp; omega)]
    show ((w.heap.push _).push _)[w.heap.size + 1]? = _
    rw [Array.getElem?_push, if_pos (by simp)]
  have t2 : w'.heap[w.heap.size]? = some (.cells (zrow wd) 22 (0, 0)) := by
    rw [hg.block _ (by rw [s2]; omega) (by simp; omega)]
    show ((w.heap.push _).push _)[w.heap.size]? = _
    rw [Array.getElem?_push, if_neg (by simp), Array.getElem?_push, if_pos (by simp)]
  have cT := fun j => cell_of_row w' _ j _ _ _ t1
  have cH := fun j => cell_of_row w' _ j _ _ _ t2
  have fT : ∀ o, w'.frozen? ⟨w.heap.size + 1, o, none⟩ = false := fun o => by simp [World.frozen?, t1]
  have fH : ∀ o, w'.frozen? ⟨w.heap.size, o, none⟩ = false := fun o => by simp [World.frozen?, t2]
  have hz : ∀ j, j < 3 * wd → (zrow wd)[j]? = some (.int .u64 0) := fun j hj => by
    unfold zrow madeCells
    simp [hj]
    rw [Nat.mod_one]; rfl
  refine ⟨by omega, hwide, fun e he => ?_, fun e he => ?_, fun e he => ?_, fun e he => ?_, fun e he => ?_, ?_, fun o _ => fT o, fun e he j hj => ?_, fun o _ => fH o, World.ownsRow_nil _ _ _ _, fun k hk => by cases hk⟩
  · match e, he with
    | 0, _ => rw [cT]; simp
    | 1, _ => rw [cT]; simp
    | 2, _ => rw [cT]; rfl
  · match e, he with
    | 0, _ => rw [cT]; rfl
    | 1, _ => rw [cT]; rfl
    | 2, _ => rw [cT]; rfl
  · match e, he with
    | 0, _ => rw [cT]; rfl
    | 1, _ => rw [cT]; rfl
    | 2, _ => rw [cT]; rfl
  · match e, he with
    | 0, _ => rw [cT]; rfl
    | 1, _ => rw [cT]; rfl
    | 2, _ => rw [cT]; rfl
  · match e, he with
    | 0, _ => rw [cT]; rfl
    | 1, _ => rw [cT]; rfl
  · rw [cT]; rfl
  · refine ⟨0, by decide, ?_, fun f _ _ _ => by simp [bitOf]⟩
    rw [cH, hz _ (in_rows he hj)]; rfl

theorem of_any {w : World} {rb mb id n t r wd base e : Nat} {fp : List Nat} {S : St} (h : Rab w rb mb id n t r wd base fp S) (hr : r < 4294967296) (he : e < 3) (hwd : wd ≤ 1024) (hwd1 : 1 ≤ wd) (hwide : ∀ f, f ≤ n → (f - 1) / 64 < wd)
    (hwords : ∀ w : World, Calls Tryf.prog 34 #[.int .i64 n] w fun e w' => e = .returned (.int .i64 (wd : Int)) ∧ w' = w) :
    Calls Tryf.prog 25 #[.pointer (some ⟨rb, 11, none⟩), .int .u32 r, .int .u8 ((e : Int) + 1)] w fun e' w' => ∃ tb hb pv, e' = .returned (.pointer (some ⟨tb, e * 5, none⟩)) ∧
      Made w' rb mb id n t r wd base tb hb pv S ∧ Step w w' mb fp (fpOf tb hb pv) := by
  rcases h with ⟨rfl, rfl, h3⟩ | ⟨tb, hb, pv, rfl, h2⟩
  · refine (of_fresh rb mb r n wd e w hr he hwd hwd1 hwords h3.rbh.c11 h3.rbh.c12 h3.rbh.c13 h3.rbh.c14 h3.m).mono ?_
    rintro e' w' ⟨rfl, hm, hg⟩
    have hml := h3.m.lt
    have hrl : rb < w.heap.size := lt_of_cell h3.rbh.c0
    have hne : rb ≠ mb := by
      rintro rfl
      obtain ⟨es, ck, hb, _⟩ := h3.m
      have := h3.rbh.c0
      simp [World.cell?, hb] at this
    have s2 : ∀ o1 o2 : Obj, ((w.alloc o1).alloc o2).heap.size = w.heap.size + 2 := fun o1 o2 => by simp
    have blk : ∀ k, k < w.heap.size → k ≠ mb → w'.heap[k]? = w.heap[k]? := fun k hk hkm => by
      rw [hg.block k (by rw [s2]; omega) (by simpa using hkm), Below.heap_alloc _ _ _ (by simp; omega), Below.heap_alloc _ _ _ hk]
    refine ⟨w.heap.size + 1, w.heap.size, .slice none 0 0, rfl, ⟨h3.rbh.keep (blk _ hrl hne), hm, ?_, ?_⟩, ⟨hg.os, hg.tape, hg.output, ?_, fun k hk hkm _ => blk k hk hkm, ?_⟩⟩
    · have := tal_new (n := n) (base := base) hml hwide hg
      exact this
    · intro k hk
      simp [fpOf, Value.ownBlock] at hk
      omega
    · have := hg.size
      rw [s2] at this
      omega
    · intro k hk
      simp [fpOf, Value.ownBlock] at hk
      omega
  · refine (of_made rb mb r tb e w hr he h2.rbh.c13 h2.m).mono ?_
    rintro e' w' ⟨rfl, rfl⟩
    exact ⟨tb, hb, pv, rfl, h2, Step.refl _ _ _⟩

end Go.Proofs.Qxb6609496aFmt
