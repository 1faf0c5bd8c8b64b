/- has and add over the three tallies. -/
import Derived.Test.Qxb6609496aFmtMem
namespace Go.Proofs.Qxb6609496aFmt
open Go.RowKit Go.Maps

/-- Nothing but the blocks of the list has turned, and no block is new. -/
structure Ch (w w' : World) (l : List Nat) : Prop where
  os : w'.os = w.os
  tape : w'.tape = w.tape
  output : w'.output = w.output
  size : w'.heap.size = w.heap.size
  blk : ∀ k, k ∉ l → w'.heap[k]? = w.heap[k]?
theorem Ch.refl (w : World) (l : List Nat) : Ch w w l := ⟨rfl, rfl, rfl, rfl, fun _ _ => rfl⟩
theorem Ch.setCell {w w' : World} {l : List Nat} (h : Ch w w' l) {a : Addr} (ha : a.block ∈ l) (v : Value) : Ch w (w'.setCell a v) l :=
  ⟨h.os, h.tape, h.output, by simpa [World.setCell] using h.size, fun k hk => (heap_other (a := a) (k := k) (fun q => hk (by rw [q]; exact ha))).trans (h.blk k hk)⟩
theorem Ch.drewN {w w' : World} {l : List Nat} (h : Ch w w' l) (m : Nat) : Ch w (w'.drewN m) l := ⟨h.os, h.tape, h.output, h.size, h.blk⟩

section
variable {w : World} {tb hb wd n base : Nat} {pv : Value} {seen : Nat → Nat → Bool} {c v0 v1 : Nat → Nat} {pts : List (Nat × Nat)}

theorem has_tal (h : Tal w tb hb wd n base pv seen c v0 v1 pts) {e f : Nat} (he : e < 3) (h1 : 1 ≤ f) (hfn : f ≤ n) (hn : n ≤ 65536) :
    Calls Tryf.prog 26 #[.pointer (some ⟨tb, e * 5, none⟩), .int .i64 f] w fun e' w' => e' = .returned (.bool (seen e f)) ∧ ∃ m, w' = w.drewN m := by
  obtain ⟨x, hx, hc, hb'⟩ := h.hd e he _ (h.wide f hfn)
  rw [← hb' f h1 hfn rfl]
  exact has_any tb (e * 5) hb (e * wd) wd f x w h1 (by omega) (h.wide f hfn) (h.sl e he) hc hx

theorem add_tal_no (h : Tal w tb hb wd n base pv seen c v0 v1 pts) {e f v Q : Nat} (he : e < 3) (h1 : 1 ≤ f) (hfn : f ≤ n) (hn : n ≤ 65536) (hno : Q ≤ c e ∨ seen e f = true) :
    Calls Tryf.prog 31 #[.pointer (some ⟨tb, e * 5, none⟩), .int .i64 f, .int .u32 v, .int .i64 Q] w fun e' w' => e' = .returned (.bool false) ∧ ∃ m, w' = w.drewN m := by
  by_cases hq : Q ≤ c e
  · exact add_full tb (e * 5) f (c e) Q v w (h.cc e he) hq
  · obtain ⟨x, hx, hc, hb'⟩ := h.hd e he _ (h.wide f hfn)
    have hs : seen e f = true := by rcases hno with a | a; exact absurd a hq; exact a
    exact add_heard tb (e * 5) hb (e * wd) wd f x (c e) Q v w h1 (by omega) (h.wide f hfn) (h.sl e he) hc hx (h.cc e he) (by omega) ((hb' f h1 hfn rfl).trans hs)

theorem put_same (g : Nat → Nat) (e : Nat) : put g e (g e + 0) = g := by
  funext e'
  unfold put
  split
  · rename_i q; rw [q]; rfl
  · rfl

theorem add_tal_yes (h : Tal w tb hb wd n base pv seen c v0 v1 pts) {e f v Q : Nat} (he : e < 3) (h1 : 1 ≤ f) (hfn : f ≤ n) (hn : n ≤ 65536) (hq : c e < Q) (hs : seen e f = false) (hc' : c e ≤ 1000000) (hv0 : v0 e ≤ 1000000) (hv1 : v1 e ≤ 1000000) :
    Calls Tryf.prog 31 #[.pointer (some ⟨tb, e * 5, none⟩), .int .i64 f, .int .u32 v, .int .i64 Q] w fun e' w' => e' = .returned (.bool true) ∧
      Tal w' tb hb wd n base pv (fun e' g => if e' = e ∧ g = f then true else seen e' g) (put c e (c e + 1)) (put v0 e (v0 e + b2n (v = 0))) (put v1 e (v1 e + b2n (v = 1))) pts ∧ Ch w w' [tb, hb] := by
  obtain ⟨x, hx, hc, hb'⟩ := h.hd e he _ (h.wide f hfn)
  have t1 := (h.set_heard he h1 hfn hx hc hb').set_c (k := c e + 1) he
  have ch : Ch w ((w.setCell ⟨hb, e * wd + (f - 1) / 64, none⟩ (.int .u64 ((x ||| hbit f : Nat) : Int))).setCell ⟨tb, e * 5 + 1, none⟩ (.int .i64 ((c e + 1 : Nat) : Int))) [tb, hb] :=
    ((Ch.refl w _).setCell (by simp) _).setCell (by simp) _
  have k1 : e * wd + (f - 1) / 64 < 3 * wd := in_rows he (h.wide f hfn)
  by_cases hv : v ≤ 1
  · by_cases h0 : v = 0
    · subst h0
      refine (add_vote tb (e * 5) hb (e * wd) wd f x (c e) Q 0 (v0 e) w h1 (by omega) (h.wide f hfn) h.ne (h.sl e he) hc hx (h.hf _ k1) (h.fz _ (by omega)) (h.cc e he) hq hc' ((hb' f h1 hfn rfl).trans hs) hv (h.cv0 e he) (h.fz _ (by omega)) hv0).mono ?_
      rintro e' w' ⟨rfl, m, rfl⟩
      have t2 := t1.set_v0 (k := v0 e + 1) he
      have e1 : put v1 e (v1 e + b2n (0 = 1)) = v1 := put_same v1 e
      rw [e1]
      exact ⟨rfl, t2.drewN m, (ch.setCell (by simp) _).drewN m⟩
    · obtain rfl : v = 1 := by omega
      refine (add_vote tb (e * 5) hb (e * wd) wd f x (c e) Q 1 (v1 e) w h1 (by omega) (h.wide f hfn) h.ne (h.sl e he) hc hx (h.hf _ k1) (h.fz _ (by omega)) (h.cc e he) hq hc' ((hb' f h1 hfn rfl).trans hs) hv (h.cv1 e he) (h.fz _ (by omega)) hv1).mono ?_
      rintro e' w' ⟨rfl, m, rfl⟩
      have t2 := t1.set_v1 (k := v1 e + 1) he
      have e1 : put v0 e (v0 e + b2n (1 = 0)) = v0 := put_same v0 e
      rw [e1]
      exact ⟨rfl, t2.drewN m, (ch.setCell (by simp) _).drewN m⟩
  · refine (add_new tb (e * 5) hb (e * wd) wd f x (c e) Q v w h1 (by omega) (h.wide f hfn) h.ne (h.sl e he) hc hx (h.hf _ k1) (h.fz _ (by omega)) (h.cc e he) hq hc' ((hb' f h1 hfn rfl).trans hs) (by omega)).mono ?_
    rintro e' w' ⟨rfl, m, rfl⟩
    have a0 : b2n (v = 0) = 0 := by simp [b2n]; omega
    have a1 : b2n (v = 1) = 0 := by simp [b2n]; omega
    rw [a0, a1, put_same, put_same]
    exact ⟨rfl, t1.drewN m, ch.drewN m⟩

end
end Go.Proofs.Qxb6609496aFmt
