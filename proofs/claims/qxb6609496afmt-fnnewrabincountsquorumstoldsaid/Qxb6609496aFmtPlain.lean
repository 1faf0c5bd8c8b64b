/- The plain state of one round's tallies, and one message. No Go here. -/
namespace Go.Proofs.Qxb6609496aFmt

structure St where
  seen : Nat → Nat → Bool
  oth : Nat → Nat
  v0 : Nat → Nat
  v1 : Nat → Nat
  pts : List (Nat × Nat)

def S0 : St := ⟨fun _ _ => false, fun _ => 0, fun _ => 0, fun _ => 0, []⟩

def b2n (b : Bool) : Nat := if b then 1 else 0
def cnt (S : St) (id e : Nat) : Nat := S.oth e + b2n (S.seen e id)
def qu (n t e : Nat) : Nat := if e = 2 then t + 1 else n - t
/-- Does the law count the message? -/
def counted (S : St) (id n t e f : Nat) : Bool := if f = id then !S.seen e id else !S.seen e f && decide (S.oth e < qu n t e - 1)
/-- The quorum that the node holds the message against. -/
def qq (S : St) (id n t e f : Nat) : Nat := if f ≠ id ∧ S.seen e id = false then qu n t e - 1 else qu n t e

def up (g : Nat → Nat) (e k : Nat) : Nat → Nat := fun e' => if e' = e then g e' + k else g e'
def took (S : St) (id e f v : Nat) : St where
  seen := fun e' f' => if e' = e ∧ f' = f then true else S.seen e' f'
  oth := up S.oth e (b2n (f ≠ id))
  v0 := up S.v0 e (b2n (v = 0))
  v1 := up S.v1 e (b2n (v = 1))
  pts := if e = 2 then S.pts ++ [(f, v)] else S.pts
def step (S : St) (id n t e f v : Nat) : St := if counted S id n t e f = true then took S id e f v else S

structure Ok (S : St) (id n t k : Nat) : Prop where
  oth : ∀ e, e < 3 → S.oth e ≤ qu n t e - 1
  c : ∀ e, S.oth e ≤ k
  v0 : ∀ e, S.v0 e ≤ k
  v1 : ∀ e, S.v1 e ≤ k
  p : S.pts.length ≤ k
  pf : ∀ x ∈ S.pts, x.1 ≤ 65536 ∧ x.2 < 4294967296

theorem ok0 (id n t : Nat) : Ok S0 id n t 0 := ⟨fun _ _ => Nat.zero_le _, fun _ => Nat.le_refl _, fun _ => Nat.le_refl _, fun _ => Nat.le_refl _, Nat.le_refl _, fun x hx => by cases hx⟩

theorem b2n_le (b : Bool) : b2n b ≤ 1 := by cases b <;> decide

/-- What the node counts is what the law counts. -/
theorem added_iff {S : St} {id n t k e f : Nat} (h : Ok S id n t k) (he : e < 3) (hq : 1 ≤ qu n t e) : (cnt S id e < qq S id n t e f ∧ S.seen e f = false) ↔ counted S id n t e f = true := by
  have ho := h.oth e he
  unfold cnt qq counted
  by_cases hf : f = id
  · subst hf
    cases hs : S.seen e f <;> simp [b2n] <;> omega
  · cases hs : S.seen e id <;> cases hg : S.seen e f <;> simp [b2n, hf] <;> omega

theorem cnt_took {S : St} {id n t e f v : Nat} (hc : counted S id n t e f = true) : ∀ e', cnt (took S id e f v) id e' = if e' = e then cnt S id e' + 1 else cnt S id e' := by
  intro e'
  unfold cnt took up counted at *
  by_cases he : e' = e
  · subst he
    by_cases hf : f = id
    · subst hf
      simp at hc
      simp [b2n, hc]
    · have : ¬ id = f := fun h => hf h.symm
      simp [b2n, hf, this]
      omega
  · simp [he]

theorem ok_step {S : St} {id n t k e f v : Nat} (h : Ok S id n t k) (he : e < 3) (hf : f ≤ 65536) (hv : v < 4294967296) : Ok (step S id n t e f v) id n t (k + 1) := by
  unfold step
  split
  · rename_i hc
    have b1 := b2n_le (f ≠ id)
    have b2 := b2n_le (v = 0)
    have b3 := b2n_le (v = 1)
    refine ⟨fun e' he' => ?_, fun e' => ?_, fun e' => ?_, fun e' => ?_, ?_, ?_⟩
    · have h0 := h.oth e' he'
      simp only [took, up]
      split
      · rename_i h'
        subst h'
        by_cases hfi : f = id
        · simp [hfi, b2n]; exact h0
        · simp [counted, hfi] at hc
          simp [hfi, b2n]; omega
      · exact h0
    · have h0 := h.c e'
      simp only [took, up]; split <;> omega
    · have h0 := h.v0 e'
      simp only [took, up]; split <;> omega
    · have h0 := h.v1 e'
      simp only [took, up]; split <;> omega
    · have h0 := h.p
      simp only [took]; split <;> simp <;> omega
    · intro x hx
      simp only [took] at hx
      split at hx
      · rcases List.mem_append.1 hx with hx | hx
        · exact h.pf x hx
        · obtain rfl := List.mem_singleton.1 hx
          exact ⟨hf, hv⟩
      · exact h.pf x hx
  · exact ⟨h.oth, fun e => Nat.le_succ_of_le (h.c e), fun e => Nat.le_succ_of_le (h.v0 e), fun e => Nat.le_succ_of_le (h.v1 e), Nat.le_succ_of_le h.p, h.pf⟩

end Go.Proofs.Qxb6609496aFmt
