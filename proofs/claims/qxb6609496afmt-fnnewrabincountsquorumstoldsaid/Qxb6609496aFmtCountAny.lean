/- count, whatever the message; the law's shims. -/
import Derived.Test.Qxb6609496aFmtCount2
import Derived.BigRegion
namespace Go.Proofs.Qxb6609496aFmt
open Go.RowKit Go.Maps

theorem Rab.rbh {w : World} {rb mb id n t r wd base : Nat} {fp : List Nat} {S : St} (h : Rab w rb mb id n t r wd base fp S) : Rb w rb mb id n t := by
  rcases h with ⟨_, _, h3⟩ | ⟨_, _, _, _, h2⟩
  · exact h3.rbh
  · exact h2.rbh

theorem count_any {w : World} {rb mb id n t r wd base e f v k : Nat} {fp : List Nat} {S : St} (h : Rab w rb mb id n t r wd base fp S) (hok : Ok S id n t k) (hk : k ≤ 100000) (hr : r < 4294967296) (he : e < 3) (hwd : wd ≤ 1024) (hwd1 : 1 ≤ wd) (hwide : ∀ f, f ≤ n → (f - 1) / 64 < wd)
    (HW : Hid (∀ w : World, Calls Tryf.prog 34 #[.int .i64 n] w fun e w' => e = .returned (.int .i64 (wd : Int)) ∧ w' = w)) (hn : n ≤ 65536) (ht : t < n) (hf1 : 1 ≤ f) (hfn : f ≤ n) (hid1 : 1 ≤ id) (hidn : id ≤ n) (hv : v < 4294967296) (hbase : base ≤ w.heap.size) :
    Calls Tryf.prog 24 #[.pointer (some ⟨rb, 0, none⟩), .int .i64 f, .agg #[.int .u8 ((e : Int) + 1), .int .u32 r, .int .u32 v]] w fun e' w' => e' = .returned (.tuple #[]) ∧ ∃ fp', Rab w' rb mb id n t r wd base fp' (step S id n t e f v) ∧ Step w w' mb fp fp' := by
  have hR := h.rbh
  have hq1 : 1 ≤ qu n t e := by unfold qu; split <;> omega
  have hadd := added_iff (f := f) hok he hq1
  unfold step
  by_cases hc : counted S id n t e f = true
  · rw [if_pos hc]
    obtain ⟨hq, hs⟩ := hadd.2 hc
    by_cases e2 : e = 2
    · have q2 : qu n t e = t + 1 := by simp [qu, e2]
      by_cases hf : f = id
      · have hqq : qq S id n t e f = qu n t e := by simp [qq, hf]
        exact count_c_id_yes h hok hk hr he hwd hwd1 hwide HW hn ht hf1 hfn hv hbase hR.c0 hR.c1 hR.c2 e2 (by simp [hf]) hs (by omega)
      · cases hsid : S.seen e id with
        | true =>
          have hqq : qq S id n t e f = qu n t e := by simp [qq, hsid]
          exact count_c_old_yes h hok hk hr he hwd hwd1 hwide HW hn ht hf1 hfn hv hbase hR.c0 hR.c1 hR.c2 e2 (by simp; omega) hsid hid1 hidn hs (by omega)
        | false =>
          have hqq : qq S id n t e f = qu n t e - 1 := by simp [qq, hsid, hf]
          exact count_c_new_yes h hok hk hr he hwd hwd1 hwide HW hn ht hf1 hfn hv hbase hR.c0 hR.c1 hR.c2 e2 (by simp; omega) hsid hid1 hidn hs (by omega)
    · have q2 : qu n t e = n - t := by simp [qu, e2]
      by_cases hf : f = id
      · have hqq : qq S id n t e f = qu n t e := by simp [qq, hf]
        exact count_a_id_yes h hok hk hr he hwd hwd1 hwide HW hn ht hf1 hfn hR.c0 hR.c1 hR.c2 e2 (by simp [hf]) hs (by omega)
      · cases hsid : S.seen e id with
        | true =>
          have hqq : qq S id n t e f = qu n t e := by simp [qq, hsid]
          exact count_a_old_yes h hok hk hr he hwd hwd1 hwide HW hn ht hf1 hfn hR.c0 hR.c1 hR.c2 e2 (by simp; omega) hsid hid1 hidn hs (by omega)
        | false =>
          have hqq : qq S id n t e f = qu n t e - 1 := by simp [qq, hsid, hf]
          exact count_a_new_yes h hok hk hr he hwd hwd1 hwide HW hn ht hf1 hfn hR.c0 hR.c1 hR.c2 e2 (by simp; omega) hsid hid1 hidn hs (by omega)
  · rw [if_neg hc]
    have hno : qq S id n t e f ≤ cnt S id e ∨ S.seen e f = true := by
      by_cases a : cnt S id e < qq S id n t e f
      · cases b : S.seen e f with
        | true => exact Or.inr rfl
        | false => exact absurd (hadd.1 ⟨a, b⟩) hc
      · exact Or.inl (by omega)
    by_cases e2 : e = 2
    · have q2 : qu n t e = t + 1 := by simp [qu, e2]
      by_cases hf : f = id
      · have hqq : qq S id n t e f = qu n t e := by simp [qq, hf]
        exact count_c_id_no h hok hk hr he hwd hwd1 hwide HW hn ht hf1 hfn hR.c0 hR.c1 hR.c2 e2 (by simp [hf]) (hno.imp (fun a => by omega) (fun a => a))
      · cases hsid : S.seen e id with
        | true =>
          have hqq : qq S id n t e f = qu n t e := by simp [qq, hsid]
          exact count_c_old_no h hok hk hr he hwd hwd1 hwide HW hn ht hf1 hfn hR.c0 hR.c1 hR.c2 e2 (by simp; omega) hsid hid1 hidn (hno.imp (fun a => by omega) (fun a => a))
        | false =>
          have hqq : qq S id n t e f = qu n t e - 1 := by simp [qq, hsid, hf]
          exact count_c_new_no h hok hk hr he hwd hwd1 hwide HW hn ht hf1 hfn hR.c0 hR.c1 hR.c2 e2 (by simp; omega) hsid hid1 hidn (hno.imp (fun a => by omega) (fun a => a))
    · have q2 : qu n t e = n - t := by simp [qu, e2]
      by_cases hf : f = id
      · have hqq : qq S id n t e f = qu n t e := by simp [qq, hf]
        exact count_a_id_no h hok hk hr he hwd hwd1 hwide HW hn ht hf1 hfn hR.c0 hR.c1 hR.c2 e2 (by simp [hf]) (hno.imp (fun a => by omega) (fun a => a))
      · cases hsid : S.seen e id with
        | true =>
          have hqq : qq S id n t e f = qu n t e := by simp [qq, hsid]
          exact count_a_old_no h hok hk hr he hwd hwd1 hwide HW hn ht hf1 hfn hR.c0 hR.c1 hR.c2 e2 (by simp; omega) hsid hid1 hidn (hno.imp (fun a => by omega) (fun a => a))
        | false =>
          have hqq : qq S id n t e f = qu n t e - 1 := by simp [qq, hsid, hf]
          exact count_a_new_no h hok hk hr he hwd hwd1 hwide HW hn ht hf1 hfn hR.c0 hR.c1 hR.c2 e2 (by simp; omega) hsid hid1 hidn (hno.imp (fun a => by omega) (fun a => a))

set_option maxHeartbeats 400000 in
theorem zzcount_any {w : World} {rb mb id n t r wd base e f v k : Nat} {fp : List Nat} {S : St} (h : Rab w rb mb id n t r wd base fp S) (hok : Ok S id n t k) (hk : k ≤ 100000) (hr : r < 4294967296) (he : e < 3) (hwd : wd ≤ 1024) (hwd1 : 1 ≤ wd) (hwide : ∀ f, f ≤ n → (f - 1) / 64 < wd)
    (HW : Hid (∀ w : World, Calls Tryf.prog 34 #[.int .i64 n] w fun e w' => e = .returned (.int .i64 (wd : Int)) ∧ w' = w)) (hn : n ≤ 65536) (ht : t < n) (hf1 : 1 ≤ f) (hfn : f ≤ n) (hid1 : 1 ≤ id) (hidn : id ≤ n) (hv : v < 4294967296) (hbase : base ≤ w.heap.size) :
    Calls Tryf.prog 12 #[.pointer (some ⟨rb, 0, none⟩), .int .i64 f, .agg #[.int .u8 ((e : Int) + 1), .int .u32 r, .int .u32 v]] w fun e' w' => e' = .returned (.tuple #[]) ∧ ∃ fp', Rab w' rb mb id n t r wd base fp' (step S id n t e f v) ∧ Step w w' mb fp fp' := by
  have hlt := h.lt hwd1
  go_enter Tryf.func12, Tryf.ntmps12
  go_wp2_with fail
  refine (count_any (h.keep ?_) hok hk hr he hwd hwd1 hwide HW hn ht hf1 hfn hid1 hidn hv ?_).mono ?_
  · intro k q; exact Below.heap_alloc w _ k (hlt k q)
  · simp; omega
  rintro e' w1 ⟨rfl, fp', hR, hS⟩
  go_wp2
  go_end0
  exact ⟨rfl, fp', hR, ((Step.refl w mb fp).alloc _).trans hS⟩

set_option maxHeartbeats 400000 in
theorem zzof_any {w : World} {rb mb id n t r wd base e : Nat} {fp : List Nat} {S : St} (h : Rab w rb mb id n t r wd base fp S) (hr : r < 4294967296) (he : e < 3) (hwd : wd ≤ 1024) (hwd1 : 1 ≤ wd) (hwide : ∀ f, f ≤ n → (f - 1) / 64 < wd)
    (HW : Hid (∀ w : World, Calls Tryf.prog 34 #[.int .i64 n] w fun e w' => e = .returned (.int .i64 (wd : Int)) ∧ w' = w)) :
    Calls Tryf.prog 13 #[.pointer (some ⟨rb, 0, none⟩), .int .u32 r, .int .u8 ((e : Int) + 1)] w fun e' w' => ∃ tb hb pv, e' = .returned (.pointer (some ⟨tb, e * 5, none⟩)) ∧
      Made w' rb mb id n t r wd base tb hb pv S ∧ Step w w' mb fp (fpOf tb hb pv) := by
  go_enter Tryf.func13, Tryf.ntmps13
  go_wp2_with fail
  refine (of_any h hr he hwd hwd1 hwide HW.out).mono ?_
  rintro e' w1 ⟨tb, hb, pv, rfl, hM, hS⟩
  go_wp2
  go_ret
  exact ⟨tb, hb, pv, rfl, hM, hS⟩

set_option maxHeartbeats 400000 in
theorem zzhas_any {w : World} {tb hb wd n base : Nat} {pv : Value} {seen : Nat → Nat → Bool} {c v0 v1 : Nat → Nat} {pts : List (Nat × Nat)} (h : Tal w tb hb wd n base pv seen c v0 v1 pts) {e f : Nat} (he : e < 3) (h1 : 1 ≤ f) (hfn : f ≤ n) (hn : n ≤ 65536) :
    Calls Tryf.prog 15 #[.pointer (some ⟨tb, e * 5, none⟩), .int .i64 f] w fun e' w' => e' = .returned (.bool (seen e f)) ∧ ∃ m, w' = w.drewN m := by
  go_enter Tryf.func15, Tryf.ntmps15
  go_wp2_with fail
  refine (has_tal h he h1 hfn hn).mono ?_
  rintro e' w1 ⟨rfl, m, rfl⟩
  go_wp2
  go_ret
  exact ⟨rfl, m, rfl⟩

end Go.Proofs.Qxb6609496aFmt
