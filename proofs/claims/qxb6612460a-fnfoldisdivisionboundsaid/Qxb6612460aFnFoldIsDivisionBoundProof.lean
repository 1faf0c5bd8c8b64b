/- The proof of Rows.FnFoldIsDivisionBoundSaid: the frame is the given shell's; the walk and its lemmas are filled in. -/
import Derived.Test.Qxb6612460aFold
import Derived.WalkKit
import Derived.ProofKit
import Derived.OpenShut
import Derived.ShutString
namespace Go.Proofs.Qxb6612460a.fnFoldIsDivisionBound
open Go.ChangeShapes Go.WideShapes Go.ChangeAt Go.RowKit
open Go.ChangeMaps (open_string shut_string)
set_option linter.unusedVariables false      -- a walk need not use every 'w<i>' (that an integer argument fits its kind)

theorem own : ownKnob Try.prog.godebug = none := by kernel_rfl

theorem div_bound (a j l : Nat) (hj : 0 < j) : (a * j ≤ l) ↔ ((a : Int) ≤ (l : Int) / (j : Int)) := by
  have e : (l : Int) / (j : Int) = ((l / j : Nat) : Int) := by simp
  rw [e, Int.ofNat_le, Nat.le_div_iff_mul_le hj]
theorem ret_eq {b : Bool} (j l : Nat) (hl : l ≤ 9223372036854775807) {a : Int} (h : b = (decide (a ≤ (l : Int) / (j : Int)) == decide (a ≤ wrap64 ((l : Int) / (j : Int))))) :
    Ending.returned (.bool b) = .returned (.bool true) := by
  have e : (l : Int) / (j : Int) = ((l / j : Nat) : Int) := by simp
  have d := Nat.div_le_self l j
  rw [h, show wrap64 ((l : Int) / (j : Int)) = (l : Int) / (j : Int) from IntWalk.wrap64_in _ (by rw [e]; generalize l / j = q at d ⊢; omega)]
  simp
set_option maxHeartbeats 400000 in
theorem walk (a0 : Int) (a1 : Int) (a2 : Int) (w0 : (Lit.int .i64 a0).wf = true) (w1 : (Lit.int .i64 a1).wf = true) (w2 : (Lit.int .i64 a2).wf = true) (w : World) :
    Calls Try.prog 3 #[.int .i64 a0, .int .i64 a1, .int .i64 a2] w fun e w' => e = .returned (.bool true) ∧ Grown w w' := by
  have b0 := bounds_i64 w0
  have b1 := bounds_i64 w1
  have b2 := bounds_i64 w2
  clear w0 w1 w2
  by_cases c0 : a0 < 0
  · go_enter Try.func3, Try.ntmps3
    go_wp2
    go_ret
    exact ⟨rfl, Grown.refl _⟩
  by_cases c1 : a1 < 0
  · go_enter Try.func3, Try.ntmps3
    go_wp2
    go_ret
    exact ⟨rfl, Grown.refl _⟩
  by_cases c2 : a2 < 0
  · go_enter Try.func3, Try.ntmps3
    go_wp2
    go_ret
    exact ⟨rfl, Grown.refl _⟩
  obtain ⟨a, rfl⟩ := Int.eq_ofNat_of_zero_le (show 0 ≤ a0 by omega)
  obtain ⟨j, rfl⟩ := Int.eq_ofNat_of_zero_le (show 0 ≤ a1 by omega)
  obtain ⟨l, rfl⟩ := Int.eq_ofNat_of_zero_le (show 0 ≤ a2 by omega)
  have F := fold_any a j l (by omega) (by omega) (by omega)
  have C : Hid (∀ w, Calls Try.prog 7 #[.int .i64 a, .int .i64 j, .int .i64 l] w fun e w' => e = .returned (.bool (decide (a * j ≤ l))) ∧ w' = w) := F
  clear F
  by_cases hj : j = 0
  · subst hj
    rw [show decide (a * 0 ≤ l) = true by simp] at C
    go_enter Try.func3, Try.ntmps3
    go_wp2_with (first | (go_at_call 7; refine (C.out _).mono ?_; rintro e w' ⟨rfl, rfl⟩) | go_in)
    go_ret
    exact ⟨rfl, Grown.refl _⟩
  · have hp : 0 < j := by omega
    rw [show decide (a * j ≤ l) = decide ((a : Int) ≤ (l : Int) / (j : Int)) from decide_eq_decide.2 (div_bound a j l hp)] at C
    go_enter Try.func3, Try.ntmps3
    go_wp2_with (first | (go_at_call 7; refine (C.out _).mono ?_; rintro e w' ⟨rfl, rfl⟩) | go_in)
    go_ret
    exact ⟨ret_eq j l (by omega) rfl, Grown.refl _⟩

/-! ### THE ROW's STEP: WRITTEN OUT: LEAVE IT -/
set_option maxRecDepth 100000 in
theorem lifted (os : Os) (started : os.Started) (H : Type) (enc : TypeId × Value → H) :
    ReturnsInHanded {} Try.checked os 3 .any (Rows.fnFoldIsDivisionBoundSpec.pre6 enc Try.prog Try.f3 Rows.fnFoldIsDivisionBoundRow.domain false) (Rows.fnFoldIsDivisionBoundSpec.post enc Try.prog Try.f3 false true false false) := by
  refine returnsInHanded_of_change (C := Try.checked) own started (by kernel_rfl) Try.func3
    (ChangeSpec.witness6 (enc := enc) (C := Try.checked) false ⟨#[], #[.int .i64 0, .int .i64 0, .int .i64 0], []⟩ 8 (by kernel_rfl) (by kernel_rfl) (by kernel_rfl) (by kernel_rfl)) ?_
  intro W base args ds gs before hval0 hW hcnd _
  have hval : ∀ (j : Nat) t v, Try.f3.params[j]? = some t → args[j]? = some v → Value.okWide Try.prog W .any base t v := hval0
  have hW' := hW
  obtain ⟨p, q, hA0, hV, rfl, hfz, hnd⟩ := hW
  have hA : DataW.TrodAll enc Try.prog W 0 (fun _ => true) true Try.f3.params.toList args.toList ds p := hA0
  rw [Try.params3] at hA hval
  obtain ⟨v0, vs0, d0, ds0, p0, q0, hargs, rfl, rfl, h0, r0⟩ := trodAll_cons hA
  obtain ⟨v1, vs1, d1, ds1, p1, q1, rfl, rfl, rfl, h1, r1⟩ := trodAll_cons r0
  obtain ⟨v2, vs2, d2, ds2, p2, q2, rfl, rfl, rfl, h2, r2⟩ := trodAll_cons r1
  obtain ⟨rfl, rfl, rfl⟩ := trodAll_nil r2
  obtain rfl : args = #[v0, v1, v2] := by cases args; simp_all
  obtain ⟨rfl, rfl⟩ := trodVars_none hV
  obtain ⟨a0, rfl, rfl, rfl, w0⟩ := open_int Try.underlying2 (hval 0 2 v0 rfl rfl) h0
  obtain ⟨a1, rfl, rfl, rfl, w1⟩ := open_int Try.underlying2 (hval 1 2 v1 rfl rfl) h1
  obtain ⟨a2, rfl, rfl, rfl, w2⟩ := open_int Try.underlying2 (hval 2 2 v2 rfl rfl) h2
  clear hA0 hval0
  simp only [List.append_nil] at hW'
  refine (walk a0 a1 a2 w0 w1 w2 W).mono fun e W' ⟨he, hg⟩ => ?_
  subst he
  exact ⟨_, rfl, post_of_same (pa := []) (pv := []) hW' (fun _ _ _ => (trodAll_cons_mk (shut_bool Try.underlying4 _) trodAll_mk0)) (fun sp _ => (trodAll_cons_mk (shut_int Try.underlying2 w0) (trodAll_cons_mk (shut_int Try.underlying2 w1) (trodAll_cons_mk (shut_int Try.underlying2 w2) trodAll_mk0)))) (fun _ _ => rfl) rfl
    (hg.frame _) hg.2.1 (ok_one (by kernel_rfl) rfl (okWide_bool_mk Try.underlying4 _))⟩

theorem over : Rows.fnFoldIsDivisionBoundRow.holds Try.pinned (OpenSpec.ofChange Rows.fnFoldIsDivisionBoundSpec) :=
  OpenClaim.holds_of_wide 3 Try.f3 rfl rfl rfl rfl rfl rfl rfl ⟨rfl, rfl, rfl, rfl, rfl⟩ rfl rfl rfl rfl rfl (by kernel_rfl) Try.func3 (by kernel_rfl)
    (of_decide_eq_true (by kernel_rfl)) (by unfold Func.isWrapper; first | (rw [if_pos (by decide +kernel)]; kernel_rfl) | (rw [if_neg (by decide +kernel)]; exact ⟨rfl, rfl⟩))
    (fun os started H enc _ => lifted os started H enc)

/-- ████ THE STATEMENT ████ -/
theorem proved : Rows.FnFoldIsDivisionBoundSaid :=
  over
#print axioms proved
end Go.Proofs.Qxb6612460a.fnFoldIsDivisionBound
