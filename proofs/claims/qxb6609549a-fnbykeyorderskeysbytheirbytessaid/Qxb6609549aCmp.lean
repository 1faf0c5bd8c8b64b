/- Plain laws of the comparison of byte lists. -/
import Derived.Lib.Bytealg
namespace Go.Proofs.Qxb6609549a
open Go.Lib

theorem cb_self : ∀ a : List UInt8, compareBytes a a = 0
  | [] => rfl
  | x :: xs => by
    rw [compareBytes, if_neg (by simp), if_neg (by simp)]
    exact cb_self xs

theorem cb_neg : ∀ a b : List UInt8, compareBytes b a = - compareBytes a b
  | [], [] => rfl
  | [], _ :: _ => rfl
  | _ :: _, [] => rfl
  | x :: xs, y :: ys => by
    simp only [compareBytes]
    by_cases h1 : x < y
    · have h2 : ¬ y < x := by rw [UInt8.lt_iff_toNat_lt] at *; omega
      simp [h1, h2]
    · by_cases h2 : y < x
      · simp [h1, h2]
      · simp [h1, h2]
        exact cb_neg xs ys

theorem cb_ext : ∀ a c : List UInt8, compareBytes a (a ++ c) = if c.length = 0 then 0 else -1
  | [], [] => rfl
  | [], _ :: _ => rfl
  | x :: xs, c => by
    rw [List.cons_append, compareBytes, if_neg (by simp), if_neg (by simp)]
    exact cb_ext xs c

theorem cb_range : ∀ a b : List UInt8, compareBytes a b = -1 ∨ compareBytes a b = 0 ∨ compareBytes a b = 1
  | [], [] => by decide
  | [], _ :: _ => Or.inl rfl
  | _ :: _, [] => Or.inr (Or.inr rfl)
  | x :: xs, y :: ys => by
    simp only [compareBytes]
    by_cases h1 : x < y
    · simp [h1]
    · by_cases h2 : y < x
      · simp [h1, h2]
      · simp only [h1, h2, if_false]
        exact cb_range xs ys

end Go.Proofs.Qxb6609549a
