/- (*tallies).of: the tally of the round, made if need be. -/
import Derived.Test.Qxb6609496aFmtRound
import Derived.Maps.OwnSet
namespace Go.Proofs.Qxb6609496aFmt
open Go.RowKit Go.Maps

/-- How a map's element reads: nil, or three tallies at the head of a block. -/
def R3 : Value → Option (DataW Unit × List MemPlace)
  | .slice none 0 0 => some (.nil, [])
  | .slice (some ⟨b, 0, none⟩) 3 3 => some (.lit (.int .i64 b), [])
  | _ => none
theorem R3_inv {v : Value} {b : Nat} {ps : List MemPlace} (h : R3 v = some (.lit (.int .i64 b), ps)) : v = .slice (some ⟨b, 0, none⟩) 3 3 := by
  unfold R3 at h
  split at h
  · cases h
  · rename_i b'
    simp only [Option.some.injEq, Prod.mk.injEq, DataW.lit.injEq, Lit.int.injEq] at h
    have e : b' = b := by omega
    rw [e]
  · cases h

theorem law24 : Keyed Tryf.prog 24 := int_keyed Tryf.underlying24
theorem zero89 (w : World) : (zeroValue 89).run Tryf.prog w = .ok (.slice none 0 0) w := by kernel_rfl

abbrev Dm (r tb : Nat) : DataW Unit := (DataW.map []).put (.int .u32 r) (.lit (.int .i64 tb))

theorem wf32 {r : Nat} (h : r < 4294967296) : (Lit.int .u32 (r : Int)).wf = true := by
  simp [Lit.wf, IntKind.min, IntKind.max, IntKind.signed, IntKind.bits]; omega

theorem look_made {w : World} {mb r tb : Nat} (hr : r < 4294967296) (h : w.ownsMap Tryf.prog 24 R3 mb 1 (Dm r tb)) :
    (Instr.lookup 66 (.map (some mb)) (.int .u32 (r : Int)) true).run Tryf.prog w = .ok (.tuple #[.slice (some ⟨tb, 0, none⟩) 3 3, .bool true]) w := by
  have hk := keyOf_int_mk (P := Tryf.prog) (k := 24) Tryf.underlying24 (wf32 hr)
  obtain ⟨v, ps, hrun, hv⟩ := h.look_ok law24 Tryf.underlying66 (zero89 w) (zd := .nil) (zp := []) rfl hk
  unfold Dm at hv hrun
  have hi : WideAt.IsKeyLit (.int .u32 (r : Int)) := trivial
  rw [atKey_put_same isMap_empty hi] at hv
  rw [has_put_same isMap_empty hi] at hrun
  rw [R3_inv hv] at hrun
  exact hrun

theorem look_fresh {w : World} {mb r : Nat} (hr : r < 4294967296) (h : w.ownsMap Tryf.prog 24 R3 mb 0 (.map [])) :
    (Instr.lookup 66 (.map (some mb)) (.int .u32 (r : Int)) true).run Tryf.prog w = .ok (.tuple #[.slice none 0 0, .bool false]) w := by
  have hk := keyOf_int_mk (P := Tryf.prog) (k := 24) Tryf.underlying24 (wf32 hr)
  obtain ⟨v, ps, hrun, hv⟩ := h.look_ok law24 Tryf.underlying66 (zero89 w) (zd := .nil) (zp := []) rfl hk
  have e1 : Maps.has (DataW.map [] : DataW Unit) (.int .u32 (r : Int)) = false := rfl
  have e2 : (DataW.map [] : DataW Unit).atKey (.int .u32 (r : Int)) .nil = .nil := rfl
  rw [e1] at hrun
  rw [e2] at hv
  have : v = .slice none 0 0 := by
    unfold R3 at hv
    split at hv
    · rfl
    · cases hv
    · cases hv
  rw [this] at hrun
  exact hrun

set_option maxHeartbeats 400000 in
theorem of_made (rb mb r tb e : Nat) (w : World) (hr : r < 4294967296) (he : e < 3) (c13 : w.cell? ⟨rb, 13, none⟩ = some (.map (some mb))) (hm : w.ownsMap Tryf.prog 24 R3 mb 1 (Dm r tb)) :
    Calls Tryf.prog 25 #[.pointer (some ⟨rb, 11, none⟩), .int .u32 r, .int .u8 ((e : Int) + 1)] w fun e' w' => e' = .returned (.pointer (some ⟨tb, e * 5, none⟩)) ∧ w' = w := by
  have hl := look_made hr hm
  have he1 : (e : Int) < 3 := by omega
  go_enter Tryf.func25, Tryf.ntmps25
  go_wp2
  go_ret
  exact ⟨rfl, rfl⟩

set_option maxHeartbeats 1000000 in
theorem of_fresh (rb mb r n wd e : Nat) (w : World) (hr : r < 4294967296) (he : e < 3) (hwd : wd ≤ 1024) (hwd1 : 1 ≤ wd) (hwords : ∀ w : World, Calls Tryf.prog 34 #[.int .i64 n] w fun e w' => e = .returned (.int .i64 (wd : Int)) ∧ w' = w)
    (c11 : w.cell? ⟨rb, 11, none⟩ = some (.int .i64 (n : Int))) (c12 : w.cell? ⟨rb, 12, none⟩ = some (.int .i64 3)) (c13 : w.cell? ⟨rb, 13, none⟩ = some (.map (some mb))) (c14 : w.cell? ⟨rb, 14, none⟩ = some (.slice none 0 0))
    (hm : w.ownsMap Tryf.prog 24 R3 mb 0 (.map [])) :
    Calls Tryf.prog 25 #[.pointer (some ⟨rb, 11, none⟩), .int .u32 r, .int .u8 ((e : Int) + 1)] w fun e' w' => e' = .returned (.pointer (some ⟨w.heap.size + 1, e * 5, none⟩)) ∧
      w'.ownsMap Tryf.prog 24 R3 mb 1 (Dm r (w.heap.size + 1)) ∧ ((w.alloc (.cells (zrow wd) 22)).alloc (.cells #[.slice (some ⟨w.heap.size, 0, none⟩) wd wd, .int .i64 0, .int .i64 0, .int .i64 0, .slice none 0 0, .slice (some ⟨w.heap.size, wd, none⟩) wd wd, .int .i64 0, .int .i64 0, .int .i64 0, .slice none 0 0, .slice (some ⟨w.heap.size, 2 * wd, none⟩) wd wd, .int .i64 0, .int .i64 0, .int .i64 0, .slice none 0 0] 77)).grownBy w' (some mb) := by
  have hl := look_fresh hr hm
  have he1 : (e : Int) < 3 := by omega
  have hrb : rb < w.heap.size := World.block_lt_of_cell? _ _ c11
  have HW : Hid (∀ w : World, Calls Tryf.prog 34 #[.int .i64 n] w fun e w' => e = .returned (.int .i64 (wd : Int)) ∧ w' = w) := hwords
  clear hwords
  go_enter Tryf.func25, Tryf.ntmps25
  go_wp2_with fail
  refine (newRound_any rb n wd _ hwd hwd1 HW.out c11 c12 c14).mono ?_
  rintro e0 w1 ⟨rfl, rfl⟩
  have hown := (hm.alloc (.cells (zrow wd) 22)).alloc (.cells #[.slice (some ⟨w.heap.size, 0, none⟩) wd wd, .int .i64 0, .int .i64 0, .int .i64 0, .slice none 0 0, .slice (some ⟨w.heap.size, wd, none⟩) wd wd, .int .i64 0, .int .i64 0, .int .i64 0, .slice none 0 0, .slice (some ⟨w.heap.size, 2 * wd, none⟩) wd wd, .int .i64 0, .int .i64 0, .int .i64 0, .slice none 0 0] 77)
  have hk := keyOf_int_mk (P := Tryf.prog) (k := 24) Tryf.underlying24 (wf32 hr)
  go_wp2_with (at_mapUpdate; refine wpList_mapUpdate_own _ rfl _ _ _ 66 rfl 24 89 law24 Tryf.underlying66 R3 mb 0 _ rfl hown (by decide) _ _ _ rfl rfl hk (.lit (.int .i64 ((w.heap.size + 1 : Nat) : Int))) [] rfl ?_; intro w2 hown2 hgrow2)
  go_ret
  exact ⟨rfl, hown2, hgrow2⟩

end Go.Proofs.Qxb6609496aFmt
