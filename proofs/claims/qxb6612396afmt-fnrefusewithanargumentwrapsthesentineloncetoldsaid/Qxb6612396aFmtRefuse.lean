/- (*parser).refuse: a new *fmt.wrapError round the sentinel, whatever the format. -/
import Derived.Test.Qxb6612396aFmtStops
import Derived.Deep.RegionHeld3
import Derived.Stop.LaidErr
namespace Go.Proofs.Qxb6612396aFmt
open Go.RowKit Go.Extern.Stop Go.Stop Go.Extern

/-- A string as an operand: it reads under every verb. -/
theorem operand_str (s : ByteArray) (name : String) (wrap : Bool) (verb : UInt8) (sharp : Bool) (w : World) : ∃ r, (FmtStop.operand name wrap verb sharp (.iface 9 (.string s))).run Tryf.prog w = .ok r w := by
  have h1 : (typeStr 9).run Tryf.prog w = .ok "string" w := by kernel_rfl
  by_cases h84 : (verb == 84) = true
  · exact ⟨(21 :: FmtStop.pack "string".toUTF8.data.toList, []), by simp [FmtStop.operand, h1, h84]⟩
  · refine ⟨(12 :: FmtStop.pack "string".toUTF8.data.toList, FmtStop.pack s.data.toList), ?_⟩
    have d2 : Tryf.t9.methods = #[] := rfl
    simp [FmtStop.operand, h1, h84, d2, FmtStop.shape, FmtStop.depth, FmtStop.bare, FmtStop.value, Value.cells]
theorem strict_str (s : ByteArray) (name : String) (w : World) : ∃ r, (FmtStop.strict name (.iface 9 (.string s))).run Tryf.prog w = .ok r w :=
  ⟨(12 :: FmtStop.pack "string".toUTF8.data.toList, FmtStop.pack s.data.toList), by kernel_rfl⟩

theorem sprintf_none (F : Interp) (f : ByteArray) (w : World) (hF : F.answers w.tape) : ∃ s, (callFunc 16 #[.string f, .slice none 0 0]).run Tryf.prog w = .ok (.value (.string s)) w.drew := by
  obtain ⟨ops, h⟩ := FmtStop.sprintf_any_format (P := Tryf.prog) (w := w) F hF #[9, 44] #[9] f (.slice none 0 0) [] (fguard _ _) (by simp [FmtStop.cells]) (fun v hv => by cases hv) (fun v hv => by cases hv)
  exact ⟨_, by rw [call16, h]; rfl⟩

theorem cells_one (arg : ByteArray) (b : Nat) (w : World) (hc : w.cell? ⟨b, 0, none⟩ = some (.iface 9 (.string arg))) : (FmtStop.cells (.slice (some ⟨b, 0, none⟩) 1 1)).run Tryf.prog w = .ok [.iface 9 (.string arg)] w := by
  have h := run_loadCells_list (P := Tryf.prog) (w := w) ⟨b, 0, none⟩ [.iface 9 (.string arg)] (fun j v hj => by
    match j, hj with
    | 0, hj => obtain rfl := Option.some.inj hj; exact hc
    | j + 1, hj => simp at hj)
  simp only [FmtStop.cells, Sem.run_bind]
  rw [show (1 : Nat) = [Value.iface 9 (Value.string arg)].length from rfl, h]
  rfl

theorem sprintf_one (F : Interp) (f arg : ByteArray) (b : Nat) (w : World) (hF : F.answers w.tape) (hc : w.cell? ⟨b, 0, none⟩ = some (.iface 9 (.string arg))) : ∃ s, (callFunc 16 #[.string f, .slice (some ⟨b, 0, none⟩) 1 1]).run Tryf.prog w = .ok (.value (.string s)) w.drew := by
  obtain ⟨ops, h⟩ := FmtStop.sprintf_any_format (P := Tryf.prog) (w := w) F hF #[9, 44] #[9] f (.slice (some ⟨b, 0, none⟩) 1 1) [.iface 9 (.string arg)] (fguard _ _) (cells_one arg b w hc)
    (fun v hv verb sharp => by obtain rfl := List.mem_singleton.1 hv; exact operand_str _ _ _ _ _ _) (fun v hv => by obtain rfl := List.mem_singleton.1 hv; exact strict_str _ _ _)
  exact ⟨_, by rw [call16, h]; rfl⟩

set_option maxHeartbeats 400000 in
theorem refuse_any (F : Interp) (p : Option Addr) (f : ByteArray) (sl : Value) (a : Addr) (t : ByteArray) (w : World) (hF : F.answers w.tape)
    (hg : w.cell? ⟨0, 0, none⟩ = some (.iface 57 (.pointer (some a)))) (ht : w.cell? a = some (.string t))
    (hs : ∃ s, (callFunc 16 #[.string f, sl]).run Tryf.prog w.drew = .ok (.value (.string s)) w.drew.drew) :
    Calls Tryf.prog 12 #[.pointer p, .string f, sl] w fun e w' => ∃ s, e = .returned (.iface 56 (.pointer (some ⟨w.heap.size + 1, 0, none⟩))) ∧
      w' = ((w.alloc (.cells #[.iface 57 (.pointer (some a)), .iface 9 (.string s)] 20)).alloc (.cells #[.string (errText F t s), .iface 57 (.pointer (some a))] 90)).drew.drew.drew := by
  obtain ⟨s, hs⟩ := hs
  have hl0 : 0 < w.heap.size := World.block_lt_of_cell? _ _ hg
  have hla : a.block < w.heap.size := World.block_lt_of_cell? _ _ ht
  go_enter Tryf.func12, Tryf.ntmps12
  go_wp2_with fail
  go_region_held3 (fun w' => w'.cell? ⟨0, 0, none⟩ = some (.iface 57 (.pointer (some a))) ∧ w'.cell? a = some (.string t)) (go_keep)
    (first | (go_at_call 15; refine (errorf_any F _ a t s _ ?_ ?_ ?_ ?_).mono ?_; (exact hF); (go_simp); (go_simp); (simp [*]); rintro e w' ⟨rfl, rfl⟩))
  go_wp2
  go_ret
  exact ⟨s, rfl, rfl⟩

theorem below_new {w w1 : World} (h : Below w.heap.size w w1) (o : Obj) : Below w.heap.size w (w1.alloc o) := h.alloc h.size o

set_option maxHeartbeats 400000 in
theorem zzrefuse0_any (F : Interp) (q f : ByteArray) (i : Int) (a : Addr) (t : ByteArray) (w : World) (hF : F.answers w.tape)
    (hg : w.cell? ⟨0, 0, none⟩ = some (.iface 57 (.pointer (some a)))) (ht : w.cell? a = some (.string t)) :
    Calls Tryf.prog 6 #[.string q, .int .i64 i, .string f] w fun e w' => ∃ pb, e = .returned (.iface 56 (.pointer (some ⟨pb, 0, none⟩))) ∧ w'.cell? ⟨pb, 0 + 1, none⟩ = some (.iface 57 (.pointer (some a))) ∧ Below w.heap.size w w' := by
  have hl0 : 0 < w.heap.size := World.block_lt_of_cell? _ _ hg
  have hla : a.block < w.heap.size := World.block_lt_of_cell? _ _ ht
  go_enter Tryf.func6, Tryf.ntmps6
  go_wp2_with fail
  refine (refuse_any F _ f _ a t _ ?_ ?_ ?_ ?_).mono ?_
  · exact hF
  · exact cell?_alloc_old _ hg
  · exact cell?_alloc_old _ ht
  · exact sprintf_none F f _ hF
  rintro e w' ⟨s, rfl, rfl⟩
  go_wp2
  go_ret
  refine ⟨_, rfl, ?_, ?_⟩
  · go_simp
  · exact ((below_new (below_new (below_new (Below.refl _ _) _) _) _).drew.drew.drew)

set_option maxHeartbeats 400000 in
theorem zzrefuse1_any (F : Interp) (q f arg : ByteArray) (i : Int) (a : Addr) (t : ByteArray) (w : World) (hF : F.answers w.tape)
    (hg : w.cell? ⟨0, 0, none⟩ = some (.iface 57 (.pointer (some a)))) (ht : w.cell? a = some (.string t)) :
    Calls Tryf.prog 10 #[.string q, .int .i64 i, .string f, .string arg] w fun e w' => ∃ pb, e = .returned (.iface 56 (.pointer (some ⟨pb, 0, none⟩))) ∧ w'.cell? ⟨pb, 0 + 1, none⟩ = some (.iface 57 (.pointer (some a))) ∧ Below w.heap.size w w' := by
  have hl0 : 0 < w.heap.size := World.block_lt_of_cell? _ _ hg
  have hla : a.block < w.heap.size := World.block_lt_of_cell? _ _ ht
  go_enter Tryf.func10, Tryf.ntmps10
  go_wp2_with fail
  refine (refuse_any F _ f _ a t _ ?_ ?_ ?_ ?_).mono ?_
  · exact hF
  · exact cell?_alloc_old _ (cell?_alloc_old _ hg)
  · exact cell?_alloc_old _ (cell?_alloc_old _ ht)
  · exact sprintf_one F f arg _ _ hF (by go_simp)
  rintro e w' ⟨s, rfl, rfl⟩
  go_wp2
  go_ret
  refine ⟨_, rfl, ?_, ?_⟩
  · go_simp
  · exact ((below_new (below_new (below_new (below_new (Below.refl _ _) _) _) _) _).drew.drew.drew)

end Go.Proofs.Qxb6612396aFmt
