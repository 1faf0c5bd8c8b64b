/- The law, inside its own conditions. -/
import Derived.Test.Qxb6609496aFmtStart
namespace Go.Proofs.Qxb6609496aFmt
open Go.RowKit
set_option linter.unusedVariables false

set_option maxRecDepth 1000000 in
set_option maxHeartbeats 4000000 in
theorem law_good (id n t i p r rd sb so sl sc fl fc ec vc : Nat) (fa ea va : Option Addr) (zs : List Nat) (es vs : Nat → Nat) (fs : Nat → Int) (w : World)
    (hn1 : 1 ≤ n) (hn : n ≤ 65536) (ht : 10 * t < n) (hi : i ≤ 1) (hid1 : 1 ≤ id) (hidn : id ≤ n) (hnp : n < p) (HP64 : Hid (p < 18446744073709551616)) (hsl1 : 1 ≤ sl) (hsl : sl ≤ 65536) (hfl : fl ≤ 16384) (hrd : rd < 4294967296) (HZL : Hid (sl ≤ zs.length))
    (HZ : Hid (∀ j, j < sl → w.cell? ⟨sb, so + j, none⟩ = some (.int .u64 ((zs.getD j 0 : Nat) : Int))))
    (HF : Hid (∀ j, j < fl → ∃ b o, fa = some ⟨b, o, none⟩ ∧ w.cell? ⟨b, o + j, none⟩ = some (.int .i64 (fs j))))
    (HE : Hid (∀ j, j < fl → ∃ b o, ea = some ⟨b, o, none⟩ ∧ w.cell? ⟨b, o + j, none⟩ = some (.int .u8 (es j : Int))))
    (HV : Hid (∀ j, j < fl → ∃ b o, va = some ⟨b, o, none⟩ ∧ w.cell? ⟨b, o + j, none⟩ = some (.int .u32 (vs j : Int)) ∧ vs j < 4294967296)) :
    Calls Tryf.prog 3 #[.int .i64 id, .int .i64 n, .int .i64 t, .int .u8 i, .int .u64 p, .int .u64 r, .slice (some ⟨sb, so, none⟩) sl sc, .int .u32 rd, .slice fa fl fc, .slice ea fl ec, .slice va fl vc] w
      fun e w' => e = .returned (.bool true) ∧ Below w.heap.size w w' := by
  go_enter Tryf.func3, Tryf.ntmps3
  go_wp2_with fail
  refine (bytes4 _ _ _ _ _ _ _ _ _ _ _ _ _ _ _ _ _ _ _ _ (by omega)).mono ?_
  rintro e0 w ⟨rfl, rfl⟩
  go_wp2_with fail
  refine (fieldFits_any p r _ HP64.out).mono ?_
  rintro e1 w ⟨rfl | ⟨rfl, hp2, hp32⟩, rfl⟩
  · go_wp2
    go_ret
    exact ⟨rfl, Below.refl _ _⟩
  have hd : decide (10 * t < n) = true := by simp; omega
  go_wp2_with fail
  refine (above_any n t _ hn).mono ?_
  rw [hd]
  rintro e2 w ⟨rfl, rfl⟩
  clear hd
  go_wp2_with fail
  refine (allBelow_any sb so sl sc p zs _ HZL.out hsl HP64.out HZ.out).mono ?_
  rintro e3 w ⟨rfl | ⟨rfl, hall⟩, rfl⟩
  · go_wp2
    go_ret
    exact ⟨rfl, Below.refl _ _⟩
  have HALL : Hid (∀ j, j < sl → zs.getD j 0 < p) := hall
  clear hall
  go_wp2_with fail
  refine loop1 n fl fc ec fa ea _ _ _ _ _ _ _ _ _ _ _ _ _ _ _ _ _ _ _ _ _ _ _ _ _ _ _ _ _ _ _ _ _ _ _ _ _ _ _ _ _ _ _ _ _ _ _ _ _ _ _ _ _ _ _ _ _ _ _ _ _ _ _ _ _ _ _ _ _ _ _ _ _ _ _ _ _ _ _ _ _ _ _ _ _ _ _ _ _ _ _ _ _ _ _ _ _ _ _ _ _ _ _ _ _ _ _ _ _ _ _ _ _ _ _ _ _ _ _ _ _ _ _ _ _ _ _ _ _ _ _ _ _ _ _ _ _ _ _ _ _ _ _ _ _ _ _ _ _ _ _ _ _ _ _ _ _ _ _ _ _ _ _ _ _ _ _ _ _ _ _ _ _ _ _ _ _ _ _ _ _ _ _ _ _ _ _ _ _ _ _ _ _ _ _ _ _ _ _ _ _ _ _ _ _ _ _ _ _ _ _ _ _ _ _ _ _ _ _ _ _ _ _ _ _ _ _ _ _ _ _ _ _ _ _ _ _ _ _ _ _ _ _ _ _ _ _ _ _ _ _ _ _ _ _ _ _ _ _ _ _ _ _ _ _ _ _ _ _ _ _ _ _ _ _ _ _ _ _ _ _ _ _ _ _ _ _ _ _ _ _ _ _ _ _ _ _ _ _ _ _ _ _ _ _ _ _ _ _ _ _ _ _ _ _ _ _ _ _ _ _ _ _ _ _ _ _ _ _ _ _ _ _ _ _ _ _ _ _ _ _ _ _ _ _ _ _ _ _ _ _ _ _ _ _ _ _ _ _ _ _ _ _ _ _ _ _ _ _ _ _ _ _ _ _ _ _ _ _ _ _ _ _ _ _ _ _ _ _ _ _ _ _ _ _ _ _ _ _ _ _ _ _ _ _ _ _ _ _ _ fs es _ ?hx1 ?hr1 hfl HF HE
  case hr1 =>
    intro k a W hI
    unfold WR1 at hI
    obtain ⟨u136, hI⟩ := hI
    obtain ⟨u137, hI⟩ := hI
    obtain ⟨u138, hI⟩ := hI
    obtain ⟨u139, hI⟩ := hI
    obtain ⟨u140, hI⟩ := hI
    obtain ⟨u141, hI⟩ := hI
    obtain ⟨u142, hI⟩ := hI
    obtain ⟨u143, hI⟩ := hI
    obtain ⟨u144, hI⟩ := hI
    obtain ⟨u145, hI⟩ := hI
    obtain ⟨u146, hI⟩ := hI
    obtain ⟨u147, hI⟩ := hI
    obtain ⟨u148, hI⟩ := hI
    obtain ⟨u149, hI⟩ := hI
    obtain ⟨u150, hI⟩ := hI
    obtain ⟨u151, hI⟩ := hI
    obtain ⟨u152, hI⟩ := hI
    obtain ⟨u153, hI⟩ := hI
    obtain ⟨u154, hI⟩ := hI
    obtain ⟨u155, hI⟩ := hI
    obtain ⟨u156, hI⟩ := hI
    obtain ⟨u157, hI⟩ := hI
    obtain ⟨u158, hI⟩ := hI
    obtain ⟨u159, hI⟩ := hI
    obtain ⟨u160, hI⟩ := hI
    obtain ⟨u161, hI⟩ := hI
    obtain ⟨u162, hI⟩ := hI
    obtain ⟨u163, hI⟩ := hI
    obtain ⟨u164, hI⟩ := hI
    obtain ⟨u165, hI⟩ := hI
    obtain ⟨u166, hI⟩ := hI
    obtain ⟨u167, hI⟩ := hI
    obtain ⟨u168, hI⟩ := hI
    obtain ⟨rfl, rfl⟩ := hI
    go_wp2
    go_ret
    exact ⟨rfl, Below.refl _ _⟩
  intro hgood a W hI
  have HG : Hid (∀ j, j < fl → 1 ≤ fs j ∧ fs j ≤ n ∧ 1 ≤ es j ∧ es j ≤ 3) := hgood
  clear hgood
  unfold WI1 at hI
  obtain ⟨u136, hI⟩ := hI
  obtain ⟨u137, hI⟩ := hI
  obtain ⟨u138, hI⟩ := hI
  obtain ⟨u139, hI⟩ := hI
  obtain ⟨u140, hI⟩ := hI
  obtain ⟨u141, hI⟩ := hI
  obtain ⟨u142, hI⟩ := hI
  obtain ⟨u143, hI⟩ := hI
  obtain ⟨u144, hI⟩ := hI
  obtain ⟨u145, hI⟩ := hI
  obtain ⟨u146, hI⟩ := hI
  obtain ⟨u147, hI⟩ := hI
  obtain ⟨u148, hI⟩ := hI
  obtain ⟨u149, hI⟩ := hI
  obtain ⟨u150, hI⟩ := hI
  obtain ⟨u151, hI⟩ := hI
  obtain ⟨u152, hI⟩ := hI
  obtain ⟨u153, hI⟩ := hI
  obtain ⟨u154, hI⟩ := hI
  obtain ⟨u155, hI⟩ := hI
  obtain ⟨u156, hI⟩ := hI
  obtain ⟨u157, hI⟩ := hI
  obtain ⟨u158, hI⟩ := hI
  obtain ⟨u159, hI⟩ := hI
  obtain ⟨u160, hI⟩ := hI
  obtain ⟨u161, hI⟩ := hI
  obtain ⟨u162, hI⟩ := hI
  obtain ⟨u163, hI⟩ := hI
  obtain ⟨u164, hI⟩ := hI
  obtain ⟨u165, hI⟩ := hI
  obtain ⟨u166, hI⟩ := hI
  obtain ⟨u167, hI⟩ := hI
  obtain ⟨u168, hI⟩ := hI
  obtain ⟨rfl, rfl⟩ := hI
  go_wp2_with fail
  refine (clone_any sb so sl sc (fun j => zs.getD j 0) _ hsl1 hsl HZ.out).mono ?_
  rintro e4 w1 ⟨rfl, hcl⟩
  have HCL : Hid (Cl W w1 sl sl (fun j => zs.getD j 0)) := hcl
  clear hcl
  go_wp2_with fail
  refine (zzfield_any p r _).mono ?_
  rintro e5 w2 ⟨rfl, rfl⟩
  go_wp2_with fail
  refine (newRabin_any id n t i p r W.heap.size 0 sl sl _ ht hn hi hid1 hidn hnp hp32 hsl1 hsl ?hc9).mono ?_
  case hc9 => exact fun j hj => ⟨zs.getD j 0, (World.cell?_of_block (a := ⟨W.heap.size, 0 + j, none⟩) (Below.heap_alloc w1 _ W.heap.size HCL.out.lt)).trans (by rw [Nat.zero_add]; exact HCL.out.done j hj), HALL.out j hj⟩
  rintro e6 w3 ⟨rb, mb, rfl, hF, hB, hrb, hmb⟩
  have HFR : Hid (Fresh w3 rb mb id n t) := hF
  have HBB : Hid (Below W.heap.size W w3 ∧ W.heap.size ≤ rb ∧ W.heap.size ≤ mb ∧ rb < w3.heap.size ∧ mb < w3.heap.size) := by
    have c1 := HCL.out.b
    have c2 := HCL.out.lt
    simp only [World.size_alloc] at hrb hmb hB
    exact ⟨(c1.alloc (by omega) _).trans (hB.mono (by omega)), by omega, by omega, lt_of_cell hF.rbh.c0, hF.m.lt⟩
  clear hF hB hrb hmb
  have hmk := make44 n hn
  go_wp2_with fail
  refine loop2 W.heap.size rb mb w3.heap.size id n t rd ((n + 63) / 64) fl fc ec vc W fa ea va _ _ _ _ _ _ _ _ _ _ _ _ _ _ _ _ _ _ _ _ _ _ _ _ _ _ _ _ _ _ _ _ _ _ _ _ _ _ _ _ _ _ _ _ _ _ _ _ _ _ _ _ _ _ _ _ _ _ _ _ _ _ _ _ _ _ _ _ _ _ _ _ _ _ _ _ _ _ _ _ _ _ _ _ _ _ _ _ _ _ _ _ _ _ _ _ _ _ _ _ _ _ _ _ _ _ _ _ _ _ _ _ _ _ _ _ _ _ _ _ _ _ _ _ _ _ _ _ _ _ _ _ _ _ _ _ _ _ _ _ _ _ _ _ _ _ _ _ _ _ _ _ _ _ _ _ _ _ _ _ _ _ _ _ _ _ _ _ _ _ _ _ _ _ _ _ _ _ _ _ _ _ _ _ _ _ _ _ _ _ _ _ _ _ _ _ _ _ _ _ _ _ _ _ _ _ _ _ _ _ _ _ _ _ _ _ _ _ _ _ _ _ _ _ _ _ _ _ _ _ _ _ _ _ _ _ _ _ _ _ _ _ _ _ _ _ _ _ _ _ _ _ _ _ _ _ _ _ _ _ _ _ _ _ _ _ _ _ _ _ _ _ _ _ _ _ _ _ _ _ _ _ _ _ _ _ _ _ _ _ _ _ _ _ _ _ _ _ _ _ _ _ _ _ _ _ _ _ _ _ _ _ _ _ _ _ _ _ _ _ _ _ _ _ _ _ _ _ _ _ _ _ _ _ _ _ _ _ _ _ _ _ _ _ _ _ _ _ _ _ _ _ _ _ _ _ _ _ _ _ _ _ _ _ _ _ _ _ _ _ _ _ _ _ _ _ _ _ _ _ _ _ _ _ _ _ _ _ _ _ _ _ _ _ _ _ _ _ _ _ _ ?hx2 hfl hn (by omega) hid1 hidn hrd (by omega) (by omega) ?hwd2 ?hw2 ?harg2 ?h02
  case hwd2 => exact fun f hf => (by omega : (f - 1) / 64 < (n + 63) / 64)
  case hw2 => exact fun w => heardWords_any n w hn
  case h02 => exact ⟨[], S0, inv_start HFR.out HBB.out.1 rfl HBB.out.2.1 HBB.out.2.2.1 HBB.out.2.2.2.1 HBB.out.2.2.2.2⟩
  case harg2 =>
    intro j hj
    obtain ⟨fb, fo, e1, c1⟩ := HF.out j hj
    obtain ⟨eb, eo, e2, c2⟩ := HE.out j hj
    obtain ⟨vb, vo, e3, c3, hv⟩ := HV.out j hj
    obtain ⟨g1, g2, g3, g4⟩ := HG.out j hj
    refine ⟨fb, fo, eb, eo, vb, vo, es j - 1, (fs j).toNat, vs j, e1, e2, e3, lt_of_cell c1, lt_of_cell c2, lt_of_cell c3, ?_, by omega, by omega, ?_, by omega, c3, hv⟩
    · rw [c1, show (((fs j).toNat : Nat) : Int) = fs j by omega]
    · rw [c2, show (((es j - 1 : Nat) : Int) + 1) = (es j : Int) by omega]
  intro a W5 hI
  unfold WI2 at hI
  obtain ⟨u31, hI⟩ := hI
  obtain ⟨u32, hI⟩ := hI
  obtain ⟨u34, hI⟩ := hI
  obtain ⟨u35, hI⟩ := hI
  obtain ⟨u36, hI⟩ := hI
  obtain ⟨u37, hI⟩ := hI
  obtain ⟨u198, hI⟩ := hI
  obtain ⟨u199, hI⟩ := hI
  obtain ⟨u200, hI⟩ := hI
  obtain ⟨u201, hI⟩ := hI
  obtain ⟨u202, hI⟩ := hI
  obtain ⟨u203, hI⟩ := hI
  obtain ⟨u204, hI⟩ := hI
  obtain ⟨u205, hI⟩ := hI
  obtain ⟨u206, hI⟩ := hI
  obtain ⟨u207, hI⟩ := hI
  obtain ⟨u208, hI⟩ := hI
  obtain ⟨u209, hI⟩ := hI
  obtain ⟨u210, hI⟩ := hI
  obtain ⟨u211, hI⟩ := hI
  obtain ⟨u212, hI⟩ := hI
  obtain ⟨u213, hI⟩ := hI
  obtain ⟨u214, hI⟩ := hI
  obtain ⟨u215, hI⟩ := hI
  obtain ⟨u216, hI⟩ := hI
  obtain ⟨u217, hI⟩ := hI
  obtain ⟨u218, hI⟩ := hI
  obtain ⟨u219, hI⟩ := hI
  obtain ⟨u220, hI⟩ := hI
  obtain ⟨u221, hI⟩ := hI
  obtain ⟨u222, hI⟩ := hI
  obtain ⟨u223, hI⟩ := hI
  obtain ⟨u224, hI⟩ := hI
  obtain ⟨u225, hI⟩ := hI
  obtain ⟨u226, hI⟩ := hI
  obtain ⟨u227, hI⟩ := hI
  obtain ⟨u228, hI⟩ := hI
  obtain ⟨u229, hI⟩ := hI
  obtain ⟨u230, hI⟩ := hI
  obtain ⟨u231, hI⟩ := hI
  obtain ⟨u232, hI⟩ := hI
  obtain ⟨u233, hI⟩ := hI
  obtain ⟨u234, hI⟩ := hI
  obtain ⟨u235, hI⟩ := hI
  obtain ⟨u236, hI⟩ := hI
  obtain ⟨u237, hI⟩ := hI
  obtain ⟨u238, hI⟩ := hI
  obtain ⟨u239, hI⟩ := hI
  obtain ⟨u240, hI⟩ := hI
  obtain ⟨u241, hI⟩ := hI
  obtain ⟨u242, hI⟩ := hI
  obtain ⟨u243, hI⟩ := hI
  obtain ⟨u244, hI⟩ := hI
  obtain ⟨u245, hI⟩ := hI
  obtain ⟨u246, hI⟩ := hI
  obtain ⟨u247, hI⟩ := hI
  obtain ⟨u248, hI⟩ := hI
  obtain ⟨u249, hI⟩ := hI
  obtain ⟨u250, hI⟩ := hI
  obtain ⟨u251, hI⟩ := hI
  obtain ⟨u252, hI⟩ := hI
  obtain ⟨u253, hI⟩ := hI
  obtain ⟨u254, hI⟩ := hI
  obtain ⟨u255, hI⟩ := hI
  obtain ⟨u256, hI⟩ := hI
  obtain ⟨u257, hI⟩ := hI
  obtain ⟨u258, hI⟩ := hI
  obtain ⟨u259, hI⟩ := hI
  obtain ⟨u260, hI⟩ := hI
  obtain ⟨u261, hI⟩ := hI
  obtain ⟨u262, hI⟩ := hI
  obtain ⟨u263, hI⟩ := hI
  obtain ⟨u264, hI⟩ := hI
  obtain ⟨u265, hI⟩ := hI
  obtain ⟨u266, hI⟩ := hI
  obtain ⟨u267, hI⟩ := hI
  obtain ⟨u268, hI⟩ := hI
  obtain ⟨u269, hI⟩ := hI
  obtain ⟨u270, hI⟩ := hI
  obtain ⟨u271, hI⟩ := hI
  obtain ⟨u272, hI⟩ := hI
  obtain ⟨u273, hI⟩ := hI
  obtain ⟨u274, hI⟩ := hI
  obtain ⟨u275, hI⟩ := hI
  obtain ⟨u276, hI⟩ := hI
  obtain ⟨u277, hI⟩ := hI
  obtain ⟨u278, hI⟩ := hI
  obtain ⟨u279, hI⟩ := hI
  obtain ⟨u280, hI⟩ := hI
  obtain ⟨u281, hI⟩ := hI
  obtain ⟨u282, hI⟩ := hI
  obtain ⟨u283, hI⟩ := hI
  obtain ⟨u284, hI⟩ := hI
  obtain ⟨u285, hI⟩ := hI
  obtain ⟨u286, hI⟩ := hI
  obtain ⟨u287, hI⟩ := hI
  obtain ⟨u288, hI⟩ := hI
  obtain ⟨u289, hI⟩ := hI
  obtain ⟨u290, hI⟩ := hI
  obtain ⟨u291, hI⟩ := hI
  obtain ⟨u292, hI⟩ := hI
  obtain ⟨u293, hI⟩ := hI
  obtain ⟨u294, hI⟩ := hI
  obtain ⟨u295, hI⟩ := hI
  obtain ⟨u296, hI⟩ := hI
  obtain ⟨u297, hI⟩ := hI
  obtain ⟨u298, hI⟩ := hI
  obtain ⟨u299, hI⟩ := hI
  obtain ⟨u300, hI⟩ := hI
  obtain ⟨u301, hI⟩ := hI
  obtain ⟨u302, hI⟩ := hI
  obtain ⟨u303, hI⟩ := hI
  obtain ⟨u304, hI⟩ := hI
  obtain ⟨u305, hI⟩ := hI
  obtain ⟨u306, hI⟩ := hI
  obtain ⟨u307, hI⟩ := hI
  obtain ⟨u308, hI⟩ := hI
  obtain ⟨u309, hI⟩ := hI
  obtain ⟨u310, hI⟩ := hI
  obtain ⟨u311, hI⟩ := hI
  obtain ⟨u312, hI⟩ := hI
  obtain ⟨⟨fp, S, hinv⟩, rfl⟩ := hI
  obtain ⟨xa, cx, hpx⟩ := row_slice hinv.li.rx
  obtain ⟨ya, cy, hpy⟩ := row_slice hinv.li.ry
  subst hpx hpy
  obtain ⟨L, hL⟩ : ∃ L, L = S.pts.length := ⟨_, rfl⟩
  rw [← hL] at hinv
  rw [← hL]
  have HI5 : Hid (L = S.pts.length ∧ Inv W.heap.size rb mb w3.heap.size id n t rd ((n + 63) / 64) W W5 (.slice xa L cx) (.slice ya L cy) fl fp S) := ⟨hL, hinv⟩
  clear hL hinv
  go_wp2_with fail
  refine loop3 W.heap.size rb mb w3.heap.size id n t rd ((n + 63) / 64) L cx cy fl xa ya W _ _ _ _ _ _ _ _ _ _ _ _ _ _ _ _ _ _ _ _ _ _ _ _ _ _ _ _ _ _ _ _ _ _ _ _ _ _ _ _ _ _ _ _ _ _ _ _ _ _ _ _ _ _ _ _ _ _ _ _ _ _ _ _ _ _ _ _ _ _ _ _ _ _ _ _ _ _ _ _ _ _ _ _ _ _ _ _ _ _ _ _ _ _ _ _ _ _ _ _ _ _ _ _ _ _ _ _ _ _ _ _ _ _ _ _ _ _ _ _ _ _ _ _ _ _ _ _ _ _ _ _ _ _ _ _ _ _ _ _ _ _ _ _ _ _ _ _ _ _ _ _ _ _ _ _ _ _ _ _ _ _ _ _ _ _ _ _ _ _ _ _ _ _ _ _ _ _ _ _ _ _ _ _ _ _ _ _ _ _ _ _ _ _ _ _ _ _ _ _ _ _ _ _ _ _ _ _ _ _ _ _ _ _ _ _ _ _ _ _ _ _ _ _ _ _ _ _ _ _ _ _ _ _ _ _ _ _ _ _ _ _ _ _ _ _ _ _ _ _ _ _ _ _ _ _ _ _ _ _ _ _ _ _ _ _ _ _ _ _ _ _ _ _ _ _ _ _ _ _ _ _ _ _ _ _ _ _ _ _ _ _ _ _ _ _ _ _ _ _ _ _ _ _ _ _ _ _ _ _ _ _ _ _ _ _ _ _ _ _ _ _ _ _ _ _ _ _ _ _ _ _ _ _ _ _ _ _ _ _ _ _ _ _ _ _ _ _ _ _ _ _ _ _ _ _ _ _ _ _ _ _ _ _ _ _ _ _ _ _ _ _ _ _ _ _ _ _ _ _ _ _ _ _ _ _ _ _ _ _ _ _ _ _ _ _ _ _ _ _ _ _ ?hx3 hfl hn hrd (by omega) (by omega) ?hwd3 ?hw3 ⟨fp, S, HI5.out⟩
  case hwd3 => exact fun f hf => (by omega : (f - 1) / 64 < (n + 63) / 64)
  case hw3 => exact fun w => heardWords_any n w hn
  intro a W6 hI
  unfold WI3 at hI
  obtain ⟨u39, hI⟩ := hI
  obtain ⟨u40, hI⟩ := hI
  obtain ⟨u41, hI⟩ := hI
  obtain ⟨u42, hI⟩ := hI
  obtain ⟨u43, hI⟩ := hI
  obtain ⟨u44, hI⟩ := hI
  obtain ⟨u45, hI⟩ := hI
  obtain ⟨u46, hI⟩ := hI
  obtain ⟨u313, hI⟩ := hI
  obtain ⟨u314, hI⟩ := hI
  obtain ⟨u315, hI⟩ := hI
  obtain ⟨u316, hI⟩ := hI
  obtain ⟨u317, hI⟩ := hI
  obtain ⟨u318, hI⟩ := hI
  obtain ⟨u319, hI⟩ := hI
  obtain ⟨u320, hI⟩ := hI
  obtain ⟨u321, hI⟩ := hI
  obtain ⟨u322, hI⟩ := hI
  obtain ⟨u323, hI⟩ := hI
  obtain ⟨u324, hI⟩ := hI
  obtain ⟨u325, hI⟩ := hI
  obtain ⟨u326, hI⟩ := hI
  obtain ⟨u327, hI⟩ := hI
  obtain ⟨u328, hI⟩ := hI
  obtain ⟨u329, hI⟩ := hI
  obtain ⟨u330, hI⟩ := hI
  obtain ⟨u331, hI⟩ := hI
  obtain ⟨u332, hI⟩ := hI
  obtain ⟨u333, hI⟩ := hI
  obtain ⟨u334, hI⟩ := hI
  obtain ⟨u335, hI⟩ := hI
  obtain ⟨u336, hI⟩ := hI
  obtain ⟨u337, hI⟩ := hI
  obtain ⟨u338, hI⟩ := hI
  obtain ⟨u339, hI⟩ := hI
  obtain ⟨u340, hI⟩ := hI
  obtain ⟨u341, hI⟩ := hI
  obtain ⟨u342, hI⟩ := hI
  obtain ⟨u343, hI⟩ := hI
  obtain ⟨u344, hI⟩ := hI
  obtain ⟨u345, hI⟩ := hI
  obtain ⟨u346, hI⟩ := hI
  obtain ⟨u347, hI⟩ := hI
  obtain ⟨u348, hI⟩ := hI
  obtain ⟨u349, hI⟩ := hI
  obtain ⟨u350, hI⟩ := hI
  obtain ⟨u351, hI⟩ := hI
  obtain ⟨u352, hI⟩ := hI
  obtain ⟨u353, hI⟩ := hI
  obtain ⟨u354, hI⟩ := hI
  obtain ⟨u355, hI⟩ := hI
  obtain ⟨u356, hI⟩ := hI
  obtain ⟨u357, hI⟩ := hI
  obtain ⟨u358, hI⟩ := hI
  obtain ⟨u359, hI⟩ := hI
  obtain ⟨u360, hI⟩ := hI
  obtain ⟨u361, hI⟩ := hI
  obtain ⟨u362, hI⟩ := hI
  obtain ⟨u363, hI⟩ := hI
  obtain ⟨u364, hI⟩ := hI
  obtain ⟨u365, hI⟩ := hI
  obtain ⟨u366, hI⟩ := hI
  obtain ⟨u367, hI⟩ := hI
  obtain ⟨u368, hI⟩ := hI
  obtain ⟨u369, hI⟩ := hI
  obtain ⟨u370, hI⟩ := hI
  obtain ⟨u371, hI⟩ := hI
  obtain ⟨u372, hI⟩ := hI
  obtain ⟨u373, hI⟩ := hI
  obtain ⟨u374, hI⟩ := hI
  obtain ⟨u375, hI⟩ := hI
  obtain ⟨u376, hI⟩ := hI
  obtain ⟨u377, hI⟩ := hI
  obtain ⟨u378, hI⟩ := hI
  obtain ⟨u379, hI⟩ := hI
  obtain ⟨u380, hI⟩ := hI
  obtain ⟨u381, hI⟩ := hI
  obtain ⟨u382, hI⟩ := hI
  obtain ⟨u383, hI⟩ := hI
  obtain ⟨u384, hI⟩ := hI
  obtain ⟨u385, hI⟩ := hI
  obtain ⟨u386, hI⟩ := hI
  obtain ⟨u387, hI⟩ := hI
  obtain ⟨u388, hI⟩ := hI
  obtain ⟨u389, hI⟩ := hI
  obtain ⟨u390, hI⟩ := hI
  obtain ⟨u391, hI⟩ := hI
  obtain ⟨u392, hI⟩ := hI
  obtain ⟨u393, hI⟩ := hI
  obtain ⟨u394, hI⟩ := hI
  obtain ⟨u395, hI⟩ := hI
  obtain ⟨u396, hI⟩ := hI
  obtain ⟨u397, hI⟩ := hI
  obtain ⟨u398, hI⟩ := hI
  obtain ⟨u399, hI⟩ := hI
  obtain ⟨u400, hI⟩ := hI
  obtain ⟨u401, hI⟩ := hI
  obtain ⟨u402, hI⟩ := hI
  obtain ⟨u403, hI⟩ := hI
  obtain ⟨u404, hI⟩ := hI
  obtain ⟨u405, hI⟩ := hI
  obtain ⟨u406, hI⟩ := hI
  obtain ⟨u407, hI⟩ := hI
  obtain ⟨u408, hI⟩ := hI
  obtain ⟨u409, hI⟩ := hI
  obtain ⟨u410, hI⟩ := hI
  obtain ⟨u411, hI⟩ := hI
  obtain ⟨u412, hI⟩ := hI
  obtain ⟨⟨fp2, S2, _, hinv⟩, rfl⟩ := hI
  have HB6 : Hid (Below W.heap.size W W6) := hinv.bel
  clear hinv HI5
  go_wp2
  go_ret
  exact ⟨rfl, HB6.out⟩

end Go.Proofs.Qxb6609496aFmt
