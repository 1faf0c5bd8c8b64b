/- The row of FnRefuseWithAnArgumentWrapsTheSentinelOnce and its told and tied card. -/
import Derived.Test.Qxb6612396aFmtLaw2
import Derived.Test.Qxb6612396aFmtLaidStart
import Derived.Test.Qxb6612396aFmtTie
import Derived.Test.Qxb6612396aFmtCards
import Derived.SevenTiedAt
import Derived.ShutString
namespace Go.Proofs.Qxb6612396aFmt
open Go.ChangeShapes Go.WideShapes Go.ChangeAt Go.RowKit Go.Kit
open Go.ChangeMaps (open_string shut_string)
open Go.Extern.Stop Go.Stop Go.Extern

set_option maxRecDepth 100000 in
set_option maxHeartbeats 1600000 in
theorem lifted2 (os : Os) (started : os.Started) (H : Type) (enc : TypeId × Value → H) :
    ReturnsInTold none {} Tryf.checked os 4 .any Input.okWide ((OpenSpec.ofChange Rows.fnRefuseWithAnArgumentWrapsTheSentinelOnceSpec).preRow enc Tryf.prog Tryf.f4 [] false Rows.fnRefuseWithAnArgumentWrapsTheSentinelOnceRow.laid) (fun F => ((OpenSpec.ofChange Rows.fnRefuseWithAnArgumentWrapsTheSentinelOnceSpec).at F.told).post enc Tryf.prog Tryf.f4 false true false false) (aloneAtReturn Tryf.prog) nothingAlways := by
  refine returnsInTold_of_row (C := Tryf.checked) (s := OpenSpec.ofChange Rows.fnRefuseWithAnArgumentWrapsTheSentinelOnceSpec) (by kernel_rfl) own started (by kernel_rfl) Tryf.func4
    (OpenSpec.witness_stopped_at (enc := enc) (C := Tryf.checked) false (laidWorld Tryf.prog os) #[.string ByteArray.empty, .int .i64 0, .string ByteArray.empty, .string ByteArray.empty] rfl (by kernel_rfl) (by kernel_rfl) (by kernel_rfl)
      (OpenSpec.preRow_of_B rfl 8 (by kernel_rfl) (by kernel_rfl) (laid_met os _))) ?_
  intro F W base0 args ds gs before _ hF hval0 hW _ _ _ hL _
  have hval : ∀ (j : Nat) t v, Tryf.f4.params[j]? = some t → args[j]? = some v → Value.okWide Tryf.prog W .any base0 t v := hval0
  have hW' := hW
  obtain ⟨p, q, hA0, hV0, rfl, hfz, hnd⟩ := hW
  have hA : DataW.TrodAll enc Tryf.prog W 0 (fun _ => true) true Tryf.f4.params.toList args.toList ds p := hA0
  have hV : DataW.TrodVars enc Tryf.prog W (fun _ => true) [errName] gs q := hV0
  rw [Tryf.params4] at hA hval
  obtain ⟨v0, v1, v2, v3, d0, d1, d2, d3, p0, p1, p2, p3, rfl, rfl, rfl, h0, h1, h2, h3⟩ := trodAll_four hA
  obtain ⟨qs, rfl, rfl, rfl, wq⟩ := open_string Tryf.underlying9 (hval 0 9 v0 rfl rfl) h0
  obtain ⟨i, rfl, rfl, rfl, wi⟩ := open_int Tryf.underlying3 (hval 1 3 v1 rfl rfl) h1
  obtain ⟨fs, rfl, rfl, rfl, wf⟩ := open_string Tryf.underlying9 (hval 2 9 v2 rfl rfl) h2
  obtain ⟨rs, rfl, rfl, rfl, wr⟩ := open_string Tryf.underlying9 (hval 3 9 v3 rfl rfl) h3
  obtain ⟨a1, s1, hv1, hc1, hs1, hz1⟩ := laid_sentinel hL gE gEType Tryf.underlying24 row57 Tryf.underlying57 Tryf.underlying59 rfl rfl Tryf.underlying9 cells59 cells9
  obtain ⟨rfl, rfl⟩ := hV.unique (vars_read1 enc gE gEType Tryf.underlying24 hv1 trivial _)
  clear hA0 hV0 hval0
  have hg1 : W.cell? ⟨0, 0, none⟩ = some (.iface 57 (.pointer (some a1))) := by simpa using World.var?_cell gE hv1 0
  have h0lt : 0 < W.heap.size := World.block_lt_of_cell? _ _ hg1
  have mq := wq
  have mf := wf
  have mr := wr
  unfold maxLen at mq mf mr
  refine (law2 F.told qs fs rs i a1 s1 W (by omega) (by omega) (by omega) hF hg1 hc1).mono fun e W' ⟨he, hB⟩ => ?_
  subst he
  refine ⟨_, rfl, _, _, _, [], [] ++ ([] ++ ([] ++ [])), [.cell 0 0], hW', ?_, ?_, ?_, hB.frame _, fun h => by cases h⟩
  · exact trodAll_mk1 (shut_bool Tryf.underlying4 true)
  · exact trodAll_mk4 (shut_string Tryf.underlying9 wq) (shut_int Tryf.underlying3 wi) (shut_string Tryf.underlying9 wf) (shut_string Tryf.underlying9 wr)
  · exact vars_read1 enc gE gEType Tryf.underlying24 (var?_below hB gE h0lt hv1) trivial _

theorem proved2 : Rows.FnRefuseWithAnArgumentWrapsTheSentinelOnceToldSaid :=
  Claim7.holds_of_told_tied_any_at .later 4 Tryf.f4 "fmt.Sprintf" ["fmt.errorf"] [] _ _ _ _ _ (by kernel_rfl) rfl rfl rfl laidOut (by kernel_rfl) rfl ⟨rfl, rfl, rfl, rfl, rfl, rfl, rfl⟩ rfl rfl (by kernel_rfl) (by kernel_rfl) Tryf.func4 (by kernel_rfl)
    (of_decide_eq_true (by kernel_rfl)) (by unfold Func.isWrapper; first | (rw [if_pos (by decide +kernel)]; kernel_rfl) | (rw [if_neg (by decide +kernel)]; exact ⟨rfl, rfl⟩)) stops.symm rfl stopKnobs.symm (by kernel_rfl)
    (by kernel_rfl) (by kernel_rfl) (by kernel_rfl) (by kernel_rfl) (by kernel_rfl) (by kernel_rfl) (by kernel_rfl) (by kernel_rfl) (by kernel_rfl) rfl (by kernel_rfl) rfl rfl
    rfl rfl
    rfl (by kernel_rfl) (by kernel_rfl) (by kernel_rfl) (by decide) (by kernel_rfl) fnRefuseWithAnArgumentWrapsTheSentinelOnce_row_tie
    (OpenClaim.moreEntering_of (by kernel_rfl) (by kernel_rfl) (by kernel_rfl) (by kernel_rfl) (by kernel_rfl) (by kernel_rfl) (by kernel_rfl) (by kernel_rfl) (by kernel_rfl) (by kernel_rfl))
    ⟨_, WideRow.started_initial, quiet _⟩
    (fun os started _ H enc _ => lifted2 os started H enc)

#print axioms proved2
end Go.Proofs.Qxb6612396aFmt
