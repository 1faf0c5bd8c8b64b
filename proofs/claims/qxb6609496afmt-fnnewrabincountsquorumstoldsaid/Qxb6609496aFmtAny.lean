/- The law, whatever the input. -/
import Derived.Test.Qxb6609496aFmtMain
import Derived.Test.Qxb6609496aFmtE1
import Derived.Test.Qxb6609496aFmtE2
import Derived.Test.Qxb6609496aFmtE3
import Derived.Test.Qxb6609496aFmtE4
import Derived.Test.Qxb6609496aFmtE5
import Derived.OpenShut
namespace Go.Proofs.Qxb6609496aFmt
open Go.RowKit

/-- A slice of integers that came in. -/
def IsRow (k : IntKind) (w : World) (a : Option Addr) (len cap : Nat) (zs : List Int) : Prop :=
  (a = none ∧ len = 0 ∧ cap = 0 ∧ zs = []) ∨
  ∃ x, a = some x ∧ len ≤ cap ∧ cap ≤ maxLen ∧ zs.length = cap ∧ (∀ i, i < zs.length → w.cell? (x.add i) = some (.int k (zs.getD i 0))) ∧ ∀ n ∈ zs, (Lit.int k n).wf = true

theorem IsRow.at {k : IntKind} {w : World} {a : Option Addr} {len cap : Nat} {zs : List Int} (h : IsRow k w a len cap zs) {j : Nat} (hj : j < len) :
    ∃ b o, a = some ⟨b, o, none⟩ ∧ w.cell? ⟨b, o + j, none⟩ = some (.int k (zs.getD j 0)) ∧ (Lit.int k (zs.getD j 0)).wf = true := by
  rcases h with ⟨_, h0, _⟩ | ⟨x, rfl, hl, _, hz, hc, hw⟩
  · omega
  · obtain ⟨b, o, rfl, hcc⟩ := ints_at hc (by omega)
    refine ⟨b, o, rfl, hcc j (by omega), ?_⟩
    have hj' : j < zs.length := by omega
    have e : zs.getD j 0 = zs[j] := by simp [hj']
    rw [e]
    exact hw _ (List.getElem_mem hj')
theorem IsRow.len {k : IntKind} {w : World} {a : Option Addr} {len cap : Nat} {zs : List Int} (h : IsRow k w a len cap zs) : len ≤ 9223372036854775807 ∧ len ≤ zs.length := by
  rcases h with ⟨_, rfl, _, rfl⟩ | ⟨x, rfl, hl, hm, hz, hc, hw⟩
  · exact ⟨by omega, by omega⟩
  · unfold maxLen at hm
    exact ⟨by omega, by omega⟩

theorem same {args : Array Value} {w : World} {x : Ending} (h : Calls Tryf.prog 3 args w fun e w' => e = x ∧ w' = w) : Calls Tryf.prog 3 args w fun e w' => e = x ∧ Below w.heap.size w w' :=
  h.mono fun e w' ⟨h1, h2⟩ => ⟨h1, by subst h2; exact Below.refl _ _⟩

theorem law_any (a0 a1 a2 a3 a4 a5 : Int) (a6 : Option Addr) (len6 cap6 : Nat) (z6 : List Int) (a7 : Int) (a8 : Option Addr) (len8 cap8 : Nat) (z8 : List Int) (a9 : Option Addr) (len9 cap9 : Nat) (z9 : List Int) (a10 : Option Addr) (len10 cap10 : Nat) (z10 : List Int) (w : World)
    (w3 : (Lit.int .u8 a3).wf = true) (w4 : (Lit.int .u64 a4).wf = true) (w5 : (Lit.int .u64 a5).wf = true) (w6 : IsRow .u64 w a6 len6 cap6 z6) (w7 : (Lit.int .u32 a7).wf = true) (w8 : IsRow .i64 w a8 len8 cap8 z8) (w9 : IsRow .u8 w a9 len9 cap9 z9) (w10 : IsRow .u32 w a10 len10 cap10 z10) :
    Calls Tryf.prog 3 #[.int .i64 a0, .int .i64 a1, .int .i64 a2, .int .u8 a3, .int .u64 a4, .int .u64 a5, .slice a6 len6 cap6, .int .u32 a7, .slice a8 len8 cap8, .slice a9 len9 cap9, .slice a10 len10 cap10] w fun e w' => e = .returned (.bool true) ∧ Below w.heap.size w w' := by
  have q3 := bounds_u8 w3
  have q4 := bounds_u64 w4
  have q5 := bounds_u64 w5
  have q7 := bounds_u32 w7
  obtain ⟨i, rfl⟩ : ∃ x : Nat, a3 = x := ⟨a3.toNat, by omega⟩
  obtain ⟨p, rfl⟩ : ∃ x : Nat, a4 = x := ⟨a4.toNat, by omega⟩
  obtain ⟨r, rfl⟩ : ∃ x : Nat, a5 = x := ⟨a5.toNat, by omega⟩
  obtain ⟨rd, rfl⟩ : ∃ x : Nat, a7 = x := ⟨a7.toNat, by omega⟩
  obtain ⟨l6, y6⟩ := w6.len
  obtain ⟨l8, _⟩ := w8.len
  obtain ⟨l9, _⟩ := w9.len
  obtain ⟨l10, _⟩ := w10.len
  have HP64 : Hid (p < 18446744073709551616) := by show p < 18446744073709551616; omega
  by_cases hby : 1048576 < len6 + len8 + len9 + len10
  · exact same (e_a a0 a1 a2 i p r rd len6 cap6 len8 cap8 len9 cap9 len10 cap10 a6 a8 a9 a10 w l6 l8 l9 l10 hby)
  have hby' : len6 + len8 + len9 + len10 ≤ 1048576 := by omega
  by_cases h1 : 65536 < len6
  · exact same (e_b1 a0 a1 a2 i p r rd len6 cap6 len8 cap8 len9 cap9 len10 cap10 a6 a8 a9 a10 w hby' h1)
  have h1' : len6 ≤ 65536 := by omega
  by_cases h2 : 16384 < len8
  · exact same (e_b2 a0 a1 a2 i p r rd len6 cap6 len8 cap8 len9 cap9 len10 cap10 a6 a8 a9 a10 w hby' h1' h2)
  have h2' : len8 ≤ 16384 := by omega
  by_cases h3 : 16384 < len9
  · exact same (e_b3 a0 a1 a2 i p r rd len6 cap6 len8 cap8 len9 cap9 len10 cap10 a6 a8 a9 a10 w hby' h1' h2' h3)
  have h3' : len9 ≤ 16384 := by omega
  by_cases h4 : 16384 < len10
  · exact same (e_b4 a0 a1 a2 i p r rd len6 cap6 len8 cap8 len9 cap9 len10 cap10 a6 a8 a9 a10 w hby' h1' h2' h3' h4)
  have h4' : len10 ≤ 16384 := by omega
  by_cases n1 : a1 < 1
  · exact same (e_c1 a0 a1 a2 i p r rd len6 cap6 len8 cap8 len9 cap9 len10 cap10 a6 a8 a9 a10 w hby' h1' h2' h3' h4' n1)
  by_cases n2 : 65536 < a1
  · exact same (e_c2 a0 a1 a2 i p r rd len6 cap6 len8 cap8 len9 cap9 len10 cap10 a6 a8 a9 a10 w hby' h1' h2' h3' h4' n2)
  obtain ⟨n, rfl⟩ : ∃ x : Nat, a1 = x := ⟨a1.toNat, by omega⟩
  have hn1 : 1 ≤ n := by omega
  have hn : n ≤ 65536 := by omega
  by_cases t1 : a2 < 0
  · exact same (e_d1 a0 n a2 i p r rd len6 cap6 len8 cap8 len9 cap9 len10 cap10 a6 a8 a9 a10 w hby' h1' h2' h3' h4' hn1 hn HP64 t1)
  obtain ⟨t, rfl⟩ : ∃ x : Nat, a2 = x := ⟨a2.toNat, by omega⟩
  by_cases t2 : n ≤ 10 * t
  · exact same (e_d2 a0 n t i p r rd len6 cap6 len8 cap8 len9 cap9 len10 cap10 a6 a8 a9 a10 w hby' h1' h2' h3' h4' hn1 hn HP64 t2)
  have ht : 10 * t < n := by omega
  by_cases i1 : 1 < i
  · exact same (e_d3 a0 n t i p r rd len6 cap6 len8 cap8 len9 cap9 len10 cap10 a6 a8 a9 a10 w hby' h1' h2' h3' h4' hn1 hn HP64 ht i1)
  have hi : i ≤ 1 := by omega
  by_cases d1 : a0 < 1
  · exact same (e_d4 a0 n t i p r rd len6 cap6 len8 cap8 len9 cap9 len10 cap10 a6 a8 a9 a10 w hby' h1' h2' h3' h4' hn1 hn HP64 ht hi d1)
  by_cases d2 : (n : Int) < a0
  · exact same (e_d5 a0 n t i p r rd len6 cap6 len8 cap8 len9 cap9 len10 cap10 a6 a8 a9 a10 w hby' h1' h2' h3' h4' hn1 hn HP64 ht hi (by omega) d2)
  obtain ⟨id, rfl⟩ : ∃ x : Nat, a0 = x := ⟨a0.toNat, by omega⟩
  have hid1 : 1 ≤ id := by omega
  have hidn : id ≤ n := by omega
  by_cases p1 : p ≤ n
  · exact same (e_d6 id n t i p r rd len6 cap6 len8 cap8 len9 cap9 len10 cap10 a6 a8 a9 a10 w hby' h1' h2' h3' h4' hn1 hn HP64 ht hi hid1 hidn p1)
  have hnp : n < p := by omega
  by_cases s1 : len6 < 1
  · exact same (e_f id n t i p r rd len6 cap6 len8 cap8 len9 cap9 len10 cap10 a6 a8 a9 a10 w hby' h1' h2' h3' h4' hn1 hn HP64 ht hi hid1 hidn hnp s1)
  have hsl1 : 1 ≤ len6 := by omega
  obtain ⟨sb, so, ha6, _, _⟩ := w6.at (j := 0) (by omega)
  have HZL : Hid (len6 ≤ (z6.map Int.toNat).length) := by show len6 ≤ (z6.map Int.toNat).length; rw [List.length_map]; exact y6
  have HZ : Hid (∀ j, j < len6 → w.cell? ⟨sb, so + j, none⟩ = some (.int .u64 (((z6.map Int.toNat).getD j 0 : Nat) : Int))) := fun j hj => by
    obtain ⟨b, o, e, hc, hw⟩ := w6.at hj
    rw [ha6] at e
    simp at e
    obtain ⟨rfl, rfl⟩ := e
    rw [hc]
    have hb := bounds_u64 hw
    have hj' : j < z6.length := by omega
    simp [hj'] at hb ⊢
    omega
  subst ha6
  by_cases g1 : len9 = len8
  · by_cases g2 : len10 = len8
    · subst g1 g2
      refine law_good id n t i p r rd sb so len6 cap6 len10 cap8 cap9 cap10 a8 a9 a10 (z6.map Int.toNat) (fun j => (z9.getD j 0).toNat) (fun j => (z10.getD j 0).toNat) (fun j => z8.getD j 0) w hn1 hn ht hi hid1 hidn hnp HP64 hsl1 h1' h2' (by omega) HZL HZ ?_ ?_ ?_
      · intro j hj
        obtain ⟨b, o, e, hc, _⟩ := w8.at hj
        exact ⟨b, o, e, hc⟩
      · intro j hj
        obtain ⟨b, o, e, hc, hw⟩ := w9.at hj
        have hb := bounds_u8 hw
        refine ⟨b, o, e, ?_⟩
        rw [hc]
        have : (((z9.getD j 0).toNat : Nat) : Int) = z9.getD j 0 := by omega
        rw [this]
      · intro j hj
        obtain ⟨b, o, e, hc, hw⟩ := w10.at hj
        have hb := bounds_u32 hw
        refine ⟨b, o, e, ?_, by omega⟩
        rw [hc]
        have : (((z10.getD j 0).toNat : Nat) : Int) = z10.getD j 0 := by omega
        rw [this]
    · exact same (e_g2 id n t i p r rd len6 cap6 len8 cap8 len9 cap9 len10 cap10 sb so (z6.map Int.toNat) a8 a9 a10 w hby' h1' h2' h3' h4' hn1 hn HP64 ht hi hid1 hidn hnp hsl1 HZL HZ (by simp [g1]) (by simp; omega))
  · exact same (e_g1 id n t i p r rd len6 cap6 len8 cap8 len9 cap9 len10 cap10 sb so (z6.map Int.toNat) a8 a9 a10 w hby' h1' h2' h3' h4' hn1 hn HP64 ht hi hid1 hidn hnp hsl1 HZL HZ (by simp; omega))

end Go.Proofs.Qxb6609496aFmt
