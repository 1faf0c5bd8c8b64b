/- The second loop, a round: oth, a counted share, value 2. -/
import Derived.Test.Qxb6609496aFmtR2End
namespace Go.Proofs.Qxb6609496aFmt
open Go.RowKit
set_option linter.unusedVariables false

set_option maxRecDepth 1000000 in
set_option maxHeartbeats 4000000 in
theorem r2_b2 (B rb mb Sb id n t rd wd fl fc ec vc : Nat) (w0 : World) (c3 c4 c5 c6 c11 c12 c13 c14 c15 c16 c17 c18 c19 c20 c21 c22 c23 c25 c31 c32 c34 c35 c36 c37 c38 c39 c40 c41 c42 c43 c44 c45 c46 c47 c48 c49 c50 c51 c52 c53 c54 c55 c56 c57 c58 c59 c60 c61 c62 c63 c64 c65 c66 c67 c68 c69 c70 c71 c72 c73 c74 c75 c76 c77 c78 c79 c80 c81 c82 c83 c84 c85 c86 c87 c88 c89 c90 c91 c92 c93 c94 c95 c96 c97 c98 c99 c100 c101 c102 c103 c104 c105 c106 c107 c108 c109 c110 c111 c112 c113 c114 c115 c116 c117 c118 c119 c120 c121 c122 c123 c124 c125 c126 c127 c128 c129 c130 c131 c132 c133 c134 c135 c136 c137 c138 c139 c140 c141 c142 c143 c144 c145 c146 c147 c148 c149 c150 c151 c152 c153 c154 c155 c156 c157 c158 c159 c160 c161 c162 c163 c164 c165 c166 c167 c168 c169 c170 c171 c172 c173 c174 c175 c176 c177 c178 c179 c180 c181 c182 c183 c184 c185 c186 c187 c188 c189 c190 c191 c192 c193 c194 c195 c196 c197 c198 c199 c200 c201 c202 c203 c204 c205 c206 c207 c208 c209 c210 c211 c212 c213 c214 c215 c216 c217 c218 c219 c220 c221 c222 c223 c224 c225 c226 c227 c228 c229 c230 c231 c232 c233 c234 c235 c236 c237 c238 c239 c240 c241 c242 c243 c244 c245 c246 c247 c248 c249 c250 c251 c252 c253 c254 c255 c256 c257 c258 c259 c260 c261 c262 c263 c264 c265 c266 c267 c268 c269 c270 c271 c272 c273 c274 c275 c276 c277 c278 c279 c280 c281 c282 c283 c284 c285 c286 c287 c288 c289 c290 c291 c292 c293 c294 c295 c296 c297 c298 c299 c300 c301 c302 c303 c304 c305 c306 c307 c308 c309 c310 c311 c312 c313 c314 c315 c316 c317 c318 c319 c320 c321 c322 c323 c324 c325 c326 c327 c328 c329 c330 c331 c332 c333 c334 c335 c336 c337 c338 c339 c340 c341 c342 c343 c344 c345 c346 c347 c348 c349 c350 c351 c352 c353 c354 c355 c356 c357 c358 c359 c360 c361 c362 c363 c364 c365 c366 c367 c368 c369 c370 c371 c372 c373 c374 c375 c376 c377 c378 c379 c380 c381 c382 c383 c384 c385 c386 c387 c388 c389 c390 c391 c392 c393 c394 c395 c396 c397 c398 c399 c400 c401 c402 c403 c404 c405 c406 c407 c408 c409 c410 c411 c412 : Value) (k fb fo eb eo vb vo e f v M : Nat) (w : World) (fp : List Nat) (S : St) (K : Act → World → Prop) (Q0 : Exit → Act → World → Prop)
    (HK : Hid (∀ a W, WI2 B rb mb Sb id n t rd wd fl fc ec vc w0 (some ⟨fb, fo, none⟩) (some ⟨eb, eo, none⟩) (some ⟨vb, vo, none⟩) c3 c4 c5 c6 c11 c12 c13 c14 c15 c16 c17 c18 c19 c20 c21 c22 c23 c25 c38 c39 c40 c41 c42 c43 c44 c45 c46 c47 c48 c49 c50 c51 c52 c53 c54 c55 c56 c57 c58 c59 c60 c61 c62 c63 c64 c65 c66 c67 c68 c69 c70 c71 c72 c73 c74 c75 c76 c77 c78 c79 c80 c81 c82 c83 c84 c85 c86 c87 c88 c89 c90 c91 c92 c93 c94 c95 c96 c97 c98 c99 c100 c101 c102 c103 c104 c105 c106 c107 c108 c109 c110 c111 c112 c113 c114 c115 c116 c117 c118 c119 c120 c121 c122 c123 c124 c125 c126 c127 c128 c129 c130 c131 c132 c133 c134 c135 c136 c137 c138 c139 c140 c141 c142 c143 c144 c145 c146 c147 c148 c149 c150 c151 c152 c153 c154 c155 c156 c157 c158 c159 c160 c161 c162 c163 c164 c165 c166 c167 c168 c169 c170 c171 c172 c173 c174 c175 c176 c177 c178 c179 c180 c181 c182 c183 c184 c185 c186 c187 c188 c189 c190 c191 c192 c193 c194 c195 c196 c197 c313 c314 c315 c316 c317 c318 c319 c320 c321 c322 c323 c324 c325 c326 c327 c328 c329 c330 c331 c332 c333 c334 c335 c336 c337 c338 c339 c340 c341 c342 c343 c344 c345 c346 c347 c348 c349 c350 c351 c352 c353 c354 c355 c356 c357 c358 c359 c360 c361 c362 c363 c364 c365 c366 c367 c368 c369 c370 c371 c372 c373 c374 c375 c376 c377 c378 c379 c380 c381 c382 c383 c384 c385 c386 c387 c388 c389 c390 c391 c392 c393 c394 c395 c396 c397 c398 c399 c400 c401 c402 c403 c404 c405 c406 c407 c408 c409 c410 c411 c412 (k + 1) a W → K a W))
    (HI : Hid (Inv B rb mb Sb id n t rd wd w0 w c31 c32 k fp S)) (hk : k < fl) (hfl : fl ≤ 16384) (hn : n ≤ 65536) (ht : t < n) (hid1 : 1 ≤ id) (hidn : id ≤ n) (hrd : rd < 4294967296) (hwd : wd ≤ 1024) (hwd1 : 1 ≤ wd) (HWd : Hid (∀ f, f ≤ n → (f - 1) / 64 < wd))
    (HW : Hid (∀ w : World, Calls Tryf.prog 34 #[.int .i64 n] w fun e w' => e = .returned (.int .i64 (wd : Int)) ∧ w' = w))
    (HA : Hid (fb < B ∧ eb < B ∧ vb < B)) (HM : Hid (M = e * (n + 1))) (hM : (e : Int) * ((n : Int) + 1) = (M : Int)) (hMf : M + f < 3 * (n + 1)) (he : e < 3) (hf1 : 1 ≤ f) (hfn : f ≤ n) (hv : v < 4294967296)
    (cF : w.cell? ⟨fb, fo + k, none⟩ = some (.int .i64 (f : Int))) (cE : w.cell? ⟨eb, eo + k, none⟩ = some (.int .u8 ((e : Int) + 1))) (cV : w.cell? ⟨vb, vo + k, none⟩ = some (.int .u32 (v : Int)))
    (hid : ((f : Int) == (id : Int)) = false) (he2 : ((e : Int) == 2) = true) (hs : S.seen e f = false) (hq : S.oth e < t) (ha : ((v : Int) == 0) = false) (hb : ((v : Int) == 1) = false) :
    Code.wp Tryf.prog body2 (Exit.then K Q0) ⟨#[.int .i64 (id : Int), .int .i64 (n : Int), .int .i64 (t : Int), c3, c4, c5, c6, .int .u32 (rd : Int), .slice (some ⟨fb, fo, none⟩) fl fc, .slice (some ⟨eb, eo, none⟩) fl ec, .slice (some ⟨vb, vo, none⟩) fl vc, c11, c12, c13, c14, c15, c16, c17, c18, c19, c20, c21, c22, c23, .pointer (some ⟨rb, 0, none⟩), c25, .slice (some ⟨Sb, 0, none⟩) (3 * (n + 1)) (3 * (n + 1)), .pointer (some ⟨Sb + 1, 0, none⟩), .pointer (some ⟨Sb + 2, 0, none⟩), .pointer (some ⟨Sb + 3, 0, none⟩), .pointer (some ⟨Sb + 4, 0, none⟩), c31, c32, .int .i64 (k : Int), c34, c35, c36, c37, c38, c39, c40, c41, c42, c43, c44, c45, c46, c47, c48, c49, c50, c51, c52, c53, c54, c55, c56, c57, c58, c59, c60, c61, c62, c63, c64, c65, c66, c67, c68, c69, c70, c71, c72, c73, c74, c75, c76, c77, c78, c79, c80, c81, c82, c83, c84, c85, c86, c87, c88, c89, c90, c91, c92, c93, c94, c95, c96, c97, c98, c99, c100, c101, c102, c103, c104, c105, c106, c107, c108, c109, c110, c111, c112, c113, c114, c115, c116, c117, c118, c119, c120, c121, c122, c123, c124, c125, c126, c127, c128, c129, c130, c131, c132, c133, c134, c135, c136, c137, c138, c139, c140, c141, c142, c143, c144, c145, c146, c147, c148, c149, c150, c151, c152, c153, c154, c155, c156, c157, c158, c159, c160, c161, c162, c163, c164, c165, c166, c167, c168, c169, c170, c171, c172, c173, c174, c175, c176, c177, c178, c179, c180, c181, c182, c183, c184, c185, c186, c187, c188, c189, c190, c191, c192, c193, c194, c195, c196, c197, c198, c199, c200, c201, c202, c203, c204, c205, c206, c207, c208, c209, c210, c211, c212, c213, c214, c215, c216, c217, c218, c219, c220, c221, c222, c223, c224, c225, c226, c227, c228, c229, c230, c231, c232, c233, c234, c235, c236, c237, c238, c239, c240, c241, c242, c243, c244, c245, c246, c247, c248, c249, c250, c251, c252, c253, c254, c255, c256, c257, c258, c259, c260, c261, c262, c263, c264, c265, c266, c267, c268, c269, c270, c271, c272, c273, c274, c275, c276, c277, c278, c279, c280, c281, c282, c283, c284, c285, c286, c287, c288, c289, c290, c291, c292, c293, c294, c295, c296, c297, c298, c299, c300, c301, c302, c303, c304, c305, c306, c307, c308, c309, c310, c311, c312, c313, c314, c315, c316, c317, c318, c319, c320, c321, c322, c323, c324, c325, c326, c327, c328, c329, c330, c331, c332, c333, c334, c335, c336, c337, c338, c339, c340, c341, c342, c343, c344, c345, c346, c347, c348, c349, c350, c351, c352, c353, c354, c355, c356, c357, c358, c359, c360, c361, c362, c363, c364, c365, c366, c367, c368, c369, c370, c371, c372, c373, c374, c375, c376, c377, c378, c379, c380, c381, c382, c383, c384, c385, c386, c387, c388, c389, c390, c391, c392, c393, c394, c395, c396, c397, c398, c399, c400, c401, c402, c403, c404, c405, c406, c407, c408, c409, c410, c411, c412], []⟩ w := by
  have HB : Hid (B ≤ w.heap.size) := by have := HI.out.lo; have := HI.out.top; show B ≤ w.heap.size; omega
  have hi : Hid (f ≠ id) := by have := hid; simp at this; show f ≠ id; omega
  have h2 : Hid (e = 2) := by have := he2; simp at this; show e = 2; omega
  have cS : w.cell? ⟨Sb, M + f, none⟩ = some (.bool false) := by rw [HM.out, ← hs]; exact HI.out.li.sn e he f hfn
  have cO : w.cell? ⟨Sb + 1, e, none⟩ = some (.int .i64 (S.oth e : Int)) := HI.out.li.ot e he
  have hq1 : (S.oth e : Int) < (t : Int) := by have := hq; omega
  have q2 : qu n t e = t + 1 := by simp [qu, h2.out]
  have HC : Hid (counted S id n t e f = true) := by show counted S id n t e f = _; simp [counted, hi.out, hs, q2]; omega
  clear q2
  conv => arg 2; whnf
  go_wp2_with fail
  go_region_held3 (fun w' => w'.cell? ⟨eb, eo + k, none⟩ = some (.int .u8 ((e : Int) + 1)) ∧ w'.cell? ⟨vb, vo + k, none⟩ = some (.int .u32 (v : Int))) (go_keep)
    (first | (go_at_call 12; refine (zzcount_any (e := e) (f := f) (v := v) (HI.out.rab.keep ?_) HI.out.ok (by omega) hrd he hwd hwd1 HWd.out HW hn ht hf1 hfn hid1 hidn hv ?_).mono ?_; (intro _ _; rfl); (exact HB.out); rintro e' w1 ⟨rfl, fp', hR', hS'⟩; have HS : Hid (Step w w1 mb fp fp') := ⟨hS'.os, hS'.tape, hS'.output, hS'.size, hS'.blk, hS'.fp⟩; have dV : w1.cell? ⟨vb, vo + k, none⟩ = some (.int .u32 (v : Int)) := (HI.out.arg HS.out HA.out.2.2).trans ((World.cell?_of_block (a := ⟨vb, vo + k, none⟩) (HI.out.bel.block vb HA.out.2.2)).symm.trans cV); have dE : w1.cell? ⟨eb, eo + k, none⟩ = some (.int .u8 ((e : Int) + 1)) := (HI.out.arg HS.out HA.out.2.1).trans ((World.cell?_of_block (a := ⟨eb, eo + k, none⟩) (HI.out.bel.block eb HA.out.2.1)).symm.trans cE)))
  have HR : Hid (Rab w1 rb mb id n t rd wd B fp' (step S id n t e f v)) := hR'
  clear hS' hR'
  have HL : Hid (LI w1 Sb n B S.seen (fun e => S.seen e id) S.oth S.v0 S.v1 c31 c32 S.pts) := HI.out.li1 HS.out
  have dS : w1.cell? ⟨Sb, M + f, none⟩ = some (.bool (S.seen e f)) := by rw [HM.out]; exact HL.out.sn e he f hfn
  have dO : w1.cell? ⟨Sb + 1, e, none⟩ = some (.int .i64 (S.oth e : Int)) := HL.out.ot e he
  have dW : w1.cell? ⟨Sb + 2, e, none⟩ = some (.bool (S.seen e id)) := HL.out.ow e he
  have d0 : w1.cell? ⟨Sb + 3, e, none⟩ = some (.int .i64 (S.v0 e : Int)) := HL.out.a0 e he
  have d1 : w1.cell? ⟨Sb + 4, e, none⟩ = some (.int .i64 (S.v1 e : Int)) := HL.out.a1 e he
  have zS : w1.frozen? ⟨Sb, M + f, none⟩ = false := HL.out.fz _ _ (by omega) (by omega)
  have zO : w1.frozen? ⟨Sb + 1, e, none⟩ = false := HL.out.fz _ _ (by omega) (by omega)
  have zW : w1.frozen? ⟨Sb + 2, e, none⟩ = false := HL.out.fz _ _ (by omega) (by omega)
  have z0 : w1.frozen? ⟨Sb + 3, e, none⟩ = false := HL.out.fz _ _ (by omega) (by omega)
  have z1 : w1.frozen? ⟨Sb + 4, e, none⟩ = false := HL.out.fz _ _ (by omega) (by omega)
  have n0 : vb ≠ Sb := by have := HI.out.lo; have := HA.out.2.2; omega
  have n1 : vb ≠ Sb + 1 := by have := HI.out.lo; have := HA.out.2.2; omega
  have n2 : vb ≠ Sb + 2 := by have := HI.out.lo; have := HA.out.2.2; omega
  have n3 : vb ≠ Sb + 3 := by have := HI.out.lo; have := HA.out.2.2; omega
  have n4 : vb ≠ Sb + 4 := by have := HI.out.lo; have := HA.out.2.2; omega
  have b0 : S.oth e ≤ 16384 := by have := HI.out.ok.c e; omega
  have b1 : S.v0 e ≤ 16384 := by have := HI.out.ok.v0 e; omega
  have b2 : S.v1 e ≤ 16384 := by have := HI.out.ok.v1 e; omega
  clear cF cE cV
  clear cS cO
  obtain ⟨i0, hinf, hz0, hz1, hz2⟩ := info22'
  have r1 : IntKind.u64.wrap (f : Int) = (f : Int) := by rw [IntKind.wrap_u64]; omega
  have r2 : IntKind.u64.wrap (v : Int) = (v : Int) := by rw [IntKind.wrap_u64]; omega
  have hv0 : v ≠ 0 := by have := ha; simp at this; omega
  have hv1 : v ≠ 1 := by have := hb; simp at this; omega
  have HP : Hid (LI ((w1.setCell ⟨Sb, M + f, none⟩ (.bool true)).setCell ⟨Sb + 1, e, none⟩ (.int .i64 ((S.oth e : Int) + 1))) Sb n B (took S id e f v).seen (fun e' => (took S id e f v).seen e' id) (took S id e f v).oth (took S id e f v).v0 (took S id e f v).v1 c31 c32 S.pts) := (end_v2 (end_other (v := v) (M := M) HL.out HM.out he hfn hi.out) hv0 hv1)
  have HX : Hid (Lx Sb c31 c32 w1 ((w1.setCell ⟨Sb, M + f, none⟩ (.bool true)).setCell ⟨Sb + 1, e, none⟩ (.int .i64 ((S.oth e : Int) + 1)))) := (((Lx.refl Sb c31 c32 w1).set (a := ⟨Sb, M + f, none⟩) (by show Sb ≤ Sb; omega) (by show Sb < Sb + 5; omega) _).set (a := ⟨Sb + 1, e, none⟩) (by show Sb ≤ Sb + 1; omega) (by show Sb + 1 < Sb + 5; omega) _)
  clear hv0 hv1
  have hWz : ((w1.setCell ⟨Sb, M + f, none⟩ (.bool true)).setCell ⟨Sb + 1, e, none⟩ (.int .i64 ((S.oth e : Int) + 1))).heap.size = w1.heap.size := by simp [World.setCell]
  have HN : Hid ((((w1.setCell ⟨Sb, M + f, none⟩ (.bool true)).setCell ⟨Sb + 1, e, none⟩ (.int .i64 ((S.oth e : Int) + 1))).alloc (.cells #[.int .u64 (f : Int)] 22)).heap[w1.heap.size]? = some (.cells #[.int .u64 (f : Int)] 22 (0, 0))) := by
    have h := heap_alloc_last ((w1.setCell ⟨Sb, M + f, none⟩ (.bool true)).setCell ⟨Sb + 1, e, none⟩ (.int .i64 ((S.oth e : Int) + 1))) (.cells #[.int .u64 (f : Int)] 22)
    rw [hWz] at h; exact h
  have HZ : Hid ((((w1.setCell ⟨Sb, M + f, none⟩ (.bool true)).setCell ⟨Sb + 1, e, none⟩ (.int .i64 ((S.oth e : Int) + 1))).alloc (.cells #[.int .u64 (f : Int)] 22)).heap.size = w1.heap.size + 1) := by show (((w1.setCell ⟨Sb, M + f, none⟩ (.bool true)).setCell ⟨Sb + 1, e, none⟩ (.int .i64 ((S.oth e : Int) + 1))).alloc (.cells #[.int .u64 (f : Int)] 22)).heap.size = w1.heap.size + 1; rw [World.size_alloc, hWz]
  have HB1 : Hid (B ≤ w1.heap.size) := Nat.le_trans HB.out HS.out.size
  have HBa : Hid (B ≤ (((w1.setCell ⟨Sb, M + f, none⟩ (.bool true)).setCell ⟨Sb + 1, e, none⟩ (.int .i64 ((S.oth e : Int) + 1))).alloc (.cells #[.int .u64 (f : Int)] 22)).heap.size) := Nat.le_trans HB1.out (by rw [HZ.out]; omega)
  have HO : Hid ((((w1.setCell ⟨Sb, M + f, none⟩ (.bool true)).setCell ⟨Sb + 1, e, none⟩ (.int .i64 ((S.oth e : Int) + 1))).alloc (.cells #[.int .u64 (f : Int)] 22)).ownsRow B 22 1 c31 S.pts.length (xCells S.pts)) := row_keep HP.out.rx (fun k q => Below.heap_alloc _ _ k (HP.out.rx.lt k q).2)
  have HY : Hid (∀ w3 : World, (((w1.setCell ⟨Sb, M + f, none⟩ (.bool true)).setCell ⟨Sb + 1, e, none⟩ (.int .i64 ((S.oth e : Int) + 1))).alloc (.cells #[.int .u64 (f : Int)] 22)).grownBy w3 c31.ownBlock → (w3.alloc (.cells #[.int .u64 (v : Int)] 22)).ownsRow B 22 1 c32 S.pts.length (yCells S.pts) ∧ B ≤ (w3.alloc (.cells #[.int .u64 (v : Int)] 22)).heap.size ∧ w3.cell? ⟨vb, vo + k, none⟩ = some (.int .u32 (v : Int))) := fun w3 hg => by
    have g1 := hg.size
    rw [HZ.out] at g1
    have k1 : ∀ k, k < w1.heap.size → c31.ownBlock ≠ some k → w3.heap[k]? = ((w1.setCell ⟨Sb, M + f, none⟩ (.bool true)).setCell ⟨Sb + 1, e, none⟩ (.int .i64 ((S.oth e : Int) + 1))).heap[k]? := fun k hk q => (hg.block k (by rw [HZ.out]; omega) (fun a => q a.symm)).trans (Below.heap_alloc _ _ k (by rw [hWz]; exact hk))
    have hvw : vb < w1.heap.size := lt_of_cell dV
    have hvx : c31.ownBlock ≠ some vb := fun q => by have := (HP.out.bx vb q).1; have := HI.out.lo; have := HA.out.2.2; omega
    refine ⟨row_keep HP.out.ry (fun k q => ?_), by have := HB1.out; simp only [World.size_alloc]; omega, ?_⟩
    · have hk := (HP.out.ry.lt k q).2
      rw [hWz] at hk
      exact (Below.heap_alloc w3 _ k (by omega)).trans (k1 k hk (fun a => (HP.out.bx k a).2 q))
    · refine (World.cell?_of_block (a := ⟨vb, vo + k, none⟩) ((k1 vb hvw hvx).trans (HX.out.blk vb hvw (by have := HI.out.lo; have := HA.out.2.2; omega) hvx (fun q => by have := HP.out.bY vb q; have := HI.out.lo; have := HA.out.2.2; omega)))).trans dV
  have S12 : Hid (S.pts.length + 1 ≤ maxLen ∧ (S.pts.length + 1) * 8 ≤ 140737488355328) := by
    have := HI.out.ok.p
    exact ⟨by unfold maxLen; omega, by omega⟩
  clear hWz
  go_wp2_with (first
    | (at_builtin; refine wpList_append_lies _ (by rfl) (.tmp 300) (.tmp 303) 23 (by rfl) B 22 i0 (.int .u64 0) 1 8 Tryf.underlying23 hinf hz0 hz1 hz2 rfl (by decide) c31 S.pts.length (xCells S.pts) (by rfl) HO.out ⟨w1.heap.size, 0, none⟩ 1 1 [.int .u64 (f : Int)] (by rfl) rfl (World.news_of_block (cs := #[.int .u64 (f : Int)]) HN.out) (by simp [Value.oneCell']) (by decide) S12.out.1 S12.out.2 HBa.out (w1.heap.size + 1) HZ.out ?_; intro g cap w3 ox hx ax gl; obtain ⟨qy, qb, qV⟩ := HY.out w3 hx)
    | (at_builtin; refine wpList_append_lies _ (by rfl) (.tmp 305) (.tmp 311) 23 (by rfl) B 22 i0 (.int .u64 0) 1 8 Tryf.underlying23 hinf hz0 hz1 hz2 rfl (by decide) c32 S.pts.length (yCells S.pts) (by rfl) qy ⟨w3.heap.size, 0, none⟩ 1 1 [.int .u64 (v : Int)] (by rfl) rfl (World.news_of_block (cs := #[.int .u64 (v : Int)]) (heap_alloc_last w3 _)) (by simp [Value.oneCell']) (by decide) S12.out.1 S12.out.2 qb (w3.heap.size + 1) (World.size_alloc _ _) ?_; intro g' cap' w5 oy hy ay gl')
    | go_in)
  refine HK.out _ _ ?_; unfold WI2; refine ⟨_, _, _, _, _, _, _, _, _, _, _, _, _, _, _, _, _, _, _, _, _, _, _, _, _, _, _, _, _, _, _, _, _, _, _, _, _, _, _, _, _, _, _, _, _, _, _, _, _, _, _, _, _, _, _, _, _, _, _, _, _, _, _, _, _, _, _, _, _, _, _, _, _, _, _, _, _, _, _, _, _, _, _, _, _, _, _, _, _, _, _, _, _, _, _, _, _, _, _, _, _, _, _, _, _, _, _, _, _, _, _, _, _, _, _, _, _, _, _, _, _, ?_, rfl⟩
  exact HI.out.point hwd1 HR.out HS.out HC.out h2.out (by omega) hv HP.out HX.out hx ox (ax.imp (fun a => a) (fun a => a.trans (by simp [World.setCell]))) gl hy oy ay


end Go.Proofs.Qxb6609496aFmt
