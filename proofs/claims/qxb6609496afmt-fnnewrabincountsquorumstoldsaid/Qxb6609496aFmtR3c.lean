/- The third loop, a round: own 1, lottery 1. -/
import Derived.Test.Qxb6609496aFmtWi3
namespace Go.Proofs.Qxb6609496aFmt
open Go.RowKit
set_option linter.unusedVariables false

set_option maxRecDepth 1000000 in
set_option maxHeartbeats 4000000 in
theorem r3_c (B rb mb Sb id n t rd wd L cx cy K0 : Nat) (xa ya : Option Addr) (w0 : World) (c3 c4 c5 c6 c8 c9 c10 c11 c12 c13 c14 c15 c16 c17 c18 c19 c20 c21 c22 c23 c25 c33 c34 c35 c36 c37 c47 c48 c49 c50 c51 c52 c53 c54 c55 c56 c57 c58 c59 c60 c61 c62 c63 c64 c65 c66 c67 c68 c69 c70 c71 c72 c73 c74 c75 c76 c77 c78 c79 c80 c81 c82 c83 c84 c85 c86 c87 c88 c89 c90 c91 c92 c93 c94 c95 c96 c97 c98 c99 c100 c101 c102 c103 c104 c105 c106 c107 c108 c109 c110 c111 c112 c113 c114 c115 c116 c117 c118 c119 c120 c121 c122 c123 c124 c125 c126 c127 c128 c129 c130 c131 c132 c133 c134 c135 c136 c137 c138 c139 c140 c141 c142 c143 c144 c145 c146 c147 c148 c149 c150 c151 c152 c153 c154 c155 c156 c157 c158 c159 c160 c161 c162 c163 c164 c165 c166 c167 c168 c169 c170 c171 c172 c173 c174 c175 c176 c177 c178 c179 c180 c181 c182 c183 c184 c185 c186 c187 c188 c189 c190 c191 c192 c193 c194 c195 c196 c197 c198 c199 c200 c201 c202 c203 c204 c205 c206 c207 c208 c209 c210 c211 c212 c213 c214 c215 c216 c217 c218 c219 c220 c221 c222 c223 c224 c225 c226 c227 c228 c229 c230 c231 c232 c233 c234 c235 c236 c237 c238 c239 c240 c241 c242 c243 c244 c245 c246 c247 c248 c249 c250 c251 c252 c253 c254 c255 c256 c257 c258 c259 c260 c261 c262 c263 c264 c265 c266 c267 c268 c269 c270 c271 c272 c273 c274 c275 c276 c277 c278 c279 c280 c281 c282 c283 c284 c285 c286 c287 c288 c289 c290 c291 c292 c293 c294 c295 c296 c297 c298 c299 c300 c301 c302 c303 c304 c305 c306 c307 c308 c309 c310 c311 c312 c39 c40 c41 c42 c43 c44 c45 c46 c313 c314 c315 c316 c317 c318 c319 c320 c321 c322 c323 c324 c325 c326 c327 c328 c329 c330 c331 c332 c333 c334 c335 c336 c337 c338 c339 c340 c341 c342 c343 c344 c345 c346 c347 c348 c349 c350 c351 c352 c353 c354 c355 c356 c357 c358 c359 c360 c361 c362 c363 c364 c365 c366 c367 c368 c369 c370 c371 c372 c373 c374 c375 c376 c377 c378 c379 c380 c381 c382 c383 c384 c385 c386 c387 c388 c389 c390 c391 c392 c393 c394 c395 c396 c397 c398 c399 c400 c401 c402 c403 c404 c405 c406 c407 c408 c409 c410 c411 c412 : Value) (e : Nat) (w : World) (fp : List Nat) (S : St) (K : Act → World → Prop) (Q0 : Exit → Act → World → Prop)
    (HK : Hid (∀ a W, WI3 B rb mb Sb id n t rd wd L cx cy K0 xa ya w0 c3 c4 c5 c6 c8 c9 c10 c11 c12 c13 c14 c15 c16 c17 c18 c19 c20 c21 c22 c23 c25 c33 c34 c35 c36 c37 c47 c48 c49 c50 c51 c52 c53 c54 c55 c56 c57 c58 c59 c60 c61 c62 c63 c64 c65 c66 c67 c68 c69 c70 c71 c72 c73 c74 c75 c76 c77 c78 c79 c80 c81 c82 c83 c84 c85 c86 c87 c88 c89 c90 c91 c92 c93 c94 c95 c96 c97 c98 c99 c100 c101 c102 c103 c104 c105 c106 c107 c108 c109 c110 c111 c112 c113 c114 c115 c116 c117 c118 c119 c120 c121 c122 c123 c124 c125 c126 c127 c128 c129 c130 c131 c132 c133 c134 c135 c136 c137 c138 c139 c140 c141 c142 c143 c144 c145 c146 c147 c148 c149 c150 c151 c152 c153 c154 c155 c156 c157 c158 c159 c160 c161 c162 c163 c164 c165 c166 c167 c168 c169 c170 c171 c172 c173 c174 c175 c176 c177 c178 c179 c180 c181 c182 c183 c184 c185 c186 c187 c188 c189 c190 c191 c192 c193 c194 c195 c196 c197 c198 c199 c200 c201 c202 c203 c204 c205 c206 c207 c208 c209 c210 c211 c212 c213 c214 c215 c216 c217 c218 c219 c220 c221 c222 c223 c224 c225 c226 c227 c228 c229 c230 c231 c232 c233 c234 c235 c236 c237 c238 c239 c240 c241 c242 c243 c244 c245 c246 c247 c248 c249 c250 c251 c252 c253 c254 c255 c256 c257 c258 c259 c260 c261 c262 c263 c264 c265 c266 c267 c268 c269 c270 c271 c272 c273 c274 c275 c276 c277 c278 c279 c280 c281 c282 c283 c284 c285 c286 c287 c288 c289 c290 c291 c292 c293 c294 c295 c296 c297 c298 c299 c300 c301 c302 c303 c304 c305 c306 c307 c308 c309 c310 c311 c312 (e + 1) a W → K a W)) (HLS : Hid (L = S.pts.length)) (HI : Hid (Inv B rb mb Sb id n t rd wd w0 w (.slice xa L cx) (.slice ya L cy) K0 fp S)) (hK0 : K0 ≤ 16384)
    (hn : n ≤ 65536) (hrd : rd < 4294967296) (hwd : wd ≤ 1024) (hwd1 : 1 ≤ wd) (HWd : Hid (∀ f, f ≤ n → (f - 1) / 64 < wd))
    (HW : Hid (∀ w : World, Calls Tryf.prog 34 #[.int .i64 n] w fun e w' => e = .returned (.int .i64 (wd : Int)) ∧ w' = w)) (he : e < 3)
    (he2 : ((e : Int) == 2) = true) (hs : S.seen e id = true) :
    Code.wp Tryf.prog body3 (Exit.then K Q0) ⟨#[.int .i64 (id : Int), .int .i64 (n : Int), .int .i64 (t : Int), c3, c4, c5, c6, .int .u32 (rd : Int), c8, c9, c10, c11, c12, c13, c14, c15, c16, c17, c18, c19, c20, c21, c22, c23, .pointer (some ⟨rb, 0, none⟩), c25, .slice (some ⟨Sb, 0, none⟩) (3 * (n + 1)) (3 * (n + 1)), .pointer (some ⟨Sb + 1, 0, none⟩), .pointer (some ⟨Sb + 2, 0, none⟩), .pointer (some ⟨Sb + 3, 0, none⟩), .pointer (some ⟨Sb + 4, 0, none⟩), .slice xa L cx, .slice ya L cy, c33, c34, c35, c36, c37, .int .i64 (e : Int), c39, c40, c41, c42, c43, c44, c45, c46, c47, c48, c49, c50, c51, c52, c53, c54, c55, c56, c57, c58, c59, c60, c61, c62, c63, c64, c65, c66, c67, c68, c69, c70, c71, c72, c73, c74, c75, c76, c77, c78, c79, c80, c81, c82, c83, c84, c85, c86, c87, c88, c89, c90, c91, c92, c93, c94, c95, c96, c97, c98, c99, c100, c101, c102, c103, c104, c105, c106, c107, c108, c109, c110, c111, c112, c113, c114, c115, c116, c117, c118, c119, c120, c121, c122, c123, c124, c125, c126, c127, c128, c129, c130, c131, c132, c133, c134, c135, c136, c137, c138, c139, c140, c141, c142, c143, c144, c145, c146, c147, c148, c149, c150, c151, c152, c153, c154, c155, c156, c157, c158, c159, c160, c161, c162, c163, c164, c165, c166, c167, c168, c169, c170, c171, c172, c173, c174, c175, c176, c177, c178, c179, c180, c181, c182, c183, c184, c185, c186, c187, c188, c189, c190, c191, c192, c193, c194, c195, c196, c197, c198, c199, c200, c201, c202, c203, c204, c205, c206, c207, c208, c209, c210, c211, c212, c213, c214, c215, c216, c217, c218, c219, c220, c221, c222, c223, c224, c225, c226, c227, c228, c229, c230, c231, c232, c233, c234, c235, c236, c237, c238, c239, c240, c241, c242, c243, c244, c245, c246, c247, c248, c249, c250, c251, c252, c253, c254, c255, c256, c257, c258, c259, c260, c261, c262, c263, c264, c265, c266, c267, c268, c269, c270, c271, c272, c273, c274, c275, c276, c277, c278, c279, c280, c281, c282, c283, c284, c285, c286, c287, c288, c289, c290, c291, c292, c293, c294, c295, c296, c297, c298, c299, c300, c301, c302, c303, c304, c305, c306, c307, c308, c309, c310, c311, c312, c313, c314, c315, c316, c317, c318, c319, c320, c321, c322, c323, c324, c325, c326, c327, c328, c329, c330, c331, c332, c333, c334, c335, c336, c337, c338, c339, c340, c341, c342, c343, c344, c345, c346, c347, c348, c349, c350, c351, c352, c353, c354, c355, c356, c357, c358, c359, c360, c361, c362, c363, c364, c365, c366, c367, c368, c369, c370, c371, c372, c373, c374, c375, c376, c377, c378, c379, c380, c381, c382, c383, c384, c385, c386, c387, c388, c389, c390, c391, c392, c393, c394, c395, c396, c397, c398, c399, c400, c401, c402, c403, c404, c405, c406, c407, c408, c409, c410, c411, c412], []⟩ w := by
  have h2 : Hid (e = 2) := by have := he2; simp at this; show e = 2; omega
  have r3 : IntKind.u8.wrap ((e : Int) + 1) = (e : Int) + 1 := by rw [IntKind.wrap_u8]; omega
  have hLk : L ≤ 100000 := by have := HI.out.ok.p; have := HLS.out; omega
  have hl3 : (e : Int) < 3 := by omega
  conv => arg 2; whnf
  go_wp2_with fail
  refine (zzof_any HI.out.rab hrd he hwd hwd1 HWd.out HW).mono ?_
  rintro e' w1 ⟨tb, hb, pv, rfl, hMd', hS'⟩
  have HMd : Hid (Made w1 rb mb id n t rd wd B tb hb pv S) := hMd'
  have HS : Hid (Step w w1 mb fp (fpOf tb hb pv)) := hS'
  have HL : Hid (LI w1 Sb n B S.seen (fun e => S.seen e id) S.oth S.v0 S.v1 (.slice xa L cx) (.slice ya L cy) S.pts) := HI.out.li1 hS'
  clear hMd' hS'
  have hsz : Sb + 5 ≤ w1.heap.size := Nat.le_trans HI.out.top HS.out.size
  have s0 := HMd.out.tal.sl e he
  have s1 := HMd.out.tal.cc e he
  have s2 := HMd.out.tal.cv0 e he
  have s3 : w1.cell? ⟨tb, e * 5 + 2 + 1, none⟩ = some (.int .i64 (S.v1 e : Int)) := HMd.out.tal.cv1 e he
  obtain ⟨pa, cp, hpv⟩ := row_slice HMd.out.tal.row
  rw [← HLS.out] at hpv
  subst hpv
  have s4 : w1.cell? ⟨tb, e * 5 + 4, none⟩ = some (.slice pa L cp) := by rw [h2.out]; exact HMd.out.tal.p2
  have hcn : (cnt S id e : Int) = (S.oth e : Int) + 1 := by simp [cnt, b2n, hs]
  have dO : w1.cell? ⟨Sb + 1, e, none⟩ = some (.int .i64 (S.oth e : Int)) := HL.out.ot e he
  have dW : w1.cell? ⟨Sb + 2, e, none⟩ = some (.bool true) := by rw [← hs]; exact HL.out.ow e he
  have d0 : w1.cell? ⟨Sb + 3, e, none⟩ = some (.int .i64 (S.v0 e : Int)) := HL.out.a0 e he
  have d1 : w1.cell? ⟨Sb + 4, e, none⟩ = some (.int .i64 (S.v1 e : Int)) := HL.out.a1 e he
  have b0 : S.oth e ≤ 16384 := by have := HI.out.ok.c e; omega
  have p1 : Sb + 1 ≠ w1.heap.size := by omega
  have p2 : Sb + 2 ≠ w1.heap.size := by omega
  have p3 : Sb + 3 ≠ w1.heap.size := by omega
  have p4 : Sb + 4 ≠ w1.heap.size := by omega
  have q1 : Sb + 1 ≠ w1.heap.size + 1 := by omega
  have q2 : Sb + 2 ≠ w1.heap.size + 1 := by omega
  have q3 : Sb + 3 ≠ w1.heap.size + 1 := by omega
  have q4 : Sb + 4 ≠ w1.heap.size + 1 := by omega
  have HXT : Hid (∀ (m : Nat) (o o' : Obj) (k : Nat), k < w1.heap.size → (((w1.alloc o).drewN m).alloc o').heap[k]? = w1.heap[k]?) := fun m o o' k hk => (Below.heap_alloc _ _ k (by simp; omega)).trans (Below.heap_alloc w1 _ k hk)
  have HLT : Hid (∀ k, k ∈ fpOf tb hb (.slice pa L cp) → k < w1.heap.size) := fun k q => HMd.out.lt hwd1 k (Or.inr (Or.inr q))
  have HRB : Hid (Rab w1 rb mb id n t rd wd B (fpOf tb hb (.slice pa L cp)) S) := Or.inr ⟨tb, hb, (.slice pa L cp), rfl, HMd.out⟩
  go_wp2_with fail
  refine (fields_any tb (e * 5) hb (e * wd) wd L cp (cnt S id e) (S.v0 e) (S.v1 e) pa w1 s0 s1 s2 s3 s4).mono ?_
  rintro e' w2 ⟨rfl, m, rfl⟩
  clear s0 s1 s2 s3 s4
  obtain ⟨W2, hW2⟩ : ∃ W2, W2 = (((w1.alloc (.cells #[.int .i64 (S.v0 e : Int), .int .i64 (S.v1 e : Int)] 52)).drewN m).alloc (.cells #[.int .i64 (S.v0 e : Int), .int .i64 (S.v1 e : Int)] 52)) := ⟨_, rfl⟩
  have back : ∀ b o, b < w1.heap.size → W2.cell? ⟨b, o, none⟩ = w1.cell? ⟨b, o, none⟩ := fun b o hb => World.cell?_of_block (a := ⟨b, o, none⟩) (by rw [hW2]; exact HXT.out _ _ _ b hb)
  have vb : W2.heap[w1.heap.size + 1]? = some (.cells #[.int .i64 (S.v0 e : Int), .int .i64 (S.v1 e : Int)] 52 (0, 0)) := by
    rw [hW2]
    have h := heap_alloc_last ((w1.alloc (.cells #[.int .i64 (S.v0 e : Int), .int .i64 (S.v1 e : Int)] 52)).drewN m) (.cells #[.int .i64 (S.v0 e : Int), .int .i64 (S.v1 e : Int)] 52)
    have z : ((w1.alloc (.cells #[.int .i64 (S.v0 e : Int), .int .i64 (S.v1 e : Int)] 52)).drewN m).heap.size = w1.heap.size + 1 := by simp
    rw [z] at h
    exact h
  have y0 : W2.cell? ⟨w1.heap.size + 1, 0, none⟩ = some (.int .i64 (S.v0 e : Int)) := by rw [cell_of_row W2 _ 0 _ _ _ vb]; rfl
  have y1 : W2.cell? ⟨w1.heap.size + 1, 1, none⟩ = some (.int .i64 (S.v1 e : Int)) := by rw [cell_of_row W2 _ 1 _ _ _ vb]; rfl
  have dO := (back (Sb + 1) e (by omega)).trans dO
  have dW := (back (Sb + 2) e (by omega)).trans dW
  have d0 := (back (Sb + 3) e (by omega)).trans d0
  have d1 := (back (Sb + 4) e (by omega)).trans d1
  rw [hW2] at y0 y1 dO dW d0 d1
  clear back vb
  clear hW2
  go_wp2_with fail
  go_quiet (fail)
  go_wp2_with fail
  have HRX : Hid (w1.ownsRow B 22 1 (.slice xa L cx) L (xCells S.pts)) := by have h := HL.out.rx; rw [← HLS.out] at h; exact h
  have HRY : Hid (w1.ownsRow B 22 1 (.slice ya L cy) L (yCells S.pts)) := by have h := HL.out.ry; rw [← HLS.out] at h; exact h
  have HRP : Hid (w1.ownsRow B 57 2 (.slice pa L cp) L (ptCells S.pts)) := by have h := HMd.out.tal.row; rw [← HLS.out] at h; exact h
  refine loop4 L cx cy cp xa ya pa _ _ _ _ _ _ _ _ _ _ _ _ _ _ _ _ _ _ _ _ _ _ _ _ _ _ _ _ _ _ _ _ _ _ _ _ _ _ _ _ _ _ _ _ _ _ _ _ _ _ _ _ _ _ _ _ _ _ _ _ _ _ _ _ _ _ _ _ _ _ _ _ _ _ _ _ _ _ _ _ _ _ _ _ _ _ _ _ _ _ _ _ _ _ _ _ _ _ _ _ _ _ _ _ _ _ _ _ _ _ _ _ _ _ _ _ _ _ _ _ _ _ _ _ _ _ _ _ _ _ _ _ _ _ _ _ _ _ _ _ _ _ _ _ _ _ _ _ _ _ _ _ _ _ _ _ _ _ _ _ _ _ _ _ _ _ _ _ _ _ _ _ _ _ _ _ _ _ _ _ _ _ _ _ _ _ _ _ _ _ _ _ _ _ _ _ _ _ _ _ _ _ _ _ _ _ _ _ _ _ _ _ _ _ _ _ _ _ _ _ _ _ _ _ _ _ _ _ _ _ _ _ _ _ _ _ _ _ _ _ _ _ _ _ _ _ _ _ _ _ _ _ _ _ _ _ _ _ _ _ _ _ _ _ _ _ _ _ _ _ _ _ _ _ _ _ _ _ _ _ _ _ _ _ _ _ _ _ _ _ _ _ _ _ _ _ _ _ _ _ _ _ _ _ _ _ _ _ _ _ _ _ _ _ _ _ _ _ _ _ _ _ _ _ _ _ _ _ _ _ _ _ _ _ _ _ _ _ _ _ _ _ _ _ _ _ _ _ _ _ _ _ _ _ _ _ _ _ _ _ _ _ _ _ _ _ _ _ _ _ _ _ _ _ _ _ _ _ _ _ _ _ _ _ _ _ _ _ _ _ _ _ _ _ _ _ _ _ _ _ _ _ _ _ _ _ _ _ _ _ S.pts B _ ?hx4 hLk HLS ?rx4 ?ry4 ?rp4
  case rx4 => exact row_keep HRX.out (fun k q => HXT.out _ _ _ k (HRX.out.lt k q).2)
  case ry4 => exact row_keep HRY.out (fun k q => HXT.out _ _ _ k (HRY.out.lt k q).2)
  case rp4 => exact row_keep HRP.out (fun k q => HXT.out _ _ _ k (HRP.out.lt k q).2)
  intro a Wa hI
  unfold WI4 at hI
  obtain ⟨u364, hI⟩ := hI
  obtain ⟨u365, hI⟩ := hI
  obtain ⟨u366, hI⟩ := hI
  obtain ⟨u367, hI⟩ := hI
  obtain ⟨u368, hI⟩ := hI
  obtain ⟨u369, hI⟩ := hI
  obtain ⟨u370, hI⟩ := hI
  obtain ⟨u371, hI⟩ := hI
  obtain ⟨u372, hI⟩ := hI
  obtain ⟨u373, hI⟩ := hI
  obtain ⟨u374, hI⟩ := hI
  obtain ⟨u375, hI⟩ := hI
  obtain ⟨u376, hI⟩ := hI
  obtain ⟨u377, hI⟩ := hI
  obtain ⟨u378, hI⟩ := hI
  obtain ⟨u379, hI⟩ := hI
  obtain ⟨u380, hI⟩ := hI
  obtain ⟨u381, hI⟩ := hI
  obtain ⟨u382, hI⟩ := hI
  obtain ⟨u383, hI⟩ := hI
  obtain ⟨u384, hI⟩ := hI
  obtain ⟨u385, hI⟩ := hI
  obtain ⟨u386, hI⟩ := hI
  obtain ⟨u387, hI⟩ := hI
  obtain ⟨u388, hI⟩ := hI
  obtain ⟨u389, hI⟩ := hI
  obtain ⟨u390, hI⟩ := hI
  obtain ⟨u391, hI⟩ := hI
  obtain ⟨hq, rfl⟩ := hI
  have HXW : Hid (∀ k, k < w1.heap.size → Wa.heap[k]? = w1.heap[k]?) := fun k hk => (congrArg (fun h => h[k]?) hq.heap).trans (HXT.out _ _ _ k hk)
  have HZW : Hid (w1.heap.size ≤ Wa.heap.size ∧ Wa.os = w1.os ∧ Wa.tape = w1.tape ∧ Wa.output = w1.output) := ⟨by rw [hq.heap]; simp; omega, hq.os, hq.tape, hq.output⟩
  clear hq y0 y1 dO dW d0 d1
  go_wp2_with fail
  refine loop5 n Sb tb e (3 * (n + 1)) _ _ _ _ _ _ _ _ _ _ _ _ _ _ _ _ _ _ _ _ _ _ _ _ _ _ _ _ _ _ _ _ _ _ _ _ _ _ _ _ _ _ _ _ _ _ _ _ _ _ _ _ _ _ _ _ _ _ _ _ _ _ _ _ _ _ _ _ _ _ _ _ _ _ _ _ _ _ _ _ _ _ _ _ _ _ _ _ _ _ _ _ _ _ _ _ _ _ _ _ _ _ _ _ _ _ _ _ _ _ _ _ _ _ _ _ _ _ _ _ _ _ _ _ _ _ _ _ _ _ _ _ _ _ _ _ _ _ _ _ _ _ _ _ _ _ _ _ _ _ _ _ _ _ _ _ _ _ _ _ _ _ _ _ _ _ _ _ _ _ _ _ _ _ _ _ _ _ _ _ _ _ _ _ _ _ _ _ _ _ _ _ _ _ _ _ _ _ _ _ _ _ _ _ _ _ _ _ _ _ _ _ _ _ _ _ _ _ _ _ _ _ _ _ _ _ _ _ _ _ _ _ _ _ _ _ _ _ _ _ _ _ _ _ _ _ _ _ _ _ _ _ _ _ _ _ _ _ _ _ _ _ _ _ _ _ _ _ _ _ _ _ _ _ _ _ _ _ _ _ _ _ _ _ _ _ _ _ _ _ _ _ _ _ _ _ _ _ _ _ _ _ _ _ _ _ _ _ _ _ _ _ _ _ _ _ _ _ _ _ _ _ _ _ _ _ _ _ _ _ _ _ _ _ _ _ _ _ _ _ _ _ _ _ _ _ _ _ _ _ _ _ _ _ _ _ _ _ _ _ _ _ _ _ _ _ _ _ _ _ _ _ _ _ _ _ _ _ _ _ _ _ _ _ _ _ _ _ _ _ _ _ _ _ _ _ _ _ _ _ _ _ _ _ _ _ _ _ _ (e * (n + 1)) hb wd B (.slice pa L cp) S.seen (cnt S id) S.v0 S.v1 S.pts _ ?hx5 ?ht5 he hn rfl rfl ?hs5
  case ht5 => exact HMd.out.tal.keep (HXW.out tb (HLT.out tb (by simp [fpOf]))) (HXW.out hb (HLT.out hb (by simp [fpOf]))) (fun k q => HXW.out k (HLT.out k (by simp [fpOf, q])))
  case hs5 => exact fun f hf => (World.cell?_of_block (a := ⟨Sb, e * (n + 1) + f, none⟩) (HXW.out Sb (by omega))).trans (HL.out.sn e he f hf)
  intro a W hI
  unfold WI5 at hI
  obtain ⟨u395, hI⟩ := hI
  obtain ⟨u396, hI⟩ := hI
  obtain ⟨u397, hI⟩ := hI
  obtain ⟨u398, hI⟩ := hI
  obtain ⟨u399, hI⟩ := hI
  obtain ⟨u400, hI⟩ := hI
  obtain ⟨u401, hI⟩ := hI
  obtain ⟨u402, hI⟩ := hI
  obtain ⟨u403, hI⟩ := hI
  obtain ⟨u404, hI⟩ := hI
  obtain ⟨u405, hI⟩ := hI
  obtain ⟨u406, hI⟩ := hI
  obtain ⟨u407, hI⟩ := hI
  obtain ⟨u408, hI⟩ := hI
  obtain ⟨u409, hI⟩ := hI
  obtain ⟨u410, hI⟩ := hI
  obtain ⟨u411, hI⟩ := hI
  obtain ⟨u412, hI⟩ := hI
  obtain ⟨hq, rfl⟩ := hI
  have HQ : Hid (Inv B rb mb Sb id n t rd wd w0 W (.slice xa L cx) (.slice ya L cy) K0 (fpOf tb hb (.slice pa L cp)) S) := HI.out.same hwd1 HRB.out HS.out (hq.os.trans HZW.out.2.1) (hq.tape.trans HZW.out.2.2.1) (hq.output.trans HZW.out.2.2.2) (by rw [hq.heap]; exact HZW.out.1) (fun k hk => (congrArg (fun h => h[k]?) hq.heap).trans (HXW.out k hk))
  clear hq
  go_wp2_with fail
  refine HK.out _ _ ?_; unfold WI3; refine ⟨_, _, _, _, _, _, _, _, _, _, _, _, _, _, _, _, _, _, _, _, _, _, _, _, _, _, _, _, _, _, _, _, _, _, _, _, _, _, _, _, _, _, _, _, _, _, _, _, _, _, _, _, _, _, _, _, _, _, _, _, _, _, _, _, _, _, _, _, _, _, _, _, _, _, _, _, _, _, _, _, _, _, _, _, _, _, _, _, _, _, _, _, _, _, _, _, _, _, _, _, _, _, _, _, _, _, _, _, ?_, rfl⟩
  exact ⟨_, S, HLS.out, HQ.out⟩

end Go.Proofs.Qxb6609496aFmt
