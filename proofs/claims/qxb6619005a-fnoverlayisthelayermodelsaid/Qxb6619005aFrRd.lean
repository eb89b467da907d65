import Derived.Test.Qxb6619005aPiece7
namespace Go.Proofs.Qxb6619005a
open Go.RowKit

theorem inf104 : (Try.prog.info? 104).map (fun i => (i.size, i.bytes, i.zero.map (·.cells.size))) = some (5, 6, some 5) := by kernel_rfl
attribute [local go_sem ↓] pre104
attribute [local go_sem] ok104 vblk_mk voff_mk vcells_mk

set_option maxRecDepth 100000 in
set_option maxHeartbeats 8000000 in
theorem frRd (r : Sl) (w wc w0 : World) (X G B bo : Nat) (hta : Below w.heap.size w wc) (hcx : wc.cell? ⟨X, 10, none⟩ = some (.pointer (some ⟨B, bo, none⟩))) (hcb : wc.cell? ⟨B, bo + 1, none⟩ = some (.slice r.a r.n r.c)) (ds : List Value) (hob : wc.heap[G]? = some (.cells ds.toArray 58 (0, 0))) (hox : ds[1]? = some (.slice none 0 0)) (hG : w.heap.size + 3 ≤ G) (hXG : X < G) (hB : B < w.heap.size) (hs0 : Seg wc w0 (G) 1 (.slice (some ⟨wc.heap.size, 0, none⟩) r.n r.n)) (hf0 : Fill w0 w0 wc.heap.size 104 (r.n * 5) []) (hn0 : wc.heap.size < w0.heap.size) (rs : List Rd) (hlr : rs.length = r.n) (hmr : r.n ≤ 1048576) (hrr : ARow Rd.a 5 w r.a rs)
    (c0 c2 c3 c4 c5 c6 c7 c8 c9 c10 c11 c14 c15 c16 c17 c18 c19 c20 c21 c22 c23 c24 c25 c26 c27 c28 c29 c30 c31 c32 c33 c34 c35 c36 c37 c38 c39 c40 c41 c42 c43 c44 c45 c46 c47 c48 c49 c50 c51 c52 c53 c54 c55 c56 c57 c58 c59 c60 c61 c62 c63 c64 c65 c66 c67 c68 c69 c70 c71 c72 c73 c74 c75 c76 c77 c78 c79 c80 c81 c82 c83 c84 c85 c86 c87 c88 c89 c90 c91 c92 c93 c94 c95 c96 c97 c98 c99 c100 c101 c102 c103 c104 c105 c106 c107 c108 c109 c110 c111 c112 c113 c114 c115 c116 c117 c118 c119 c120 c121 c122 c123 c124 c125 c126 c127 c128 c129 c130 c131 c132 c133 c134 c135 c136 c137 c138 c139 c140 c141 c142 c143 c144 c145 c146 c147 c148 c149 c150 c151 c152 c153 c154 c155 c156 c157 c158 c159 c160 c161 c162 c163 c164 c165 c166 c167 c168 c169 c170 c171 c172 c173 c174 c175 c176 c177 c178 c179 c180 c181 c182 c183 c184 c185 c186 c187 c188 c189 c190 c191 c192 c193 c194 c195 c196 c197 c198 c199 c200 c201 c202 c203 c204 c205 c206 c207 c208 c209 c210 c211 c212 c213 c214 c215 c216 c217 c218 c219 c220 c221 c222 c223 c224 c225 c226 c227 c228 c229 c230 c231 c232 c233 c234 c235 c236 c237 c238 c239 c240 c241 c242 c243 c244 c245 c246 c247 c248 c249 c250 c251 c252 c253 c254 c255 c256 c257 c258 c259 c260 c261 c262 c263 c264 c265 c266 c267 c268 c269 c270 c271 c272 c273 c274 c275 c276 c277 c278 c279 c280 c281 c282 c283 c284 c285 c286 c287 c288 c289 c290 c291 c292 c293 c294 c295 c296 c297 c298 c299 c300 c301 c302 c303 c304 c305 c306 c307 c308 c309 c310 c311 c312 c313 c314 c315 c316 c317 c318 c319 c320 c321 c322 c323 c324 c325 c326 c327 c328 c329 c330 c331 c332 c333 c334 c335 c336 c337 c338 c339 c340 c341 c342 c343 c344 c345 c346 c347 c348 c349 c350 c351 c352 c353 c354 c355 c356 c357 c358 c359 c360 c361 c362 c363 c364 c365 c366 c367 c368 c369 c370 c371 c372 c373 c374 c375 c376 c377 c378 c379 c380 c381 c382 c383 c384 c385 c386 c387 c388 c389 c390 c391 c392 c393 c394 c395 c396 c397 c398 c399 c400 c401 c402 c403 c404 c405 c406 c407 c408 c409 c410 c411 c412 c413 c414 c415 c416 c417 c418 c419 c420 c421 c422 c423 c424 c425 c426 c427 c428 c429 c430 c431 c432 c433 c434 c435 c436 c437 c438 c439 c440 c441 c442 c443 c444 : Value) (J K : Act → World → Prop) (Q : Exit → Act → World → Prop) (hJ : ∀ (a' : Act) (w' : World), Met J a' w' → K a' w')
    (hI : ∀ (a' : Act) (w' : World), (∃ u13 u14 u202 u203 u204 u205 u206 u207 u208 u209 u210 u211 u212 u213 u214 u215 u216 u217 u218 u219 u220 u221 u222 u223 u224 u225 u226 u227 u228 u229 u230 u231 u232 u233 u234 u235 u236 u237 u238 u239 u240 u241 u242 u243 u244 : Value, (∃ v, Seg wc w' (G) 1 v ∧ w'.ownsRow (G + 1) 104 5 v r.n (rs.flatMap Rd.z) ∧ ∃ a, v = .slice a r.n r.n) ∧ a' = ⟨#[c0, .pointer (some ⟨X, 0, none⟩), c2, c3, c4, c5, c6, c7, c8, c9, c10, c11, .pointer (some ⟨G, 0, none⟩), u13, u14, c15, c16, c17, c18, c19, c20, c21, c22, c23, c24, c25, c26, c27, c28, c29, c30, c31, c32, c33, c34, c35, c36, c37, c38, c39, c40, c41, c42, c43, c44, c45, c46, c47, c48, c49, c50, c51, c52, c53, c54, c55, c56, c57, c58, c59, c60, c61, c62, c63, c64, c65, c66, c67, c68, c69, c70, c71, c72, c73, c74, c75, c76, c77, c78, c79, c80, c81, c82, c83, c84, c85, c86, c87, c88, c89, c90, c91, c92, c93, c94, c95, c96, c97, c98, c99, c100, c101, c102, c103, c104, c105, c106, c107, c108, c109, c110, c111, c112, c113, c114, c115, c116, c117, c118, c119, c120, c121, c122, c123, c124, c125, c126, c127, c128, c129, c130, c131, c132, c133, c134, c135, c136, c137, c138, c139, c140, c141, c142, c143, c144, c145, c146, c147, c148, c149, c150, c151, c152, c153, c154, c155, c156, c157, c158, c159, c160, c161, c162, c163, c164, c165, c166, c167, c168, c169, c170, c171, c172, c173, c174, c175, c176, c177, c178, c179, c180, c181, c182, c183, c184, c185, c186, c187, c188, c189, c190, c191, c192, c193, c194, c195, c196, c197, c198, c199, c200, c201, u202, u203, u204, u205, u206, u207, u208, u209, u210, u211, u212, u213, u214, u215, u216, u217, u218, u219, u220, u221, u222, u223, u224, u225, u226, u227, u228, u229, u230, u231, u232, u233, u234, u235, u236, u237, u238, u239, u240, u241, u242, u243, u244, c245, c246, c247, c248, c249, c250, c251, c252, c253, c254, c255, c256, c257, c258, c259, c260, c261, c262, c263, c264, c265, c266, c267, c268, c269, c270, c271, c272, c273, c274, c275, c276, c277, c278, c279, c280, c281, c282, c283, c284, c285, c286, c287, c288, c289, c290, c291, c292, c293, c294, c295, c296, c297, c298, c299, c300, c301, c302, c303, c304, c305, c306, c307, c308, c309, c310, c311, c312, c313, c314, c315, c316, c317, c318, c319, c320, c321, c322, c323, c324, c325, c326, c327, c328, c329, c330, c331, c332, c333, c334, c335, c336, c337, c338, c339, c340, c341, c342, c343, c344, c345, c346, c347, c348, c349, c350, c351, c352, c353, c354, c355, c356, c357, c358, c359, c360, c361, c362, c363, c364, c365, c366, c367, c368, c369, c370, c371, c372, c373, c374, c375, c376, c377, c378, c379, c380, c381, c382, c383, c384, c385, c386, c387, c388, c389, c390, c391, c392, c393, c394, c395, c396, c397, c398, c399, c400, c401, c402, c403, c404, c405, c406, c407, c408, c409, c410, c411, c412, c413, c414, c415, c416, c417, c418, c419, c420, c421, c422, c423, c424, c425, c426, c427, c428, c429, c430, c431, c432, c433, c434, c435, c436, c437, c438, c439, c440, c441, c442, c443, c444], []⟩) → J a' w') :
    Code.wp Try.prog (piece7d 0) (Exit.then K Q) ⟨#[c0, .pointer (some ⟨X, 0, none⟩), c2, c3, c4, c5, c6, c7, c8, c9, c10, c11, .pointer (some ⟨G, 0, none⟩), .int .i64 0, c14, c15, c16, c17, c18, c19, c20, c21, c22, c23, c24, c25, c26, c27, c28, c29, c30, c31, c32, c33, c34, c35, c36, c37, c38, c39, c40, c41, c42, c43, c44, c45, c46, c47, c48, c49, c50, c51, c52, c53, c54, c55, c56, c57, c58, c59, c60, c61, c62, c63, c64, c65, c66, c67, c68, c69, c70, c71, c72, c73, c74, c75, c76, c77, c78, c79, c80, c81, c82, c83, c84, c85, c86, c87, c88, c89, c90, c91, c92, c93, c94, c95, c96, c97, c98, c99, c100, c101, c102, c103, c104, c105, c106, c107, c108, c109, c110, c111, c112, c113, c114, c115, c116, c117, c118, c119, c120, c121, c122, c123, c124, c125, c126, c127, c128, c129, c130, c131, c132, c133, c134, c135, c136, c137, c138, c139, c140, c141, c142, c143, c144, c145, c146, c147, c148, c149, c150, c151, c152, c153, c154, c155, c156, c157, c158, c159, c160, c161, c162, c163, c164, c165, c166, c167, c168, c169, c170, c171, c172, c173, c174, c175, c176, c177, c178, c179, c180, c181, c182, c183, c184, c185, c186, c187, c188, c189, c190, c191, c192, c193, c194, c195, c196, c197, c198, c199, c200, c201, c202, c203, c204, c205, c206, c207, c208, c209, c210, c211, c212, c213, c214, c215, c216, c217, c218, c219, c220, c221, c222, c223, c224, c225, c226, c227, c228, c229, c230, c231, c232, c233, c234, c235, c236, c237, c238, c239, c240, c241, c242, c243, c244, c245, c246, c247, c248, c249, c250, c251, c252, c253, c254, c255, c256, c257, c258, c259, c260, c261, c262, c263, c264, c265, c266, c267, c268, c269, c270, c271, c272, c273, c274, c275, c276, c277, c278, c279, c280, c281, c282, c283, c284, c285, c286, c287, c288, c289, c290, c291, c292, c293, c294, c295, c296, c297, c298, c299, c300, c301, c302, c303, c304, c305, c306, c307, c308, c309, c310, c311, c312, c313, c314, c315, c316, c317, c318, c319, c320, c321, c322, c323, c324, c325, c326, c327, c328, c329, c330, c331, c332, c333, c334, c335, c336, c337, c338, c339, c340, c341, c342, c343, c344, c345, c346, c347, c348, c349, c350, c351, c352, c353, c354, c355, c356, c357, c358, c359, c360, c361, c362, c363, c364, c365, c366, c367, c368, c369, c370, c371, c372, c373, c374, c375, c376, c377, c378, c379, c380, c381, c382, c383, c384, c385, c386, c387, c388, c389, c390, c391, c392, c393, c394, c395, c396, c397, c398, c399, c400, c401, c402, c403, c404, c405, c406, c407, c408, c409, c410, c411, c412, c413, c414, c415, c416, c417, c418, c419, c420, c421, c422, c423, c424, c425, c426, c427, c428, c429, c430, c431, c432, c433, c434, c435, c436, c437, c438, c439, c440, c441, c442, c443, c444], []⟩ w0 := by
  have HTA := hidMk hta
  have HLr := hidMk hlr
  have HMr := hidMk hmr
  have HRr := hidMk hrr
  have HS0 := hidMk hs0
  have HF0 := hidMk hf0
  have HN0 := hidMk hn0
  have HCX := hidMk hcx
  have HCB := hidMk hcb
  have HG := hidMk (show w.heap.size ≤ G by omega)
  have HXG := hidMk (show X ≠ G by omega)
  have HBG := hidMk (show B ≠ G by omega)
  have lO := lt_of_heap hob
  have hws := hta.size
  have HOB := hidMk hob
  have HOX := hidMk hox
  clear hta hlr hmr hrr hcx hcb hob hox hs0 hf0 hn0
  conv => arg 2; whnf
  obtain ⟨sa, sn, sc⟩ := r
  have HB0 : Hid (Below w.heap.size w w0) := hidMk (HS0.out.below HTA.out HG.out (by omega))
  have HX0 : Hid (w0.cell? ⟨X, 10, none⟩ = some (.pointer (some ⟨B, bo, none⟩))) := hidMk (HS0.out.cell HCX.out HXG.out)
  have HY0 : Hid (w0.cell? ⟨B, bo + 1, none⟩ = some (.slice sa sn sc)) := hidMk (HS0.out.cell HCB.out HBG.out)
  have HO0 : Hid (w0.cell? ⟨G, 1, none⟩ = some (.slice (some ⟨wc.heap.size, 0, none⟩) sn sn)) := hidMk (HS0.out.set HOB.out HOX.out)
  go_wp2_with fail
  go_loopw [13] (fun i wr => ∃ k : Nat, i = .int .i64 k ∧ k ≤ sn ∧ Fill w0 wr wc.heap.size 104 (sn * 5) ((rs.take k).flatMap Rd.z)) (fun i _ => sn - (intOf i).toNat)
  case atStart => exact ⟨0, rfl, by omega, by simpa using HF0.out⟩
  case round =>
    obtain ⟨k, rfl, hk, hF⟩ := hrel
    have hbw : Below w.heap.size w wr := HB0.out.trans (hF.below (by omega))
    have cX := hF.cell (p := ⟨X, 10, none⟩) HX0.out (by show X ≠ wc.heap.size; omega)
    have cB := hF.cell (p := ⟨B, bo + 1, none⟩) HY0.out (by show B ≠ wc.heap.size; omega)
    have cO := hF.cell (p := ⟨G, 1, none⟩) HO0.out (by show G ≠ wc.heap.size; omega)
    have lG : wc.heap.size < wr.heap.size := by have := hF.kept.size; have := HN0.out; omega
    have lX : X < wr.heap.size := by omega
    have lO' : G < wr.heap.size := by omega
    have lB : B < wr.heap.size := by omega
    have k0 : (0 : Int) ≤ (k : Int) := by omega
    have hsn : sn ≤ 1048576 := HMr.out
    by_cases hlt : k < sn
    · have k1 : (k : Int) < (sn : Int) := by omega
      obtain ⟨b0, o0, ha0, hc0⟩ := HRr.out (by have := HLr.out; omega)
      obtain ⟨y, hy⟩ : ∃ y, rs[k]? = some y := ⟨rs[k]'(by have := HLr.out; omega), by simp⟩
      have R0 := hidMk (rangeAt_below (hc0 k y hy) hbw (Nat.le_refl _))
      have HT := hidMk (hF.there (o := k * 5) (n := 5) (by have : (k + 1) * 5 ≤ sn * 5 := Nat.mul_le_mul_right 5 hlt; omega))
      have HF := hidMk hF
      have HY := hidMk hy
      clear hc0 hy hF hbw
      subst ha0
      obtain ⟨x1, x2, x3, x4, x5⟩ := y
      simp only [Rd.a] at R0
      go_upto_block 9 with fail
      go_cut [14] from 212 to 244 (fun _ wd => Fill w0 wd wc.heap.size 104 (sn * 5) ((rs.take (k + 1)).flatMap Rd.z))
      case first =>
        go_wp2_with (first | (refine wpList_load_mid rfl 106 _ rfl b0 (o0 + k * 5) rfl _ _ R0.out Try.underlying106 rfl info106 ?_) | (refine wpList_store_new rfl 106 _ _ rfl _ _ _ rfl _ rfl (by simp) rfl info106 rfl rfl ?_))
        obtain ⟨w1, hw1⟩ : ∃ w1, w1 = wr.alloc (.cells #[.int .u16 x1, .int .u8 x2, .int .u8 x3, .int .u8 x4, .int .u8 x5] 106) := ⟨_, rfl⟩
        rw [← hw1]
        have d : w1.cell? ⟨G, 1, none⟩ = some (.slice (some ⟨wc.heap.size, 0, none⟩) sn sn) := by rw [hw1]; exact cell_below cO ((Below.refl _ wr).alloc (Nat.le_refl _) _)
        have d0 : w1.cell? ⟨wr.heap.size, 0, none⟩ = some (.int .u16 x1) := by rw [hw1]; exact (cell_of_row _ wr.heap.size 0 _ _ (0, 0) (heap_alloc_new wr _)).trans rfl
        have d1 : w1.cell? ⟨wr.heap.size, 1, none⟩ = some (.int .u8 x2) := by rw [hw1]; exact (cell_of_row _ wr.heap.size 1 _ _ (0, 0) (heap_alloc_new wr _)).trans rfl
        have d2 : w1.cell? ⟨wr.heap.size, 2, none⟩ = some (.int .u8 x3) := by rw [hw1]; exact (cell_of_row _ wr.heap.size 2 _ _ (0, 0) (heap_alloc_new wr _)).trans rfl
        have d3 : w1.cell? ⟨wr.heap.size, 3, none⟩ = some (.int .u8 x4) := by rw [hw1]; exact (cell_of_row _ wr.heap.size 3 _ _ (0, 0) (heap_alloc_new wr _)).trans rfl
        have d4 : w1.cell? ⟨wr.heap.size, 4, none⟩ = some (.int .u8 x5) := by rw [hw1]; exact (cell_of_row _ wr.heap.size 4 _ _ (0, 0) (heap_alloc_new wr _)).trans rfl
        have HB1 : Hid (Below wr.heap.size wr w1) := hidMk (by rw [hw1]; exact (Below.refl _ wr).alloc (Nat.le_refl _) _)
        have nO : (⟨G, 1, none⟩ : Addr).block ≠ wc.heap.size := by show G ≠ wc.heap.size; omega
        have nX : ∀ j, (⟨wr.heap.size, j, none⟩ : Addr).block ≠ wc.heap.size := fun j => by show wr.heap.size ≠ wc.heap.size; omega
        clear hw1 cX cO cB
        go_region_held3 (fun w' => w'.cell? ⟨G, 1, none⟩ = some (.slice (some ⟨wc.heap.size, 0, none⟩) sn sn) ∧ w'.cell? ⟨wr.heap.size, 0, none⟩ = some (.int .u16 x1) ∧ w'.cell? ⟨wr.heap.size, 1, none⟩ = some (.int .u8 x2) ∧ w'.cell? ⟨wr.heap.size, 2, none⟩ = some (.int .u8 x3) ∧ w'.cell? ⟨wr.heap.size, 3, none⟩ = some (.int .u8 x4) ∧ w'.cell? ⟨wr.heap.size, 4, none⟩ = some (.int .u8 x5))
          (first | (with_reducible exact ⟨cell_below (cell_belowD d hh) hh2, cell_below (cell_belowD d0 hh) hh2, cell_below (cell_belowD d1 hh) hh2, cell_below (cell_belowD d2 hh) hh2, cell_below (cell_belowD d3 hh) hh2, cell_below (cell_belowD d4 hh) hh2⟩) | (with_reducible exact ⟨cell_belowD d hh, cell_belowD d0 hh, cell_belowD d1 hh, cell_belowD d2 hh, cell_belowD d3 hh, cell_belowD d4 hh⟩) | (with_reducible exact ⟨cell_setCells_far (cell_below (cell_belowD d hh) hh2) nO _ _, cell_setCells_far (cell_below (cell_belowD d0 hh) hh2) (nX 0) _ _, cell_setCells_far (cell_below (cell_belowD d1 hh) hh2) (nX 1) _ _, cell_setCells_far (cell_below (cell_belowD d2 hh) hh2) (nX 2) _ _, cell_setCells_far (cell_below (cell_belowD d3 hh) hh2) (nX 3) _ _, cell_setCells_far (cell_below (cell_belowD d4 hh) hh2) (nX 4) _ _⟩) | go_keep)
          (first | (go_at_call 14; refine (fromEnd_any x2 x3 w1.drew).mono ?_; rintro _ w2 ⟨rfl, hh⟩) | (go_at_call 14; refine (fromEnd_any x4 x5 w2).mono ?_; rintro _ w3 ⟨rfl, hh2⟩; have hth := there_below (there_belowD (there_below HT.out HB1.out) hh) hh2))
        have HB3 := hidMk (HB1.out.drew.trans ((hh.mono (by have := HB1.out.size; simpa using this)).trans (hh2.mono (by have := HB1.out.size; have := hh.size; simp at this; omega))))
        have HNX := hidMk (HF.out.next Rd.z Rd.z_len HLr.out HY.out HB3.out)
        go_wp2_with fail
        go_meet
        case rel => exact HNX.out
      case rest =>
        have HNX := hidMk hcut
        clear hcut
        go_wp2_with fail
        go_light
        exact ⟨⟨k + 1, by go_num, by omega, HNX.out⟩, by simp [intOf]; omega⟩
    · have hkn : k = sn := by omega
      subst hkn
      have HF := hidMk hF
      clear hF
      go_wp2_with fail
      go_meet
      case rel => exact ⟨_, HS0.out.fill HF.out (Nat.le_refl _) (by omega), HF.out.done Rd.z Rd.z_len HLr.out (by omega) HMr.out, _, rfl⟩
end Go.Proofs.Qxb6619005a
