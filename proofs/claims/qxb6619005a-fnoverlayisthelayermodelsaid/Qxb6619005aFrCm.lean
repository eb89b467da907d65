import Derived.Test.Qxb6619005aPiece7
namespace Go.Proofs.Qxb6619005a
open Go.RowKit

theorem inf53 : (Try.prog.info? 53).map (fun i => (i.size, i.bytes, i.zero.map (·.cells.size))) = some (3, 24, some 3) := by kernel_rfl

set_option maxRecDepth 100000 in
set_option maxHeartbeats 8000000 in
theorem frCm (c : Sl) (w wc w0 : World) (args outs zeros : List Value) (hta : TA w wc w.heap.size 45 33 args outs zeros) (hax : args[8]? = some (.slice c.a c.n c.c)) (hox : outs[8]? = some (.slice none 0 0)) (hs0 : Seg wc w0 (w.heap.size + 1 + 1) 8 (.slice (some ⟨wc.heap.size, 0, none⟩) c.n c.n)) (hf0 : Fill w0 w0 wc.heap.size 53 (c.n * 3) []) (hn0 : wc.heap.size < w0.heap.size) (cs : List Cm) (hlc : cs.length = c.n) (hmc : c.n ≤ 1048576) (hrc : ARow Cm.a 3 w c.a cs)
    (c0 c2 c4 c5 c6 c7 c9 c10 c11 c12 c13 c14 c15 c16 c17 c18 c19 c20 c21 c22 c23 c24 c25 c26 c27 c28 c29 c30 c31 c32 c33 c34 c35 c36 c37 c38 c39 c40 c41 c42 c43 c44 c45 c46 c47 c48 c49 c50 c51 c52 c53 c54 c55 c56 c57 c58 c59 c60 c61 c62 c63 c64 c65 c66 c67 c68 c69 c70 c71 c72 c73 c74 c75 c76 c77 c78 c79 c80 c81 c82 c83 c84 c85 c86 c87 c88 c89 c90 c91 c92 c93 c94 c95 c96 c97 c98 c99 c100 c101 c102 c103 c104 c105 c106 c107 c108 c109 c110 c111 c112 c113 c114 c115 c116 c117 c118 c119 c120 c121 c122 c123 c124 c125 c126 c127 c128 c129 c130 c131 c132 c133 c134 c135 c136 c137 c138 c139 c140 c141 c142 c143 c144 c145 c146 c147 c148 c149 c150 c151 c152 c153 c154 c155 c156 c157 c158 c159 c160 c161 c162 c163 c164 c165 c166 c167 c168 c169 c170 c171 c172 c173 c174 c175 c176 c177 c178 c179 c180 c181 c182 c183 c184 c185 c186 c187 c188 c189 c190 c191 c192 c193 c194 c195 c196 c197 c198 c199 c200 c201 c202 c203 c204 c205 c206 c207 c208 c209 c210 c211 c212 c213 c214 c215 c216 c217 c218 c219 c220 c221 c222 c223 c224 c225 c226 c227 c228 c229 c230 c231 c232 c233 c234 c235 c236 c237 c238 c239 c240 c241 c242 c243 c244 c245 c246 c247 c248 c249 c250 c251 c252 c253 c254 c255 c256 c257 c258 c259 c260 c261 c262 c263 c264 c265 c266 c267 c268 c269 c270 c271 c272 c273 c274 c275 c276 c277 c278 c279 c280 c281 c282 c283 c284 c285 c286 c287 c288 c289 c290 c291 c292 c293 c294 c295 c296 c297 c298 c299 c300 c301 c302 c303 c304 c305 c306 c307 c308 c309 c310 c311 c312 c313 c314 c315 c316 c317 c318 c319 c320 c321 c322 c323 c324 c325 c326 c327 c328 c329 c330 c331 c332 c333 c334 c335 c336 c337 c338 c339 c340 c341 c342 c343 c344 c345 c346 c347 c348 c349 c350 c351 c352 c353 c354 c355 c356 c357 c358 c359 c360 c361 c362 c363 c364 c365 c366 c367 c368 c369 c370 c371 c372 c373 c374 c375 c376 c377 c378 c379 c380 c381 c382 c383 c384 c385 c386 c387 c388 c389 c390 c391 c392 c393 c394 c395 c396 c397 c398 c399 c400 c401 c402 c403 c404 c405 c406 c407 c408 c409 c410 c411 c412 c413 c414 c415 c416 c417 c418 c419 c420 c421 c422 c423 c424 c425 c426 c427 c428 c429 c430 c431 c432 c433 c434 c435 c436 c437 c438 c439 c440 c441 c442 c443 c444 : Value) (J K : Act → World → Prop) (Q : Exit → Act → World → Prop) (hJ : ∀ (a' : Act) (w' : World), Met J a' w' → K a' w')
    (hI : ∀ (a' : Act) (w' : World), (∃ u8 u9 u120 u121 u122 u123 u124 u125 u126 u127 u128 u129 u130 u131 u132 u133 u134 u135 u136 u137 u138 u139 u140 u141 u142 u143 u144 u145 u146 u147 : Value, (∃ v, Seg wc w' (w.heap.size + 1 + 1) 8 v ∧ w'.ownsRow (w.heap.size + 3) 53 3 v c.n (cs.flatMap Cm.z) ∧ ∃ a, v = .slice a c.n c.n) ∧ a' = ⟨#[c0, .pointer (some ⟨w.heap.size, 0, none⟩), c2, .pointer (some ⟨w.heap.size + 1 + 1, 0, none⟩), c4, c5, c6, c7, u8, u9, c10, c11, c12, c13, c14, c15, c16, c17, c18, c19, c20, c21, c22, c23, c24, c25, c26, c27, c28, c29, c30, c31, c32, c33, c34, c35, c36, c37, c38, c39, c40, c41, c42, c43, c44, c45, c46, c47, c48, c49, c50, c51, c52, c53, c54, c55, c56, c57, c58, c59, c60, c61, c62, c63, c64, c65, c66, c67, c68, c69, c70, c71, c72, c73, c74, c75, c76, c77, c78, c79, c80, c81, c82, c83, c84, c85, c86, c87, c88, c89, c90, c91, c92, c93, c94, c95, c96, c97, c98, c99, c100, c101, c102, c103, c104, c105, c106, c107, c108, c109, c110, c111, c112, c113, c114, c115, c116, c117, c118, c119, u120, u121, u122, u123, u124, u125, u126, u127, u128, u129, u130, u131, u132, u133, u134, u135, u136, u137, u138, u139, u140, u141, u142, u143, u144, u145, u146, u147, c148, c149, c150, c151, c152, c153, c154, c155, c156, c157, c158, c159, c160, c161, c162, c163, c164, c165, c166, c167, c168, c169, c170, c171, c172, c173, c174, c175, c176, c177, c178, c179, c180, c181, c182, c183, c184, c185, c186, c187, c188, c189, c190, c191, c192, c193, c194, c195, c196, c197, c198, c199, c200, c201, c202, c203, c204, c205, c206, c207, c208, c209, c210, c211, c212, c213, c214, c215, c216, c217, c218, c219, c220, c221, c222, c223, c224, c225, c226, c227, c228, c229, c230, c231, c232, c233, c234, c235, c236, c237, c238, c239, c240, c241, c242, c243, c244, c245, c246, c247, c248, c249, c250, c251, c252, c253, c254, c255, c256, c257, c258, c259, c260, c261, c262, c263, c264, c265, c266, c267, c268, c269, c270, c271, c272, c273, c274, c275, c276, c277, c278, c279, c280, c281, c282, c283, c284, c285, c286, c287, c288, c289, c290, c291, c292, c293, c294, c295, c296, c297, c298, c299, c300, c301, c302, c303, c304, c305, c306, c307, c308, c309, c310, c311, c312, c313, c314, c315, c316, c317, c318, c319, c320, c321, c322, c323, c324, c325, c326, c327, c328, c329, c330, c331, c332, c333, c334, c335, c336, c337, c338, c339, c340, c341, c342, c343, c344, c345, c346, c347, c348, c349, c350, c351, c352, c353, c354, c355, c356, c357, c358, c359, c360, c361, c362, c363, c364, c365, c366, c367, c368, c369, c370, c371, c372, c373, c374, c375, c376, c377, c378, c379, c380, c381, c382, c383, c384, c385, c386, c387, c388, c389, c390, c391, c392, c393, c394, c395, c396, c397, c398, c399, c400, c401, c402, c403, c404, c405, c406, c407, c408, c409, c410, c411, c412, c413, c414, c415, c416, c417, c418, c419, c420, c421, c422, c423, c424, c425, c426, c427, c428, c429, c430, c431, c432, c433, c434, c435, c436, c437, c438, c439, c440, c441, c442, c443, c444], []⟩) → J a' w') :
    Code.wp Try.prog (piece7 2) (Exit.then K Q) ⟨#[c0, .pointer (some ⟨w.heap.size, 0, none⟩), c2, .pointer (some ⟨w.heap.size + 1 + 1, 0, none⟩), c4, c5, c6, c7, .int .i64 0, c9, c10, c11, c12, c13, c14, c15, c16, c17, c18, c19, c20, c21, c22, c23, c24, c25, c26, c27, c28, c29, c30, c31, c32, c33, c34, c35, c36, c37, c38, c39, c40, c41, c42, c43, c44, c45, c46, c47, c48, c49, c50, c51, c52, c53, c54, c55, c56, c57, c58, c59, c60, c61, c62, c63, c64, c65, c66, c67, c68, c69, c70, c71, c72, c73, c74, c75, c76, c77, c78, c79, c80, c81, c82, c83, c84, c85, c86, c87, c88, c89, c90, c91, c92, c93, c94, c95, c96, c97, c98, c99, c100, c101, c102, c103, c104, c105, c106, c107, c108, c109, c110, c111, c112, c113, c114, c115, c116, c117, c118, c119, c120, c121, c122, c123, c124, c125, c126, c127, c128, c129, c130, c131, c132, c133, c134, c135, c136, c137, c138, c139, c140, c141, c142, c143, c144, c145, c146, c147, c148, c149, c150, c151, c152, c153, c154, c155, c156, c157, c158, c159, c160, c161, c162, c163, c164, c165, c166, c167, c168, c169, c170, c171, c172, c173, c174, c175, c176, c177, c178, c179, c180, c181, c182, c183, c184, c185, c186, c187, c188, c189, c190, c191, c192, c193, c194, c195, c196, c197, c198, c199, c200, c201, c202, c203, c204, c205, c206, c207, c208, c209, c210, c211, c212, c213, c214, c215, c216, c217, c218, c219, c220, c221, c222, c223, c224, c225, c226, c227, c228, c229, c230, c231, c232, c233, c234, c235, c236, c237, c238, c239, c240, c241, c242, c243, c244, c245, c246, c247, c248, c249, c250, c251, c252, c253, c254, c255, c256, c257, c258, c259, c260, c261, c262, c263, c264, c265, c266, c267, c268, c269, c270, c271, c272, c273, c274, c275, c276, c277, c278, c279, c280, c281, c282, c283, c284, c285, c286, c287, c288, c289, c290, c291, c292, c293, c294, c295, c296, c297, c298, c299, c300, c301, c302, c303, c304, c305, c306, c307, c308, c309, c310, c311, c312, c313, c314, c315, c316, c317, c318, c319, c320, c321, c322, c323, c324, c325, c326, c327, c328, c329, c330, c331, c332, c333, c334, c335, c336, c337, c338, c339, c340, c341, c342, c343, c344, c345, c346, c347, c348, c349, c350, c351, c352, c353, c354, c355, c356, c357, c358, c359, c360, c361, c362, c363, c364, c365, c366, c367, c368, c369, c370, c371, c372, c373, c374, c375, c376, c377, c378, c379, c380, c381, c382, c383, c384, c385, c386, c387, c388, c389, c390, c391, c392, c393, c394, c395, c396, c397, c398, c399, c400, c401, c402, c403, c404, c405, c406, c407, c408, c409, c410, c411, c412, c413, c414, c415, c416, c417, c418, c419, c420, c421, c422, c423, c424, c425, c426, c427, c428, c429, c430, c431, c432, c433, c434, c435, c436, c437, c438, c439, c440, c441, c442, c443, c444], []⟩ w0 := by
  have HTA := hidMk hta
  have HLc := hidMk hlc
  have HMc := hidMk hmc
  have HRc := hidMk hrc
  have HS0 := hidMk hs0
  have HF0 := hidMk hf0
  have HN0 := hidMk hn0
  have HAX := hidMk hax
  have HOB := hidMk hta.out
  have HOX := hidMk hox
  have lO := lt_of_heap hta.out
  clear hta hlc hmc hrc hax hox hs0 hf0 hn0
  conv => arg 2; whnf
  obtain ⟨sa, sn, sc⟩ := c
  have HT0 := hidMk (HTA.out.next HS0.out)
  have HB0 : Hid (Below w.heap.size w w0) := hidMk HT0.out.below
  have HX0 : Hid (w0.cell? ⟨w.heap.size, 8, none⟩ = some (.slice sa sn sc)) := hidMk ((cell_of_row _ _ 8 _ _ (0, 0) HT0.out.box).trans (List.getElem?_toArray.trans HAX.out))
  have HO0 : Hid (w0.cell? ⟨w.heap.size + 1 + 1, 8, none⟩ = some (.slice (some ⟨wc.heap.size, 0, none⟩) sn sn)) := hidMk (HS0.out.set HOB.out HOX.out)
  go_wp2_with fail
  go_loopw [8] (fun i wr => ∃ k : Nat, i = .int .i64 k ∧ k ≤ sn ∧ Fill w0 wr wc.heap.size 53 (sn * 3) ((cs.take k).flatMap Cm.z)) (fun i _ => sn - (intOf i).toNat)
  case atStart => exact ⟨0, rfl, by omega, by simpa using HF0.out⟩
  case round =>
    obtain ⟨k, rfl, hk, hF⟩ := hrel
    have hbw : Below w.heap.size w wr := HB0.out.trans (hF.below (by omega))
    have cX := hF.cell (p := ⟨w.heap.size, 8, none⟩) HX0.out (by show w.heap.size ≠ wc.heap.size; omega)
    have cO := hF.cell (p := ⟨w.heap.size + 1 + 1, 8, none⟩) HO0.out (by show w.heap.size + 1 + 1 ≠ wc.heap.size; omega)
    have lG : wc.heap.size < wr.heap.size := by have := hF.kept.size; have := HN0.out; omega
    have lX : w.heap.size < wr.heap.size := by omega
    have lO' : w.heap.size + 1 + 1 < wr.heap.size := by omega
    have k0 : (0 : Int) ≤ (k : Int) := by omega
    have hsn : sn ≤ 1048576 := HMc.out
    by_cases hlt : k < sn
    · have k1 : (k : Int) < (sn : Int) := by omega
      obtain ⟨b0, o0, ha0, hc0⟩ := HRc.out (by have := HLc.out; omega)
      obtain ⟨y, hy⟩ : ∃ y, cs[k]? = some y := ⟨cs[k]'(by have := HLc.out; omega), by simp⟩
      have R0 := hidMk (rangeAt_below (hc0 k y hy) hbw (Nat.le_refl _))
      have HT := hidMk (hF.there (o := k * 3) (n := 3) (by have : (k + 1) * 3 ≤ sn * 3 := Nat.mul_le_mul_right 3 hlt; omega))
      have HF := hidMk hF
      have HY := hidMk hy
      clear hc0 hy hF hbw
      subst ha0
      obtain ⟨x1, x2, x3⟩ := y
      simp only [Cm.a] at R0
      go_upto_block 5 with fail
      go_cut [9] from 125 to 147 (fun _ wd => Fill w0 wd wc.heap.size 53 (sn * 3) ((cs.take (k + 1)).flatMap Cm.z))
      case first =>
        have HNX := hidMk (HF.out.next Cm.z Cm.z_len HLc.out HY.out ((Below.refl _ wr).alloc (Nat.le_refl _) (.cells #[.int .u16 x1, .int .u32 x2, .string x3] 90)))
        go_wp2_with (first | (refine wpList_load_mid rfl 90 _ rfl b0 (o0 + k * 3) rfl _ _ R0.out Try.underlying90 rfl info90 ?_) | (refine wpList_store_new rfl 90 _ _ rfl _ _ _ rfl _ rfl (by simp) rfl info90 rfl rfl ?_) | (refine wpList_store_list rfl 53 _ _ rfl wc.heap.size (k * 3) _ rfl rfl (World.there_alloc HT.out _) info53 rfl ?_))
        go_meet
        case rel => exact HNX.out
      case rest =>
        have HNX := hidMk hcut
        clear hcut
        go_wp2_with fail
        go_light
        exact ⟨⟨k + 1, by go_num, by omega, HNX.out⟩, by simp [intOf]; omega⟩
    · have hkn : k = sn := by omega
      subst hkn
      have HF := hidMk hF
      clear hF
      go_wp2_with fail
      go_meet
      case rel => exact ⟨_, HS0.out.fill HF.out (Nat.le_refl _) (by omega), HF.out.done Cm.z Cm.z_len HLc.out (by omega) HMc.out, _, rfl⟩
end Go.Proofs.Qxb6619005a
