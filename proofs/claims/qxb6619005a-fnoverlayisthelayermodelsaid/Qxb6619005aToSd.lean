import Derived.Test.Qxb6619005aPiece
namespace Go.Proofs.Qxb6619005a
open Go.RowKit

theorem inf110 : (Try.prog.info? 110).map (fun i => (i.size, i.bytes, i.zero.map (·.cells.size))) = some (3, 3, some 3) := by kernel_rfl
attribute [local go_sem ↓] pre110
attribute [local go_sem] ok110 vblk_mk voff_mk vcells_mk

set_option maxRecDepth 100000 in
set_option maxHeartbeats 8000000 in
theorem toSd (s : Sl) (w wc : World) (X G B bo : Nat) (hta : Below w.heap.size w wc) (hcx : wc.cell? ⟨X, 10, none⟩ = some (.pointer (some ⟨B, bo, none⟩))) (hcb : wc.cell? ⟨B, bo + 2, none⟩ = some (.slice s.a s.n s.c)) (ds : List Value) (hob : wc.heap[G]? = some (.cells ds.toArray 102 (0, 0))) (hox : ds[2]? = some (.slice none 0 0)) (hG : w.heap.size + 3 ≤ G) (hXG : X < G) (hB : B < w.heap.size) (ss : List Sd) (hls : ss.length = s.n) (hms : s.n ≤ 1048576) (hrs : ARow Sd.z 3 w s.a ss) (hzs : s.a = none → s.n = 0 ∧ s.c = 0)
    (c0 c2 c3 c4 c5 c6 c7 c8 c9 c10 c11 c13 c14 c15 c16 c17 c18 c19 c20 c21 c22 c23 c24 c25 c26 c27 c28 c29 c30 c31 c32 c33 c34 c35 c36 c37 c38 c39 c40 c41 c42 c43 c44 c45 c46 c47 c48 c49 c50 c51 c52 c53 c54 c55 c56 c57 c58 c59 c60 c61 c62 c63 c64 c65 c66 c67 c68 c69 c70 c71 c72 c73 c74 c75 c76 c77 c78 c79 c80 c81 c82 c83 c84 c85 c86 c87 c88 c89 c90 c91 c92 c93 c94 c95 c96 c97 c98 c99 c100 c101 c102 c103 c104 c105 c106 c107 c108 c109 c110 c111 c112 c113 c114 c115 c116 c117 c118 c119 c120 c121 c122 c123 c124 c125 c126 c127 c128 c129 c130 c131 c132 c133 c134 c135 c136 c137 c138 c139 c140 c141 c142 c143 c144 c145 c146 c147 c148 c149 c150 c151 c152 c153 c154 c155 c156 c157 c158 c159 c160 c161 c162 c163 c164 c165 c166 c167 c168 c169 c170 c171 c172 c173 c174 c175 c176 c177 c178 c179 c180 c181 c182 c183 c184 c185 c186 c187 c188 c189 c190 c191 c192 c193 c194 c195 c196 c197 c198 c199 c200 c201 c202 c203 c204 c205 c206 c207 c208 c209 c210 c211 c212 c213 c214 c215 c216 c217 c218 c219 c220 c221 c222 c223 c224 c225 c226 c227 c228 c229 c230 c231 c232 c233 c234 c235 c236 c237 c238 c239 c240 c241 c242 c243 c244 c245 c246 c247 c248 c249 c250 c251 c252 c253 c254 c255 c256 c257 c258 c259 c260 c261 c262 c263 c264 c265 c266 c267 c269 c270 c271 c272 c273 c274 c275 c276 c277 c278 c279 c280 c281 c282 c283 c284 c285 c286 c287 c288 c289 c290 c291 c292 c293 c294 c295 c296 c297 c298 c299 c300 c301 c302 c303 c304 c305 c306 c307 c308 c309 c310 c311 c312 c313 c314 c315 c316 c317 c318 c319 c320 c321 c322 c323 c324 c325 c326 c327 c328 c329 c330 c331 c332 c333 c334 c335 c336 c337 c338 c339 c340 c341 c342 c343 c344 c345 c346 c347 c348 c349 c350 c351 c352 c353 c354 c355 c356 c357 c358 c359 c360 c361 c362 c363 c364 c365 c366 c367 c368 c369 c370 c371 c372 c373 c374 c375 c376 c377 c378 c379 c380 c381 c382 c383 c384 c385 c386 c387 c388 c389 c390 c391 c392 c393 c394 c395 c396 c397 c398 c399 c400 c401 c402 c403 c404 c405 c406 c407 c408 c409 c410 c411 c412 c413 c414 c415 c416 c417 c418 c419 c420 c421 c422 c423 c424 c425 c426 c427 c428 c429 c430 c431 c432 c433 c434 c435 c436 c437 c438 c439 c440 c441 c442 c443 c444 c445 c446 c447 c448 c449 c450 c451 c452 c453 c454 c455 c456 c457 c458 c459 c460 c461 c462 c463 c464 c465 c466 c467 c468 c469 c470 c471 c472 c473 c474 c475 c476 c477 c478 c479 c480 c481 c482 c483 c484 c485 c486 : Value) (J K : Act → World → Prop) (Q : Exit → Act → World → Prop) (hJ : ∀ (a' : Act) (w' : World), Met J a' w' → K a' w')
    (hI : ∀ (a' : Act) (w' : World), (∃ u15 u16 u263 u264 u265 u266 u267 u268 u269 u270 u271 u272 u273 u274 u275 u276 u277 u278 u279 u280 u281 u282 u283 u284 u285 u286 u287 u288 u289 u290 u291 u292 u293 u294 u295 u296 u297 u298 u299 u300 u301 u302 u303 u304 u305 u306 u307 u308 : Value, (∃ v, Seg wc w' (G) 2 v ∧ w'.ownsRow (G + 1) 110 3 v s.n (ss.flatMap Sd.a) ∧ ∃ a, v = .slice a s.n s.n) ∧ a' = ⟨#[c0, .pointer (some ⟨X, 0, none⟩), c2, c3, c4, c5, c6, c7, c8, c9, c10, c11, .pointer (some ⟨G, 0, none⟩), c13, c14, u15, u16, c17, c18, c19, c20, c21, c22, c23, c24, c25, c26, c27, c28, c29, c30, c31, c32, c33, c34, c35, c36, c37, c38, c39, c40, c41, c42, c43, c44, c45, c46, c47, c48, c49, c50, c51, c52, c53, c54, c55, c56, c57, c58, c59, c60, c61, c62, c63, c64, c65, c66, c67, c68, c69, c70, c71, c72, c73, c74, c75, c76, c77, c78, c79, c80, c81, c82, c83, c84, c85, c86, c87, c88, c89, c90, c91, c92, c93, c94, c95, c96, c97, c98, c99, c100, c101, c102, c103, c104, c105, c106, c107, c108, c109, c110, c111, c112, c113, c114, c115, c116, c117, c118, c119, c120, c121, c122, c123, c124, c125, c126, c127, c128, c129, c130, c131, c132, c133, c134, c135, c136, c137, c138, c139, c140, c141, c142, c143, c144, c145, c146, c147, c148, c149, c150, c151, c152, c153, c154, c155, c156, c157, c158, c159, c160, c161, c162, c163, c164, c165, c166, c167, c168, c169, c170, c171, c172, c173, c174, c175, c176, c177, c178, c179, c180, c181, c182, c183, c184, c185, c186, c187, c188, c189, c190, c191, c192, c193, c194, c195, c196, c197, c198, c199, c200, c201, c202, c203, c204, c205, c206, c207, c208, c209, c210, c211, c212, c213, c214, c215, c216, c217, c218, c219, c220, c221, c222, c223, c224, c225, c226, c227, c228, c229, c230, c231, c232, c233, c234, c235, c236, c237, c238, c239, c240, c241, c242, c243, c244, c245, c246, c247, c248, c249, c250, c251, c252, c253, c254, c255, c256, c257, c258, c259, c260, c261, c262, u263, u264, u265, u266, u267, u268, u269, u270, u271, u272, u273, u274, u275, u276, u277, u278, u279, u280, u281, u282, u283, u284, u285, u286, u287, u288, u289, u290, u291, u292, u293, u294, u295, u296, u297, u298, u299, u300, u301, u302, u303, u304, u305, u306, u307, u308, c309, c310, c311, c312, c313, c314, c315, c316, c317, c318, c319, c320, c321, c322, c323, c324, c325, c326, c327, c328, c329, c330, c331, c332, c333, c334, c335, c336, c337, c338, c339, c340, c341, c342, c343, c344, c345, c346, c347, c348, c349, c350, c351, c352, c353, c354, c355, c356, c357, c358, c359, c360, c361, c362, c363, c364, c365, c366, c367, c368, c369, c370, c371, c372, c373, c374, c375, c376, c377, c378, c379, c380, c381, c382, c383, c384, c385, c386, c387, c388, c389, c390, c391, c392, c393, c394, c395, c396, c397, c398, c399, c400, c401, c402, c403, c404, c405, c406, c407, c408, c409, c410, c411, c412, c413, c414, c415, c416, c417, c418, c419, c420, c421, c422, c423, c424, c425, c426, c427, c428, c429, c430, c431, c432, c433, c434, c435, c436, c437, c438, c439, c440, c441, c442, c443, c444, c445, c446, c447, c448, c449, c450, c451, c452, c453, c454, c455, c456, c457, c458, c459, c460, c461, c462, c463, c464, c465, c466, c467, c468, c469, c470, c471, c472, c473, c474, c475, c476, c477, c478, c479, c480, c481, c482, c483, c484, c485, c486], []⟩) → J a' w') :
    Code.wp Try.prog (piece6d 1) (Exit.then K Q) ⟨#[c0, .pointer (some ⟨X, 0, none⟩), c2, c3, c4, c5, c6, c7, c8, c9, c10, c11, .pointer (some ⟨G, 0, none⟩), c13, c14, c15, c16, c17, c18, c19, c20, c21, c22, c23, c24, c25, c26, c27, c28, c29, c30, c31, c32, c33, c34, c35, c36, c37, c38, c39, c40, c41, c42, c43, c44, c45, c46, c47, c48, c49, c50, c51, c52, c53, c54, c55, c56, c57, c58, c59, c60, c61, c62, c63, c64, c65, c66, c67, c68, c69, c70, c71, c72, c73, c74, c75, c76, c77, c78, c79, c80, c81, c82, c83, c84, c85, c86, c87, c88, c89, c90, c91, c92, c93, c94, c95, c96, c97, c98, c99, c100, c101, c102, c103, c104, c105, c106, c107, c108, c109, c110, c111, c112, c113, c114, c115, c116, c117, c118, c119, c120, c121, c122, c123, c124, c125, c126, c127, c128, c129, c130, c131, c132, c133, c134, c135, c136, c137, c138, c139, c140, c141, c142, c143, c144, c145, c146, c147, c148, c149, c150, c151, c152, c153, c154, c155, c156, c157, c158, c159, c160, c161, c162, c163, c164, c165, c166, c167, c168, c169, c170, c171, c172, c173, c174, c175, c176, c177, c178, c179, c180, c181, c182, c183, c184, c185, c186, c187, c188, c189, c190, c191, c192, c193, c194, c195, c196, c197, c198, c199, c200, c201, c202, c203, c204, c205, c206, c207, c208, c209, c210, c211, c212, c213, c214, c215, c216, c217, c218, c219, c220, c221, c222, c223, c224, c225, c226, c227, c228, c229, c230, c231, c232, c233, c234, c235, c236, c237, c238, c239, c240, c241, c242, c243, c244, c245, c246, c247, c248, c249, c250, c251, c252, c253, c254, c255, c256, c257, c258, c259, c260, c261, c262, c263, c264, c265, c266, c267, .bool (!s.a.isNone), c269, c270, c271, c272, c273, c274, c275, c276, c277, c278, c279, c280, c281, c282, c283, c284, c285, c286, c287, c288, c289, c290, c291, c292, c293, c294, c295, c296, c297, c298, c299, c300, c301, c302, c303, c304, c305, c306, c307, c308, c309, c310, c311, c312, c313, c314, c315, c316, c317, c318, c319, c320, c321, c322, c323, c324, c325, c326, c327, c328, c329, c330, c331, c332, c333, c334, c335, c336, c337, c338, c339, c340, c341, c342, c343, c344, c345, c346, c347, c348, c349, c350, c351, c352, c353, c354, c355, c356, c357, c358, c359, c360, c361, c362, c363, c364, c365, c366, c367, c368, c369, c370, c371, c372, c373, c374, c375, c376, c377, c378, c379, c380, c381, c382, c383, c384, c385, c386, c387, c388, c389, c390, c391, c392, c393, c394, c395, c396, c397, c398, c399, c400, c401, c402, c403, c404, c405, c406, c407, c408, c409, c410, c411, c412, c413, c414, c415, c416, c417, c418, c419, c420, c421, c422, c423, c424, c425, c426, c427, c428, c429, c430, c431, c432, c433, c434, c435, c436, c437, c438, c439, c440, c441, c442, c443, c444, c445, c446, c447, c448, c449, c450, c451, c452, c453, c454, c455, c456, c457, c458, c459, c460, c461, c462, c463, c464, c465, c466, c467, c468, c469, c470, c471, c472, c473, c474, c475, c476, c477, c478, c479, c480, c481, c482, c483, c484, c485, c486], []⟩ wc := by
  have q55 : ∀ (w : World) (a : Option Addr) (n c : Nat), (binOp .neq 55 (.slice a n c) (.slice none 0 0)).run Try.prog w = .ok (.bool (!a.isNone)) w := fun w a n c => run_neq_slice_nil_any w 55 108 a n c 0 0 Try.underlying55
  have HTA := hidMk hta
  have HLs := hidMk hls
  have HMs := hidMk hms
  have HRs := hidMk hrs
  have HZs := hidMk hzs
  have HCX := hidMk hcx
  have HCB := hidMk hcb
  have HG := hidMk (show w.heap.size ≤ G by omega)
  have HXG := hidMk (show X ≠ G by omega)
  have HBG := hidMk (show B ≠ G by omega)
  have lO := lt_of_heap hob
  have hws := hta.size
  have HOB := hidMk hob
  have HOX := hidMk hox
  have cO : wc.cell? ⟨G, 2, none⟩ = some (.slice none 0 0) := (cell_of_row _ _ 2 _ _ (0, 0) hob).trans (List.getElem?_toArray.trans hox)
  have fO : wc.frozen? ⟨G, 2, none⟩ = false := frozen_of_row _ _ _ _ _ hob
  have cX := hcx
  have cB := hcb
  clear hta hls hms hrs hzs hcx hcb hob hox
  conv => arg 2; whnf
  obtain ⟨sa, sn, sc⟩ := s
  cases sa with
  | none =>
    have HE := hidMk (HZs.out rfl)
    go_wp2_with fail
    go_meet
    case rel =>
      obtain ⟨e1, e2⟩ := HE.out
      have e3 : ss = [] := List.eq_nil_of_length_eq_zero (by have := HLs.out; omega)
      subst e1 e3
      exact ⟨_, Seg.same cO, owns_nil _ _ _ _, none, rfl⟩
  | some x =>
    obtain ⟨cur, hcl, hmk⟩ := make_any Try.underlying99 inf110 sn HMs.out (by omega)
    go_wp2_with fail
    obtain ⟨w0, hw0⟩ : ∃ w0, w0 = (wc.setCell ⟨G, 2, none⟩ (.slice (some ⟨wc.heap.size, 0, none⟩) sn sn)).alloc (.cells cur.toArray 110) := ⟨_, rfl⟩
    rw [← hw0]
    have HF0 : Hid (Fill w0 w0 wc.heap.size 110 (sn * 3) []) := hidMk (by rw [hw0]; exact Fill.start (cur := cur) (by have := heap_alloc_new (wc.setCell ⟨G, 2, none⟩ (.slice (some ⟨wc.heap.size, 0, none⟩) sn sn)) (.cells cur.toArray 110); simpa using this) hcl)
    have HS0 : Hid (Seg wc w0 (G) 2 (.slice (some ⟨wc.heap.size, 0, none⟩) sn sn)) := hidMk (by rw [hw0]; exact seg_start _ _ _ _ _ (by omega))
    have HN0 : Hid (wc.heap.size < w0.heap.size) := hidMk (by rw [hw0]; simp)
    have HB0 : Hid (Below w.heap.size w w0) := hidMk (HS0.out.below HTA.out HG.out (by omega))
    have HX0 : Hid (w0.cell? ⟨X, 10, none⟩ = some (.pointer (some ⟨B, bo, none⟩))) := hidMk (HS0.out.cell HCX.out HXG.out)
    have HY0 : Hid (w0.cell? ⟨B, bo + 2, none⟩ = some (.slice (some x) sn sc)) := hidMk (HS0.out.cell HCB.out HBG.out)
    have HO0 : Hid (w0.cell? ⟨G, 2, none⟩ = some (.slice (some ⟨wc.heap.size, 0, none⟩) sn sn)) := hidMk (HS0.out.set HOB.out HOX.out)
    clear hw0 hcl hmk cO fO cX cB
    go_loopw [15] (fun i wr => ∃ k : Nat, i = .int .i64 k ∧ k ≤ sn ∧ Fill w0 wr wc.heap.size 110 (sn * 3) ((ss.take k).flatMap Sd.a)) (fun i _ => sn - (intOf i).toNat)
    case atStart => exact ⟨0, rfl, by omega, by simpa using HF0.out⟩
    case round =>
      obtain ⟨k, rfl, hk, hF⟩ := hrel
      have hbw : Below w.heap.size w wr := HB0.out.trans (hF.below (by omega))
      have cX := hF.cell (p := ⟨X, 10, none⟩) HX0.out (by show X ≠ wc.heap.size; omega)
      have cB := hF.cell (p := ⟨B, bo + 2, none⟩) HY0.out (by show B ≠ wc.heap.size; omega)
      have cO := hF.cell (p := ⟨G, 2, none⟩) HO0.out (by show G ≠ wc.heap.size; omega)
      have lG : wc.heap.size < wr.heap.size := by have := hF.kept.size; have := HN0.out; omega
      have lX : X < wr.heap.size := by omega
      have lO' : G < wr.heap.size := by omega
      have lB : B < wr.heap.size := by omega
      have k0 : (0 : Int) ≤ (k : Int) := by omega
      have hsn : sn ≤ 1048576 := HMs.out
      by_cases hlt : k < sn
      · have k1 : (k : Int) < (sn : Int) := by omega
        obtain ⟨b0, o0, ha0, hc0⟩ := HRs.out (by have := HLs.out; omega)
        obtain ⟨y, hy⟩ : ∃ y, ss[k]? = some y := ⟨ss[k]'(by have := HLs.out; omega), by simp⟩
        have R0 := hidMk (rangeAt_below (hc0 k y hy) hbw (Nat.le_refl _))
        have HT := hidMk (hF.there (o := k * 3) (n := 3) (by have : (k + 1) * 3 ≤ sn * 3 := Nat.mul_le_mul_right 3 hlt; omega))
        have HF := hidMk hF
        have HY := hidMk hy
        clear hc0 hy hF hbw
        have ha1 := Option.some.inj ha0
        subst ha1
        clear ha0
        obtain ⟨x1, x2, x3⟩ := y
        simp only [Sd.z] at R0
        go_upto_block 11 with fail
        go_cut [16] from 279 to 308 (fun _ wd => Fill w0 wd wc.heap.size 110 (sn * 3) ((ss.take (k + 1)).flatMap Sd.a))
        case first =>
          go_wp2_with (first | (refine wpList_load_mid rfl 108 _ rfl b0 (o0 + k * 3) rfl _ _ R0.out Try.underlying108 rfl info108 ?_) | (refine wpList_store_new rfl 108 _ _ rfl _ _ _ rfl _ rfl (by simp) rfl info108 rfl rfl ?_))
          obtain ⟨w1, hw1⟩ : ∃ w1, w1 = wr.alloc (.cells #[.int .u8 x1, .int .u8 x2, .int .u8 x3] 108) := ⟨_, rfl⟩
          rw [← hw1]
          have d : w1.cell? ⟨G, 2, none⟩ = some (.slice (some ⟨wc.heap.size, 0, none⟩) sn sn) := by rw [hw1]; exact cell_below cO ((Below.refl _ wr).alloc (Nat.le_refl _) _)
          have d0 : w1.cell? ⟨wr.heap.size, 0, none⟩ = some (.int .u8 x1) := by rw [hw1]; exact (cell_of_row _ wr.heap.size 0 _ _ (0, 0) (heap_alloc_new wr _)).trans rfl
          have d1 : w1.cell? ⟨wr.heap.size, 1, none⟩ = some (.int .u8 x2) := by rw [hw1]; exact (cell_of_row _ wr.heap.size 1 _ _ (0, 0) (heap_alloc_new wr _)).trans rfl
          have d2 : w1.cell? ⟨wr.heap.size, 2, none⟩ = some (.int .u8 x3) := by rw [hw1]; exact (cell_of_row _ wr.heap.size 2 _ _ (0, 0) (heap_alloc_new wr _)).trans rfl
          have HB1 : Hid (Below wr.heap.size wr w1) := hidMk (by rw [hw1]; exact (Below.refl _ wr).alloc (Nat.le_refl _) _)
          have nO : (⟨G, 2, none⟩ : Addr).block ≠ wc.heap.size := by show G ≠ wc.heap.size; omega
          have nX : ∀ j, (⟨wr.heap.size, j, none⟩ : Addr).block ≠ wc.heap.size := fun j => by show wr.heap.size ≠ wc.heap.size; omega
          clear hw1 cX cO cB
          go_region_held3 (fun w' => w'.cell? ⟨G, 2, none⟩ = some (.slice (some ⟨wc.heap.size, 0, none⟩) sn sn) ∧ w'.cell? ⟨wr.heap.size, 0, none⟩ = some (.int .u8 x1) ∧ w'.cell? ⟨wr.heap.size, 1, none⟩ = some (.int .u8 x2) ∧ w'.cell? ⟨wr.heap.size, 2, none⟩ = some (.int .u8 x3))
            (first | (with_reducible exact ⟨cell_belowD d hh, cell_belowD d0 hh, cell_belowD d1 hh, cell_belowD d2 hh⟩) | (with_reducible exact ⟨cell_setCells_far (cell_belowD d hh) nO _ _, cell_setCells_far (cell_belowD d0 hh) (nX 0) _ _, cell_setCells_far (cell_belowD d1 hh) (nX 1) _ _, cell_setCells_far (cell_belowD d2 hh) (nX 2) _ _⟩) | go_keep)
            ((go_at_call 13; refine (toEnd_any x1 x2 _).mono ?_; rintro _ w2 ⟨rfl, hh⟩; have hth := there_belowD (there_below HT.out HB1.out) hh))
          have HB3 := hidMk (HB1.out.drew.trans (hh.mono (by have := HB1.out.size; simpa using this)))
          have HNX := hidMk (HF.out.next Sd.a Sd.a_len HLs.out HY.out HB3.out)
          go_wp2_with fail
          go_meet
          case rel => exact HNX.out
        case rest =>
          have HNX := hidMk hcut
          clear hcut
          go_wp2_with fail
          go_light
          exact ⟨⟨k + 1, by go_num, by omega, HNX.out⟩, by simp [intOf]; omega⟩
      · have hkn : k = sn := by omega
        subst hkn
        have HF := hidMk hF
        clear hF
        go_wp2_with fail
        go_meet
        case rel => exact ⟨_, HS0.out.fill HF.out (Nat.le_refl _) (by omega), HF.out.done Sd.a Sd.a_len HLs.out (by omega) HMs.out, _, rfl⟩
end Go.Proofs.Qxb6619005a
