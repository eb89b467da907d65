import Derived.Test.Qxb6619005aView
import Derived.Test.Qxb6619005aToRd
import Derived.Test.Qxb6619005aToSd
import Derived.Test.Qxb6619005aToFd
namespace Go.Proofs.Qxb6619005a
open Go.RowKit

set_option maxRecDepth 100000 in
set_option maxHeartbeats 8000000 in
theorem toDel (D : Option Addr) (d : Option DelV) (w wc : World) (args outs zeros : List Value) (hta : TA w wc w.heap.size 33 45 args outs zeros) (hax : args[10]? = some (.pointer D)) (hox : outs[10]? = some (.pointer none)) (hd : DelIs w D d) (hok : DelOk w D)
    (c0 c2 c4 c5 c6 c7 c8 c9 c10 c11 c12 c13 c14 c15 c16 c17 c18 c19 c20 c21 c22 c23 c24 c25 c26 c27 c28 c29 c30 c31 c32 c33 c34 c35 c36 c37 c38 c39 c40 c41 c42 c43 c44 c45 c46 c47 c48 c49 c50 c51 c52 c53 c54 c55 c56 c57 c58 c59 c60 c61 c62 c63 c64 c65 c66 c67 c68 c69 c70 c71 c72 c73 c74 c75 c76 c77 c78 c79 c80 c81 c82 c83 c84 c85 c86 c87 c88 c89 c90 c91 c92 c93 c94 c95 c96 c97 c98 c99 c100 c101 c102 c103 c104 c105 c106 c107 c108 c109 c110 c111 c112 c113 c114 c115 c116 c117 c118 c119 c120 c121 c122 c123 c124 c125 c126 c127 c128 c129 c130 c131 c132 c133 c134 c135 c136 c137 c138 c139 c140 c141 c142 c143 c144 c145 c146 c147 c148 c149 c150 c151 c152 c153 c154 c155 c156 c157 c158 c159 c160 c161 c162 c163 c164 c165 c166 c167 c168 c169 c170 c171 c172 c173 c174 c175 c176 c177 c178 c179 c180 c181 c182 c183 c184 c185 c186 c187 c188 c189 c190 c191 c192 c193 c194 c195 c196 c197 c198 c199 c200 c201 c202 c203 c204 c205 c207 c208 c209 c210 c211 c212 c213 c214 c215 c216 c217 c218 c219 c220 c221 c222 c223 c224 c225 c226 c227 c228 c229 c230 c231 c232 c233 c234 c235 c236 c237 c238 c239 c240 c241 c242 c243 c244 c245 c246 c247 c248 c249 c250 c251 c252 c253 c254 c255 c256 c257 c258 c259 c260 c261 c262 c263 c264 c265 c266 c267 c268 c269 c270 c271 c272 c273 c274 c275 c276 c277 c278 c279 c280 c281 c282 c283 c284 c285 c286 c287 c288 c289 c290 c291 c292 c293 c294 c295 c296 c297 c298 c299 c300 c301 c302 c303 c304 c305 c306 c307 c308 c309 c310 c311 c312 c313 c314 c315 c316 c317 c318 c319 c320 c321 c322 c323 c324 c325 c326 c327 c328 c329 c330 c331 c332 c333 c334 c335 c336 c337 c338 c339 c340 c341 c342 c343 c344 c345 c346 c347 c348 c349 c350 c351 c352 c353 c354 c355 c356 c357 c358 c359 c360 c361 c362 c363 c364 c365 c366 c367 c368 c369 c370 c371 c372 c373 c374 c375 c376 c377 c378 c379 c380 c381 c382 c383 c384 c385 c386 c387 c388 c389 c390 c391 c392 c393 c394 c395 c396 c397 c398 c399 c400 c401 c402 c403 c404 c405 c406 c407 c408 c409 c410 c411 c412 c413 c414 c415 c416 c417 c418 c419 c420 c421 c422 c423 c424 c425 c426 c427 c428 c429 c430 c431 c432 c433 c434 c435 c436 c437 c438 c439 c440 c441 c442 c443 c444 c445 c446 c447 c448 c449 c450 c451 c452 c453 c454 c455 c456 c457 c458 c459 c460 c461 c462 c463 c464 c465 c466 c467 c468 c469 c470 c471 c472 c473 c474 c475 c476 c477 c478 c479 c480 c481 c482 c483 c484 c485 c486 : Value) (J K : Act → World → Prop) (Q : Exit → Act → World → Prop) (hJ : ∀ (a' : Act) (w' : World), Met J a' w' → K a' w')
    (hI : ∀ (a' : Act) (w' : World), (∃ u12 u13 u14 u15 u16 u17 u18 u204 u205 u206 u207 u208 u209 u210 u211 u212 u213 u214 u215 u216 u217 u218 u219 u220 u221 u222 u223 u224 u225 u226 u227 u228 u229 u230 u231 u232 u233 u234 u235 u236 u237 u238 u239 u240 u241 u242 u243 u244 u245 u246 u247 u248 u249 u250 u251 u252 u253 u254 u255 u256 u257 u258 u259 u260 u261 u262 u263 u264 u265 u266 u267 u268 u269 u270 u271 u272 u273 u274 u275 u276 u277 u278 u279 u280 u281 u282 u283 u284 u285 u286 u287 u288 u289 u290 u291 u292 u293 u294 u295 u296 u297 u298 u299 u300 u301 u302 u303 u304 u305 u306 u307 u308 u309 u310 u311 u312 u313 u314 u315 u316 u317 u318 u319 u320 u321 u322 u323 u324 u325 u326 u327 u328 u329 u330 u331 u332 u333 u334 u335 u336 u337 u338 u339 u340 u341 u342 u343 u344 u345 u346 u347 u348 u349 u350 u351 u352 u353 u354 u355 : Value, (∃ v, Seg wc w' (w.heap.size + 1 + 1) 10 v ∧ DelA w' (w.heap.size + 3) 102 106 110 114 v d ∧ ∃ A, v = .pointer A) ∧ a' = ⟨#[c0, .pointer (some ⟨w.heap.size, 0, none⟩), c2, .pointer (some ⟨w.heap.size + 1 + 1, 0, none⟩), c4, c5, c6, c7, c8, c9, c10, c11, u12, u13, u14, u15, u16, u17, u18, c19, c20, c21, c22, c23, c24, c25, c26, c27, c28, c29, c30, c31, c32, c33, c34, c35, c36, c37, c38, c39, c40, c41, c42, c43, c44, c45, c46, c47, c48, c49, c50, c51, c52, c53, c54, c55, c56, c57, c58, c59, c60, c61, c62, c63, c64, c65, c66, c67, c68, c69, c70, c71, c72, c73, c74, c75, c76, c77, c78, c79, c80, c81, c82, c83, c84, c85, c86, c87, c88, c89, c90, c91, c92, c93, c94, c95, c96, c97, c98, c99, c100, c101, c102, c103, c104, c105, c106, c107, c108, c109, c110, c111, c112, c113, c114, c115, c116, c117, c118, c119, c120, c121, c122, c123, c124, c125, c126, c127, c128, c129, c130, c131, c132, c133, c134, c135, c136, c137, c138, c139, c140, c141, c142, c143, c144, c145, c146, c147, c148, c149, c150, c151, c152, c153, c154, c155, c156, c157, c158, c159, c160, c161, c162, c163, c164, c165, c166, c167, c168, c169, c170, c171, c172, c173, c174, c175, c176, c177, c178, c179, c180, c181, c182, c183, c184, c185, c186, c187, c188, c189, c190, c191, c192, c193, c194, c195, c196, c197, c198, c199, c200, c201, c202, c203, u204, u205, u206, u207, u208, u209, u210, u211, u212, u213, u214, u215, u216, u217, u218, u219, u220, u221, u222, u223, u224, u225, u226, u227, u228, u229, u230, u231, u232, u233, u234, u235, u236, u237, u238, u239, u240, u241, u242, u243, u244, u245, u246, u247, u248, u249, u250, u251, u252, u253, u254, u255, u256, u257, u258, u259, u260, u261, u262, u263, u264, u265, u266, u267, u268, u269, u270, u271, u272, u273, u274, u275, u276, u277, u278, u279, u280, u281, u282, u283, u284, u285, u286, u287, u288, u289, u290, u291, u292, u293, u294, u295, u296, u297, u298, u299, u300, u301, u302, u303, u304, u305, u306, u307, u308, u309, u310, u311, u312, u313, u314, u315, u316, u317, u318, u319, u320, u321, u322, u323, u324, u325, u326, u327, u328, u329, u330, u331, u332, u333, u334, u335, u336, u337, u338, u339, u340, u341, u342, u343, u344, u345, u346, u347, u348, u349, u350, u351, u352, u353, u354, u355, c356, c357, c358, c359, c360, c361, c362, c363, c364, c365, c366, c367, c368, c369, c370, c371, c372, c373, c374, c375, c376, c377, c378, c379, c380, c381, c382, c383, c384, c385, c386, c387, c388, c389, c390, c391, c392, c393, c394, c395, c396, c397, c398, c399, c400, c401, c402, c403, c404, c405, c406, c407, c408, c409, c410, c411, c412, c413, c414, c415, c416, c417, c418, c419, c420, c421, c422, c423, c424, c425, c426, c427, c428, c429, c430, c431, c432, c433, c434, c435, c436, c437, c438, c439, c440, c441, c442, c443, c444, c445, c446, c447, c448, c449, c450, c451, c452, c453, c454, c455, c456, c457, c458, c459, c460, c461, c462, c463, c464, c465, c466, c467, c468, c469, c470, c471, c472, c473, c474, c475, c476, c477, c478, c479, c480, c481, c482, c483, c484, c485, c486], []⟩) → J a' w') :
    Code.wp Try.prog (piece6 4) (Exit.then K Q) ⟨#[c0, .pointer (some ⟨w.heap.size, 0, none⟩), c2, .pointer (some ⟨w.heap.size + 1 + 1, 0, none⟩), c4, c5, c6, c7, c8, c9, c10, c11, c12, c13, c14, c15, c16, c17, c18, c19, c20, c21, c22, c23, c24, c25, c26, c27, c28, c29, c30, c31, c32, c33, c34, c35, c36, c37, c38, c39, c40, c41, c42, c43, c44, c45, c46, c47, c48, c49, c50, c51, c52, c53, c54, c55, c56, c57, c58, c59, c60, c61, c62, c63, c64, c65, c66, c67, c68, c69, c70, c71, c72, c73, c74, c75, c76, c77, c78, c79, c80, c81, c82, c83, c84, c85, c86, c87, c88, c89, c90, c91, c92, c93, c94, c95, c96, c97, c98, c99, c100, c101, c102, c103, c104, c105, c106, c107, c108, c109, c110, c111, c112, c113, c114, c115, c116, c117, c118, c119, c120, c121, c122, c123, c124, c125, c126, c127, c128, c129, c130, c131, c132, c133, c134, c135, c136, c137, c138, c139, c140, c141, c142, c143, c144, c145, c146, c147, c148, c149, c150, c151, c152, c153, c154, c155, c156, c157, c158, c159, c160, c161, c162, c163, c164, c165, c166, c167, c168, c169, c170, c171, c172, c173, c174, c175, c176, c177, c178, c179, c180, c181, c182, c183, c184, c185, c186, c187, c188, c189, c190, c191, c192, c193, c194, c195, c196, c197, c198, c199, c200, c201, c202, c203, c204, c205, .bool (!D.isNone), c207, c208, c209, c210, c211, c212, c213, c214, c215, c216, c217, c218, c219, c220, c221, c222, c223, c224, c225, c226, c227, c228, c229, c230, c231, c232, c233, c234, c235, c236, c237, c238, c239, c240, c241, c242, c243, c244, c245, c246, c247, c248, c249, c250, c251, c252, c253, c254, c255, c256, c257, c258, c259, c260, c261, c262, c263, c264, c265, c266, c267, c268, c269, c270, c271, c272, c273, c274, c275, c276, c277, c278, c279, c280, c281, c282, c283, c284, c285, c286, c287, c288, c289, c290, c291, c292, c293, c294, c295, c296, c297, c298, c299, c300, c301, c302, c303, c304, c305, c306, c307, c308, c309, c310, c311, c312, c313, c314, c315, c316, c317, c318, c319, c320, c321, c322, c323, c324, c325, c326, c327, c328, c329, c330, c331, c332, c333, c334, c335, c336, c337, c338, c339, c340, c341, c342, c343, c344, c345, c346, c347, c348, c349, c350, c351, c352, c353, c354, c355, c356, c357, c358, c359, c360, c361, c362, c363, c364, c365, c366, c367, c368, c369, c370, c371, c372, c373, c374, c375, c376, c377, c378, c379, c380, c381, c382, c383, c384, c385, c386, c387, c388, c389, c390, c391, c392, c393, c394, c395, c396, c397, c398, c399, c400, c401, c402, c403, c404, c405, c406, c407, c408, c409, c410, c411, c412, c413, c414, c415, c416, c417, c418, c419, c420, c421, c422, c423, c424, c425, c426, c427, c428, c429, c430, c431, c432, c433, c434, c435, c436, c437, c438, c439, c440, c441, c442, c443, c444, c445, c446, c447, c448, c449, c450, c451, c452, c453, c454, c455, c456, c457, c458, c459, c460, c461, c462, c463, c464, c465, c466, c467, c468, c469, c470, c471, c472, c473, c474, c475, c476, c477, c478, c479, c480, c481, c482, c483, c484, c485, c486], []⟩ wc := by
  have q54 : ∀ (w : World) (a : Option Addr) (n c : Nat), (binOp .neq 54 (.slice a n c) (.slice none 0 0)).run Try.prog w = .ok (.bool (!a.isNone)) w := fun w a n c => run_neq_slice_nil_any w 54 104 a n c 0 0 Try.underlying54
  have q55 : ∀ (w : World) (a : Option Addr) (n c : Nat), (binOp .neq 55 (.slice a n c) (.slice none 0 0)).run Try.prog w = .ok (.bool (!a.isNone)) w := fun w a n c => run_neq_slice_nil_any w 55 108 a n c 0 0 Try.underlying55
  have q56 : ∀ (w : World) (a : Option Addr) (n c : Nat), (binOp .neq 56 (.slice a n c) (.slice none 0 0)).run Try.prog w = .ok (.bool (!a.isNone)) w := fun w a n c => run_neq_slice_nil_any w 56 112 a n c 0 0 Try.underlying56
  have HTA := hidMk hta
  have HAX := hidMk hax
  have lO := lt_of_heap hta.out
  have cO : wc.cell? ⟨w.heap.size + 1 + 1, 10, none⟩ = some (.pointer none) := (cell_of_row _ _ 10 _ _ (0, 0) hta.out).trans (List.getElem?_toArray.trans hox)
  have fO : wc.frozen? ⟨w.heap.size + 1 + 1, 10, none⟩ = false := frozen_of_row _ _ _ _ _ hta.out
  have cX : wc.cell? ⟨w.heap.size, 10, none⟩ = some (.pointer D) := (cell_of_row _ _ 10 _ _ (0, 0) hta.box).trans (List.getElem?_toArray.trans hax)
  have lX := lt_of_heap hta.box
  have hbw := hta.below
  clear hta hax hox
  conv => arg 2; whnf
  rcases hd with ⟨hD, hd⟩ | ⟨B, bo, v, r, s, f, hD, hd, h0, h1, h2, h3, hlr, hls, hlf, hr, hs, hf⟩
  · subst hD hd
    clear hok hbw
    go_wp2_with fail
    go_meet
    case rel => exact ⟨_, Seg.same cO, .inl ⟨rfl, rfl⟩, none, rfl⟩
  · subst hD hd
    have HR := hidMk hr
    have HS := hidMk hs
    have HF := hidMk hf
    have HOr := hidMk (hok B bo rfl 1 (by omega) r.a r.n r.c h1)
    have HOs := hidMk (hok B bo rfl 2 (by omega) s.a s.n s.c h2)
    have HOf := hidMk (hok B bo rfl 3 (by omega) f.a f.n f.c h3)
    have HLr := hidMk hlr
    have HLs := hidMk hls
    have HLf := hidMk hlf
    have hB : B < w.heap.size := World.block_lt_of_cell? _ _ h0
    have e0 := cell_below h0 hbw
    have e1 := cell_below h1 hbw
    have lBc : B < wc.heap.size := by have := hbw.size; omega
    have C2 := hidMk (cell_below h2 hbw)
    have C3 := hidMk (cell_below h3 hbw)
    have HBW := hidMk hbw
    have hws := hbw.size
    clear hr hs hf hok hlr hls hlf h0 h1 h2 h3 hbw
    go_upto_if 219 with fail
    obtain ⟨wk, hwk⟩ : ∃ wk, wk = wc.alloc (.cells #[.int .u16 v.fl, .slice none 0 0, .slice none 0 0, .slice none 0 0] 102) := ⟨_, rfl⟩
    rw [← hwk]
    have HBk : Hid (Below wc.heap.size wc wk) := hidMk (by rw [hwk]; exact (Below.refl _ wc).alloc (Nat.le_refl _) _)
    have HGk : Hid (wk.heap[wc.heap.size]? = some (.cells [.int .u16 v.fl, .slice none 0 0, .slice none 0 0, .slice none 0 0].toArray 102 (0, 0))) := hidMk (by rw [hwk]; exact heap_alloc_new wc _)
    have HCX := hidMk (cell_below cX HBk.out)
    have HC1 := hidMk (cell_below e1 HBk.out)
    have HC2 := hidMk (cell_below C2.out HBk.out)
    have HC3 := hidMk (cell_below C3.out HBk.out)
    have CO := hidMk cO
    have FO := hidMk fO
    clear hwk cX e0 e1 C2 C3 cO fO
    go_cut [13, 14] from 214 to 219 (fun _ _ wd => ∃ v', Seg wk wd wc.heap.size 1 v' ∧ wd.ownsRow (wc.heap.size + 1) 106 5 v' r.n (v.rd.flatMap Rd.a) ∧ ∃ a, v' = .slice a r.n r.n)
    case first =>
      rw [isSome_not r.a]
      exact toRd r w _ w.heap.size wc.heap.size B bo (HBW.out.trans (HBk.out.mono (by omega))) HCX.out HC1.out _ HGk.out rfl (by omega) (by omega) hB v.rd HLr.out HOr.out.1 HR.out HOr.out.2 _ _ _ _ _ _ _ _ _ _ _ _ _ _ _ _ _ _ _ _ _ _ _ _ _ _ _ _ _ _ _ _ _ _ _ _ _ _ _ _ _ _ _ _ _ _ _ _ _ _ _ _ _ _ _ _ _ _ _ _ _ _ _ _ _ _ _ _ _ _ _ _ _ _ _ _ _ _ _ _ _ _ _ _ _ _ _ _ _ _ _ _ _ _ _ _ _ _ _ _ _ _ _ _ _ _ _ _ _ _ _ _ _ _ _ _ _ _ _ _ _ _ _ _ _ _ _ _ _ _ _ _ _ _ _ _ _ _ _ _ _ _ _ _ _ _ _ _ _ _ _ _ _ _ _ _ _ _ _ _ _ _ _ _ _ _ _ _ _ _ _ _ _ _ _ _ _ _ _ _ _ _ _ _ _ _ _ _ _ _ _ _ _ _ _ _ _ _ _ _ _ _ _ _ _ _ _ _ _ _ _ _ _ _ _ _ _ _ _ _ _ _ _ _ _ _ _ _ _ _ _ _ _ _ _ _ _ _ _ _ _ _ _ _ _ _ _ _ _ _ _ _ _ _ _ _ _ _ _ _ _ _ _ _ _ _ _ _ _ _ _ _ _ _ _ _ _ _ _ _ _ _ _ _ _ _ _ _ _ _ _ _ _ _ _ _ _ _ _ _ _ _ _ _ _ _ _ _ _ _ _ _ _ _ _ _ _ _ _ _ _ _ _ _ _ _ _ _ _ _ _ _ _ _ _ _ _ _ _ _ _ _ _ _ _ _ _ _ _ _ _ _ _ _ _ _ _ _ _ _ _ _ _ _ _ _ _ _ _ _ _ _ _ _ _ _ _ _ _ _ _ _ _ _ _ _ _ _ _ _ _ _ _ _ _ _ _ _ _ _ _ _ _ _ _ _ _ _ _ _ _ _ _ _ _ _ _ _ _ _ _ _ _ _ _ _ _ _ _ _ _ _ _ _ _ _ _ _ _ _ _ _ _ _ _ _ _ _ _ _ _ _ _ _ _ _ _ _ _ _ _ _ _ _ _ _ _ _ _ _ _ _ _ _ _ _ _ _ _ _ _ _ _ _ _ _ _ (by assumption) (by assumption)
    case rest =>
      obtain ⟨vr, hseg, hown, ⟨adr, rfl⟩⟩ := hcut
      rename World => wl
      have HBn := hidMk (hseg.below HBk.out (Nat.le_refl _) HBk.out.size)
      have HGn := hidMk (hseg.out _ _ HGk.out)
      have HCXn := hidMk (hseg.cell HCX.out (by show w.heap.size ≠ _; omega))
      have HC2n := hidMk (hseg.cell HC2.out (by show B ≠ _; omega))
      have HC3n := hidMk (hseg.cell HC3.out (by show B ≠ _; omega))
      have HWr := hidMk hown
      clear HBk HGk HCX HC1 HC2 HC3 hseg hown
      have HBk := HBn
      have HGk := HGn
      have HCX := HCXn
      clear HBn HGn HCXn
      have HC2 := HC2n
      clear HC2n
      have HC3 := HC3n
      clear HC3n
      simp only [List.setIfInBounds_toArray, List.set_cons_succ, List.set_cons_zero] at HGk
      have cX := HCX.out
      have e2 := HC2.out
      have lBk : B < wl.heap.size := World.block_lt_of_cell? _ _ e2
      have lXk : w.heap.size < wl.heap.size := World.block_lt_of_cell? _ _ cX
      have lG : wc.heap.size < wl.heap.size := lt_of_heap HGk.out
      go_upto_if 268 with fail
      clear cX e2 lG lBk lXk
      go_cut [15, 16] from 263 to 268 (fun _ _ wd => ∃ v', Seg wl wd wc.heap.size 2 v' ∧ wd.ownsRow (wc.heap.size + 1) 110 3 v' s.n (v.sd.flatMap Sd.a) ∧ ∃ a, v' = .slice a s.n s.n)
      case first =>
        rw [isSome_not s.a]
        exact toSd s w _ w.heap.size wc.heap.size B bo (HBW.out.trans (HBk.out.mono (by omega))) HCX.out HC2.out _ HGk.out rfl (by omega) (by omega) hB v.sd HLs.out HOs.out.1 HS.out HOs.out.2 _ _ _ _ _ _ _ _ _ _ _ _ _ _ _ _ _ _ _ _ _ _ _ _ _ _ _ _ _ _ _ _ _ _ _ _ _ _ _ _ _ _ _ _ _ _ _ _ _ _ _ _ _ _ _ _ _ _ _ _ _ _ _ _ _ _ _ _ _ _ _ _ _ _ _ _ _ _ _ _ _ _ _ _ _ _ _ _ _ _ _ _ _ _ _ _ _ _ _ _ _ _ _ _ _ _ _ _ _ _ _ _ _ _ _ _ _ _ _ _ _ _ _ _ _ _ _ _ _ _ _ _ _ _ _ _ _ _ _ _ _ _ _ _ _ _ _ _ _ _ _ _ _ _ _ _ _ _ _ _ _ _ _ _ _ _ _ _ _ _ _ _ _ _ _ _ _ _ _ _ _ _ _ _ _ _ _ _ _ _ _ _ _ _ _ _ _ _ _ _ _ _ _ _ _ _ _ _ _ _ _ _ _ _ _ _ _ _ _ _ _ _ _ _ _ _ _ _ _ _ _ _ _ _ _ _ _ _ _ _ _ _ _ _ _ _ _ _ _ _ _ _ _ _ _ _ _ _ _ _ _ _ _ _ _ _ _ _ _ _ _ _ _ _ _ _ _ _ _ _ _ _ _ _ _ _ _ _ _ _ _ _ _ _ _ _ _ _ _ _ _ _ _ _ _ _ _ _ _ _ _ _ _ _ _ _ _ _ _ _ _ _ _ _ _ _ _ _ _ _ _ _ _ _ _ _ _ _ _ _ _ _ _ _ _ _ _ _ _ _ _ _ _ _ _ _ _ _ _ _ _ _ _ _ _ _ _ _ _ _ _ _ _ _ _ _ _ _ _ _ _ _ _ _ _ _ _ _ _ _ _ _ _ _ _ _ _ _ _ _ _ _ _ _ _ _ _ _ _ _ _ _ _ _ _ _ _ _ _ _ _ _ _ _ _ _ _ _ _ _ _ _ _ _ _ _ _ _ _ _ _ _ _ _ _ _ _ _ _ _ _ _ _ _ _ _ _ _ _ _ _ _ _ _ _ _ _ _ _ _ _ _ _ _ _ _ _ _ _ _ _ _ _ _ _ _ _ (by assumption) (by assumption)
      case rest =>
        obtain ⟨vs, hseg, hown, ⟨ads, rfl⟩⟩ := hcut
        rename World => wm
        have HBn := hidMk (hseg.below HBk.out (Nat.le_refl _) HBk.out.size)
        have HGn := hidMk (hseg.out _ _ HGk.out)
        have HCXn := hidMk (hseg.cell HCX.out (by show w.heap.size ≠ _; omega))
        have HC3n := hidMk (hseg.cell HC3.out (by show B ≠ _; omega))
        have HWrn := hidMk (owns_kept HWr.out (fun b hb hlt => hseg.kept.block b hlt (fun e => by injection e with e; omega)))
        have HWs := hidMk hown
        clear HBk HGk HCX HC2 HC3 hseg hown
        have HBk := HBn
        have HGk := HGn
        have HCX := HCXn
        clear HBn HGn HCXn
        have HC3 := HC3n
        clear HC3n
        clear HWr
        have HWr := HWrn
        clear HWrn
        simp only [List.setIfInBounds_toArray, List.set_cons_succ, List.set_cons_zero] at HGk
        have cX := HCX.out
        have e3 := HC3.out
        have lBk : B < wm.heap.size := World.block_lt_of_cell? _ _ e3
        have lXk : w.heap.size < wm.heap.size := World.block_lt_of_cell? _ _ cX
        have lG : wc.heap.size < wm.heap.size := lt_of_heap HGk.out
        go_upto_if 314 with fail
        clear cX e3 lG lBk lXk
        go_cut [17, 18] from 309 to 314 (fun _ _ wd => ∃ v', Seg wm wd wc.heap.size 3 v' ∧ wd.ownsRow (wc.heap.size + 1) 114 2 v' f.n (v.fd.flatMap Fd.a) ∧ ∃ a, v' = .slice a f.n f.n)
        case first =>
          rw [isSome_not f.a]
          exact toFd f w _ w.heap.size wc.heap.size B bo (HBW.out.trans (HBk.out.mono (by omega))) HCX.out HC3.out _ HGk.out rfl (by omega) (by omega) hB v.fd HLf.out HOf.out.1 HF.out HOf.out.2 _ _ _ _ _ _ _ _ _ _ _ _ _ _ _ _ _ _ _ _ _ _ _ _ _ _ _ _ _ _ _ _ _ _ _ _ _ _ _ _ _ _ _ _ _ _ _ _ _ _ _ _ _ _ _ _ _ _ _ _ _ _ _ _ _ _ _ _ _ _ _ _ _ _ _ _ _ _ _ _ _ _ _ _ _ _ _ _ _ _ _ _ _ _ _ _ _ _ _ _ _ _ _ _ _ _ _ _ _ _ _ _ _ _ _ _ _ _ _ _ _ _ _ _ _ _ _ _ _ _ _ _ _ _ _ _ _ _ _ _ _ _ _ _ _ _ _ _ _ _ _ _ _ _ _ _ _ _ _ _ _ _ _ _ _ _ _ _ _ _ _ _ _ _ _ _ _ _ _ _ _ _ _ _ _ _ _ _ _ _ _ _ _ _ _ _ _ _ _ _ _ _ _ _ _ _ _ _ _ _ _ _ _ _ _ _ _ _ _ _ _ _ _ _ _ _ _ _ _ _ _ _ _ _ _ _ _ _ _ _ _ _ _ _ _ _ _ _ _ _ _ _ _ _ _ _ _ _ _ _ _ _ _ _ _ _ _ _ _ _ _ _ _ _ _ _ _ _ _ _ _ _ _ _ _ _ _ _ _ _ _ _ _ _ _ _ _ _ _ _ _ _ _ _ _ _ _ _ _ _ _ _ _ _ _ _ _ _ _ _ _ _ _ _ _ _ _ _ _ _ _ _ _ _ _ _ _ _ _ _ _ _ _ _ _ _ _ _ _ _ _ _ _ _ _ _ _ _ _ _ _ _ _ _ _ _ _ _ _ _ _ _ _ _ _ _ _ _ _ _ _ _ _ _ _ _ _ _ _ _ _ _ _ _ _ _ _ _ _ _ _ _ _ _ _ _ _ _ _ _ _ _ _ _ _ _ _ _ _ _ _ _ _ _ _ _ _ _ _ _ _ _ _ _ _ _ _ _ _ _ _ _ _ _ _ _ _ _ _ _ _ _ _ _ _ _ _ _ _ _ _ _ _ _ _ _ _ _ _ _ _ _ _ _ _ _ _ _ _ _ _ _ _ _ _ _ _ (by assumption) (by assumption)
        case rest =>
          obtain ⟨vf, hseg, hown, ⟨adf, rfl⟩⟩ := hcut
          rename World => wn
          have HBn := hidMk (hseg.below HBk.out (Nat.le_refl _) HBk.out.size)
          have HGn := hidMk (hseg.out _ _ HGk.out)
          have HCXn := hidMk (hseg.cell HCX.out (by show w.heap.size ≠ _; omega))
          have HWrn := hidMk (owns_kept HWr.out (fun b hb hlt => hseg.kept.block b hlt (fun e => by injection e with e; omega)))
          have HWsn := hidMk (owns_kept HWs.out (fun b hb hlt => hseg.kept.block b hlt (fun e => by injection e with e; omega)))
          have HWf := hidMk hown
          clear HBk HGk HCX HC3 hseg hown
          have HBk := HBn
          have HGk := HGn
          have HCX := HCXn
          clear HBn HGn HCXn
          clear HWr
          have HWr := HWrn
          clear HWrn
          clear HWs
          have HWs := HWsn
          clear HWsn
          simp only [List.setIfInBounds_toArray, List.set_cons_succ, List.set_cons_zero] at HGk
          have cO := cell_below CO.out HBk.out
          have fO : wn.frozen? ⟨w.heap.size + 1 + 1, 10, none⟩ = false := (World.frozen?_of_block (w := wc) (HBk.out.block (w.heap.size + 1 + 1) lO)).trans FO.out
          go_wp2_with fail
          go_meet
          case rel =>
            refine ⟨_, seg_store _ HBk.out lO, .inr ⟨wc.heap.size, v, .slice adr r.n r.n, .slice ads s.n s.n, .slice adf f.n f.n, rfl, rfl, by omega, ?_, ⟨adr, by rw [HLr.out]⟩, ⟨ads, by rw [HLs.out]⟩, ⟨adf, by rw [HLf.out]⟩, ?_, ?_, ?_⟩, _, rfl⟩
            · rw [heap_setCell_other _ _ _ _ (by show wc.heap.size ≠ w.heap.size + 1 + 1; omega)]; exact HGk.out
            · rw [HLr.out]; exact owns_base (by omega) (owns_kept HWr.out (fun b hb _ => heap_setCell_other _ _ _ _ (by show b ≠ w.heap.size + 1 + 1; omega)))
            · rw [HLs.out]; exact owns_base (by omega) (owns_kept HWs.out (fun b hb _ => heap_setCell_other _ _ _ _ (by show b ≠ w.heap.size + 1 + 1; omega)))
            · rw [HLf.out]; exact owns_base (by omega) (owns_kept HWf.out (fun b hb _ => heap_setCell_other _ _ _ _ (by show b ≠ w.heap.size + 1 + 1; omega)))
end Go.Proofs.Qxb6619005a
