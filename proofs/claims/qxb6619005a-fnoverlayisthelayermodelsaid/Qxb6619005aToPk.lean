import Derived.Test.Qxb6619005aPark
namespace Go.Proofs.Qxb6619005a
open Go.RowKit

set_option maxRecDepth 100000 in
set_option maxHeartbeats 8000000 in
theorem toPk (p : Sl) (w wc : World) (args outs zeros : List Value) (hta : TA w wc w.heap.size 33 45 args outs zeros) (hax : args[11]? = some (.slice p.a p.n p.c)) (hox : outs[11]? = some (.slice none 0 0)) (ps : List Pk) (xs : List (Pc × List ByteArray)) (hl : ps.length = p.n) (hm : p.n ≤ 1048576) (hr : ARow Pk.z 10 w p.a ps) (hz : p.a = none → p.n = 0 ∧ p.c = 0) (hx : PkIs w ps xs) (hcm : ∀ x ∈ xs, x.2.length ≤ 1048576)
    (c0 c2 c4 c5 c6 c7 c8 c9 c10 c11 c12 c13 c14 c15 c16 c17 c18 c19 c20 c21 c22 c23 c24 c25 c26 c27 c28 c29 c30 c31 c32 c33 c34 c35 c36 c37 c38 c39 c40 c41 c42 c43 c44 c45 c46 c47 c48 c49 c50 c51 c52 c53 c54 c55 c56 c57 c58 c59 c60 c61 c62 c63 c64 c65 c66 c67 c68 c69 c70 c71 c72 c73 c74 c75 c76 c77 c78 c79 c80 c81 c82 c83 c84 c85 c86 c87 c88 c89 c90 c91 c92 c93 c94 c95 c96 c97 c98 c99 c100 c101 c102 c103 c104 c105 c106 c107 c108 c109 c110 c111 c112 c113 c114 c115 c116 c117 c118 c119 c120 c121 c122 c123 c124 c125 c126 c127 c128 c129 c130 c131 c132 c133 c134 c135 c136 c137 c138 c139 c140 c141 c142 c143 c144 c145 c146 c147 c148 c149 c150 c151 c152 c153 c154 c155 c156 c157 c158 c159 c160 c161 c162 c163 c164 c165 c166 c167 c168 c169 c170 c171 c172 c173 c174 c175 c176 c177 c178 c179 c180 c181 c182 c183 c184 c185 c186 c187 c188 c189 c190 c191 c192 c193 c194 c195 c196 c197 c198 c199 c200 c201 c202 c203 c204 c205 c206 c207 c208 c209 c210 c211 c212 c213 c214 c215 c216 c217 c218 c219 c220 c221 c222 c223 c224 c225 c226 c227 c228 c229 c230 c231 c232 c233 c234 c235 c236 c237 c238 c239 c240 c241 c242 c243 c244 c245 c246 c247 c248 c249 c250 c251 c252 c253 c254 c255 c256 c257 c258 c259 c260 c261 c262 c263 c264 c265 c266 c267 c268 c269 c270 c271 c272 c273 c274 c275 c276 c277 c278 c279 c280 c281 c282 c283 c284 c285 c286 c287 c288 c289 c290 c291 c292 c293 c294 c295 c296 c297 c298 c299 c300 c301 c302 c303 c304 c305 c306 c307 c308 c309 c310 c311 c312 c313 c314 c315 c316 c317 c318 c319 c320 c321 c322 c323 c324 c325 c326 c327 c328 c329 c330 c331 c332 c333 c334 c335 c336 c337 c338 c339 c340 c341 c342 c343 c344 c345 c346 c347 c348 c349 c350 c351 c352 c353 c354 c355 c356 c357 c359 c360 c361 c362 c363 c364 c365 c366 c367 c368 c369 c370 c371 c372 c373 c374 c375 c376 c377 c378 c379 c380 c381 c382 c383 c384 c385 c386 c387 c388 c389 c390 c391 c392 c393 c394 c395 c396 c397 c398 c399 c400 c401 c402 c403 c404 c405 c406 c407 c408 c409 c410 c411 c412 c413 c414 c415 c416 c417 c418 c419 c420 c421 c422 c423 c424 c425 c426 c427 c428 c429 c430 c431 c432 c433 c434 c435 c436 c437 c438 c439 c440 c441 c442 c443 c444 c445 c446 c447 c448 c449 c450 c451 c452 c453 c454 c455 c456 c457 c458 c459 c460 c461 c462 c463 c464 c465 c466 c467 c468 c469 c470 c471 c472 c473 c474 c475 c476 c477 c478 c479 c480 c481 c482 c483 c484 c485 c486 : Value) (J K : Act → World → Prop) (Q : Exit → Act → World → Prop) (hJ : ∀ (a' : Act) (w' : World), Met J a' w' → K a' w')
    (hI : ∀ (a' : Act) (w' : World), (∃ u19 u20 u21 u356 u357 u358 u359 u360 u361 u362 u363 u364 u365 u366 u367 u368 u369 u370 u371 u372 u373 u374 u375 u376 u377 u378 u379 u380 u381 u382 u383 u384 u385 u386 u387 u388 u389 u390 u391 u392 u393 u394 u395 u396 u397 u398 u399 u400 u401 u402 u403 u404 u405 u406 u407 u408 u409 u410 : Value, (∃ v, Seg wc w' (w.heap.size + 1 + 1) 11 v ∧ (∃ a, v = .slice a p.n p.n) ∧ ∃ ps', w'.ownsRow (w.heap.size + 3) 119 10 v p.n (ps'.flatMap Pk.a) ∧ PkIs w' ps' xs ∧ Far (w.heap.size + 3) ps') ∧ a' = ⟨#[c0, .pointer (some ⟨w.heap.size, 0, none⟩), c2, .pointer (some ⟨w.heap.size + 1 + 1, 0, none⟩), c4, c5, c6, c7, c8, c9, c10, c11, c12, c13, c14, c15, c16, c17, c18, u19, u20, u21, c22, c23, c24, c25, c26, c27, c28, c29, c30, c31, c32, c33, c34, c35, c36, c37, c38, c39, c40, c41, c42, c43, c44, c45, c46, c47, c48, c49, c50, c51, c52, c53, c54, c55, c56, c57, c58, c59, c60, c61, c62, c63, c64, c65, c66, c67, c68, c69, c70, c71, c72, c73, c74, c75, c76, c77, c78, c79, c80, c81, c82, c83, c84, c85, c86, c87, c88, c89, c90, c91, c92, c93, c94, c95, c96, c97, c98, c99, c100, c101, c102, c103, c104, c105, c106, c107, c108, c109, c110, c111, c112, c113, c114, c115, c116, c117, c118, c119, c120, c121, c122, c123, c124, c125, c126, c127, c128, c129, c130, c131, c132, c133, c134, c135, c136, c137, c138, c139, c140, c141, c142, c143, c144, c145, c146, c147, c148, c149, c150, c151, c152, c153, c154, c155, c156, c157, c158, c159, c160, c161, c162, c163, c164, c165, c166, c167, c168, c169, c170, c171, c172, c173, c174, c175, c176, c177, c178, c179, c180, c181, c182, c183, c184, c185, c186, c187, c188, c189, c190, c191, c192, c193, c194, c195, c196, c197, c198, c199, c200, c201, c202, c203, c204, c205, c206, c207, c208, c209, c210, c211, c212, c213, c214, c215, c216, c217, c218, c219, c220, c221, c222, c223, c224, c225, c226, c227, c228, c229, c230, c231, c232, c233, c234, c235, c236, c237, c238, c239, c240, c241, c242, c243, c244, c245, c246, c247, c248, c249, c250, c251, c252, c253, c254, c255, c256, c257, c258, c259, c260, c261, c262, c263, c264, c265, c266, c267, c268, c269, c270, c271, c272, c273, c274, c275, c276, c277, c278, c279, c280, c281, c282, c283, c284, c285, c286, c287, c288, c289, c290, c291, c292, c293, c294, c295, c296, c297, c298, c299, c300, c301, c302, c303, c304, c305, c306, c307, c308, c309, c310, c311, c312, c313, c314, c315, c316, c317, c318, c319, c320, c321, c322, c323, c324, c325, c326, c327, c328, c329, c330, c331, c332, c333, c334, c335, c336, c337, c338, c339, c340, c341, c342, c343, c344, c345, c346, c347, c348, c349, c350, c351, c352, c353, c354, c355, u356, u357, u358, u359, u360, u361, u362, u363, u364, u365, u366, u367, u368, u369, u370, u371, u372, u373, u374, u375, u376, u377, u378, u379, u380, u381, u382, u383, u384, u385, u386, u387, u388, u389, u390, u391, u392, u393, u394, u395, u396, u397, u398, u399, u400, u401, u402, u403, u404, u405, u406, u407, u408, u409, u410, c411, c412, c413, c414, c415, c416, c417, c418, c419, c420, c421, c422, c423, c424, c425, c426, c427, c428, c429, c430, c431, c432, c433, c434, c435, c436, c437, c438, c439, c440, c441, c442, c443, c444, c445, c446, c447, c448, c449, c450, c451, c452, c453, c454, c455, c456, c457, c458, c459, c460, c461, c462, c463, c464, c465, c466, c467, c468, c469, c470, c471, c472, c473, c474, c475, c476, c477, c478, c479, c480, c481, c482, c483, c484, c485, c486], []⟩) → J a' w') :
    Code.wp Try.prog (piece6 5) (Exit.then K Q) ⟨#[c0, .pointer (some ⟨w.heap.size, 0, none⟩), c2, .pointer (some ⟨w.heap.size + 1 + 1, 0, none⟩), c4, c5, c6, c7, c8, c9, c10, c11, c12, c13, c14, c15, c16, c17, c18, c19, c20, c21, c22, c23, c24, c25, c26, c27, c28, c29, c30, c31, c32, c33, c34, c35, c36, c37, c38, c39, c40, c41, c42, c43, c44, c45, c46, c47, c48, c49, c50, c51, c52, c53, c54, c55, c56, c57, c58, c59, c60, c61, c62, c63, c64, c65, c66, c67, c68, c69, c70, c71, c72, c73, c74, c75, c76, c77, c78, c79, c80, c81, c82, c83, c84, c85, c86, c87, c88, c89, c90, c91, c92, c93, c94, c95, c96, c97, c98, c99, c100, c101, c102, c103, c104, c105, c106, c107, c108, c109, c110, c111, c112, c113, c114, c115, c116, c117, c118, c119, c120, c121, c122, c123, c124, c125, c126, c127, c128, c129, c130, c131, c132, c133, c134, c135, c136, c137, c138, c139, c140, c141, c142, c143, c144, c145, c146, c147, c148, c149, c150, c151, c152, c153, c154, c155, c156, c157, c158, c159, c160, c161, c162, c163, c164, c165, c166, c167, c168, c169, c170, c171, c172, c173, c174, c175, c176, c177, c178, c179, c180, c181, c182, c183, c184, c185, c186, c187, c188, c189, c190, c191, c192, c193, c194, c195, c196, c197, c198, c199, c200, c201, c202, c203, c204, c205, c206, c207, c208, c209, c210, c211, c212, c213, c214, c215, c216, c217, c218, c219, c220, c221, c222, c223, c224, c225, c226, c227, c228, c229, c230, c231, c232, c233, c234, c235, c236, c237, c238, c239, c240, c241, c242, c243, c244, c245, c246, c247, c248, c249, c250, c251, c252, c253, c254, c255, c256, c257, c258, c259, c260, c261, c262, c263, c264, c265, c266, c267, c268, c269, c270, c271, c272, c273, c274, c275, c276, c277, c278, c279, c280, c281, c282, c283, c284, c285, c286, c287, c288, c289, c290, c291, c292, c293, c294, c295, c296, c297, c298, c299, c300, c301, c302, c303, c304, c305, c306, c307, c308, c309, c310, c311, c312, c313, c314, c315, c316, c317, c318, c319, c320, c321, c322, c323, c324, c325, c326, c327, c328, c329, c330, c331, c332, c333, c334, c335, c336, c337, c338, c339, c340, c341, c342, c343, c344, c345, c346, c347, c348, c349, c350, c351, c352, c353, c354, c355, c356, c357, .bool (!p.a.isNone), c359, c360, c361, c362, c363, c364, c365, c366, c367, c368, c369, c370, c371, c372, c373, c374, c375, c376, c377, c378, c379, c380, c381, c382, c383, c384, c385, c386, c387, c388, c389, c390, c391, c392, c393, c394, c395, c396, c397, c398, c399, c400, c401, c402, c403, c404, c405, c406, c407, c408, c409, c410, c411, c412, c413, c414, c415, c416, c417, c418, c419, c420, c421, c422, c423, c424, c425, c426, c427, c428, c429, c430, c431, c432, c433, c434, c435, c436, c437, c438, c439, c440, c441, c442, c443, c444, c445, c446, c447, c448, c449, c450, c451, c452, c453, c454, c455, c456, c457, c458, c459, c460, c461, c462, c463, c464, c465, c466, c467, c468, c469, c470, c471, c472, c473, c474, c475, c476, c477, c478, c479, c480, c481, c482, c483, c484, c485, c486], []⟩ wc := by
  have q59 : ∀ (w : World) (a : Option Addr) (n c : Nat), (binOp .neq 59 (.slice a n c) (.slice none 0 0)).run Try.prog w = .ok (.bool (!a.isNone)) w := fun w a n c => run_neq_slice_nil_any w 59 9 a n c 0 0 Try.underlying59
  have HTA := hidMk hta
  have HL := hidMk hl
  have HM := hidMk hm
  have HR := hidMk hr
  have HZ := hidMk hz
  have HX := hidMk hx
  have HCM := hidMk hcm
  have HAX := hidMk hax
  have HOB := hidMk hta.out
  have HOX := hidMk hox
  have lO := lt_of_heap hta.out
  have cO : wc.cell? ⟨w.heap.size + 1 + 1, 11, none⟩ = some (.slice none 0 0) := (cell_of_row _ _ 11 _ _ (0, 0) hta.out).trans (List.getElem?_toArray.trans hox)
  have fO : wc.frozen? ⟨w.heap.size + 1 + 1, 11, none⟩ = false := frozen_of_row _ _ _ _ _ hta.out
  have cX : wc.cell? ⟨w.heap.size, 11, none⟩ = some (.slice p.a p.n p.c) := (cell_of_row _ _ 11 _ _ (0, 0) hta.box).trans (List.getElem?_toArray.trans hax)
  clear hta hl hm hr hz hax hox hx hcm
  conv => arg 2; whnf
  obtain ⟨sa, sn, sc⟩ := p
  cases sa with
  | none =>
    have HE := hidMk (HZ.out rfl)
    go_wp2_with fail
    go_meet
    case rel =>
      obtain ⟨e1, e2⟩ := HE.out
      have e3 : ps = [] := List.eq_nil_of_length_eq_zero (by have := HL.out; omega)
      have HX2 := HX.out
      subst e1 e3
      have e4 : xs = [] := List.eq_nil_of_length_eq_zero (by have := HX2.length; simpa using this.symm)
      subst e4
      exact ⟨_, Seg.same cO, ⟨none, rfl⟩, [], owns_nil _ _ _ _, trivial, fun p hp => by simp at hp⟩
  | some x =>
    obtain ⟨cur, hcl, hmk⟩ := make_any Try.underlying41 inf119 sn HM.out (by omega)
    go_wp2_with fail
    obtain ⟨w0, hw0⟩ : ∃ w0, w0 = (wc.setCell ⟨w.heap.size + 1 + 1, 11, none⟩ (.slice (some ⟨wc.heap.size, 0, none⟩) sn sn)).alloc (.cells cur.toArray 119) := ⟨_, rfl⟩
    rw [← hw0]
    have HF0 : Hid (Fill w0 w0 wc.heap.size 119 (sn * 10) []) := hidMk (by rw [hw0]; exact Fill.start (cur := cur) (by have := heap_alloc_new (wc.setCell ⟨w.heap.size + 1 + 1, 11, none⟩ (.slice (some ⟨wc.heap.size, 0, none⟩) sn sn)) (.cells cur.toArray 119); simpa using this) hcl)
    have HS0 : Hid (Seg wc w0 (w.heap.size + 1 + 1) 11 (.slice (some ⟨wc.heap.size, 0, none⟩) sn sn)) := hidMk (by rw [hw0]; exact seg_start _ _ _ _ _ (by omega))
    have HN0 : Hid (wc.heap.size < w0.heap.size) := hidMk (by rw [hw0]; simp)
    have HT0 := hidMk (HTA.out.next HS0.out)
    have HB0 : Hid (Below w.heap.size w w0) := hidMk HT0.out.below
    have HX0 : Hid (w0.cell? ⟨w.heap.size, 11, none⟩ = some (.slice (some x) sn sc)) := hidMk ((cell_of_row _ _ 11 _ _ (0, 0) HT0.out.box).trans (List.getElem?_toArray.trans HAX.out))
    have HO0 : Hid (w0.cell? ⟨w.heap.size + 1 + 1, 11, none⟩ = some (.slice (some ⟨wc.heap.size, 0, none⟩) sn sn)) := hidMk (HS0.out.set HOB.out HOX.out)
    clear hw0 hcl hmk cO fO cX
    go_loopw [19] (fun i wr => ∃ k : Nat, i = .int .i64 k ∧ k ≤ sn ∧ ∃ ps', ps'.length = k ∧ Fill w0 wr wc.heap.size 119 (sn * 10) (ps'.flatMap Pk.a) ∧ PkIs wr ps' (xs.take k) ∧ Far (wc.heap.size + 1) ps') (fun i _ => sn - (intOf i).toNat)
    case atStart => exact ⟨0, rfl, by omega, [], rfl, by simpa using HF0.out, by simp [PkIs], fun p hp => by simp at hp⟩
    case round =>
      obtain ⟨k, rfl, hk, ps', hpl, hF, hPI, hFa⟩ := hrel
      have hbw : Below w.heap.size w wr := HB0.out.trans (hF.below (by omega))
      have cX := hF.cell (p := ⟨w.heap.size, 11, none⟩) HX0.out (by show w.heap.size ≠ wc.heap.size; omega)
      have cO := hF.cell (p := ⟨w.heap.size + 1 + 1, 11, none⟩) HO0.out (by show w.heap.size + 1 + 1 ≠ wc.heap.size; omega)
      have lG : wc.heap.size < wr.heap.size := by have := hF.kept.size; have := HN0.out; omega
      have lX : w.heap.size < wr.heap.size := by omega
      have lO' : w.heap.size + 1 + 1 < wr.heap.size := by omega
      have k0 : (0 : Int) ≤ (k : Int) := by omega
      have hsn : sn ≤ 1048576 := HM.out
      have HPL := hidMk hpl
      have HPI := hidMk hPI
      have HFA := hidMk hFa
      have HF := hidMk hF
      have HBW := hidMk hbw
      clear hpl hPI hFa hF hbw
      by_cases hlt : k < sn
      · have k1 : (k : Int) < (sn : Int) := by omega
        obtain ⟨b0, o0, ha0, hc0⟩ := HR.out (by have := HL.out; omega)
        obtain ⟨y, hy⟩ : ∃ y, ps[k]? = some y := ⟨ps[k]'(by have := HL.out; omega), by simp⟩
        have R0 := hidMk (rangeAt_below (hc0 k y hy) HBW.out (Nat.le_refl _))
        have HT := hidMk (HF.out.there (o := k * 10) (n := 10) (by have : (k + 1) * 10 ≤ sn * 10 := Nat.mul_le_mul_right 10 hlt; omega))
        obtain ⟨xx, hxx, hcore, hcode⟩ := HX.out.get k y hy
        have hcn0 : xx.2.length ≤ 1048576 := HCM.out xx (List.mem_of_getElem? hxx)
        have HXX := hidMk hxx
        clear hc0 hy hxx
        have ha1 := Option.some.inj ha0
        subst ha1
        clear ha0
        obtain ⟨x1, x2, x3, x4, x5, x6, x7, x8, x9, ⟨ca, cn, cc⟩⟩ := y
        simp only [Pk.z] at R0
        have HCO := hidMk hcore
        have HCD := hidMk (hcode.below (HBW.out.mono (Nat.le_refl _)))
        have hcn : cn ≤ 1048576 := by have := hcode.1; simp only at this; omega
        clear hcore hcode hcn0
        go_upto_block 15 with fail
        go_cut [20, 21] from 364 to 410 (fun _ _ wd => ∃ p' : Pk, Fill w0 wd wc.heap.size 119 (sn * 10) ((ps' ++ [p']).flatMap Pk.a) ∧ PkIs wd (ps' ++ [p']) (xs.take (k + 1)) ∧ Far (wc.heap.size + 1) (ps' ++ [p']))
        case first =>
          have HW1 : Hid (Below wr.heap.size wr (wr.alloc (.cells #[.int .u8 x1, .int .u16 x2, .int .u8 x3, .int .u8 x4, .float .f32 x5, .float .f32 x6, .float .f64 x7, .float .f64 x8, .float .f64 x9, .slice ca cn cc] 61))) := hidMk ((Below.refl _ wr).alloc (Nat.le_refl _) _)
          cases ca with
          | none =>
            have HREL := hidMk (pk_step (⟨x1, x2, x3, x4, x5, x6, x7, x8, x9, ⟨none, 0, 0⟩⟩ : Pk) HF.out HPL.out hlt HPI.out HFA.out HXX.out HW1.out HCO.out HCD.out.none (fun A hA => by cases hA))
            go_wp2_with (first | (refine wpList_load_mid rfl 61 _ rfl b0 (o0 + k * 10) rfl _ _ R0.out Try.underlying61 rfl info61 ?_) | (refine wpList_store_new rfl 61 _ _ rfl _ _ _ rfl _ rfl (by simp) rfl info61 rfl rfl ?_) | (refine wpList_store_list rfl 119 _ _ rfl wc.heap.size (k * 10) _ rfl rfl (World.there_alloc HT.out _) info119 rfl ?_))
            go_meet
            case rel => exact HREL.out
          | some cx =>
            obtain ⟨cur, hcl, hmk⟩ := make_any Try.underlying59 inf9 cn hcn (by omega)
            have HCL := hidMk hcl
            obtain ⟨strs, hstrs⟩ : ∃ strs, strs = xx.2.map Value.string := ⟨_, rfl⟩
            have HSTR := hidMk hstrs
            have HLEN : Hid (strs.length = cn) := hidMk (by rw [hstrs]; simpa using HCD.out.1)
            have HW2 : Hid (Below (wr.heap.size + 1) (wr.alloc (.cells #[.int .u8 x1, .int .u16 x2, .int .u8 x3, .int .u8 x4, .float .f32 x5, .float .f32 x6, .float .f64 x7, .float .f64 x8, .float .f64 x9, .slice (some cx) cn cc] 61)) ((wr.alloc (.cells #[.int .u8 x1, .int .u16 x2, .int .u8 x3, .int .u8 x4, .float .f32 x5, .float .f32 x6, .float .f64 x7, .float .f64 x8, .float .f64 x9, .slice (some cx) cn cc] 61)).alloc (.cells cur.toArray 9))) := hidMk ((Below.refl _ _).alloc (by simp) _)
            have HSRC : Hid (0 < strs.length → ∃ ad, (some cx : Option Addr) = some ad ∧ ∀ j v, strs[j]? = some v → ((wr.alloc (.cells #[.int .u8 x1, .int .u16 x2, .int .u8 x3, .int .u8 x4, .float .f32 x5, .float .f32 x6, .float .f64 x7, .float .f64 x8, .float .f64 x9, .slice (some cx) cn cc] 61)).alloc (.cells cur.toArray 9)).cell? (ad.add j) = some v) := hidMk (by
              rw [hstrs]
              exact ((HCD.out.below HW1.out).below (HW2.out.mono (by simp))).src)
            have HONE : Hid (∀ v ∈ strs, v.oneCell' = true) := hidMk (by rw [hstrs]; exact strs_one _)
            clear hcl hstrs
            go_wp2_with (first | (refine wpList_load_mid rfl 61 _ rfl b0 (o0 + k * 10) rfl _ _ R0.out Try.underlying61 rfl info61 ?_) | (refine wpList_store_new rfl 61 _ _ rfl _ _ _ rfl _ rfl (by simp) rfl info61 rfl rfl ?_) | (refine wpList_copy_splice rfl _ _ 59 59 rfl 9 Try.underlying59 info9 _ _ cn cn cn cc rfl rfl (wr.heap.size + 1) 0 cur 9 (heap2 wr _ _) strs (by rw [HLEN.out]; simp) (fun hp => ⟨rfl, HSRC.out hp⟩) (by have h1 := HCL.out; have h2 := HLEN.out; omega) HONE.out (wr.heap.size + 1) (wr.alloc (.cells #[.int .u8 x1, .int .u16 x2, .int .u8 x3, .int .u8 x4, .float .f32 x5, .float .f32 x6, .float .f64 x7, .float .f64 x8, .float .f64 x9, .slice (some cx) cn cc] 61)) HW2.out (Nat.le_refl _) ?_; intro w4 hg4 hb4; have HB4 := hidMk hb4; have HTH := hidMk (there_below (there_below HT.out HW1.out) (HB4.out.mono (by simp))); have d : w4.cell? ⟨w.heap.size + 1 + 1, 11, none⟩ = some (.slice (some ⟨wc.heap.size, 0, none⟩) sn sn) := cell_below (cell_below cO HW1.out) (HB4.out.mono (by simp)); have g0 : w4.cell? ⟨wr.heap.size, 0, none⟩ = some (.int .u8 x1) := cell_below ((cell_of_row _ wr.heap.size 0 _ _ (0, 0) (heap_alloc_new wr _)).trans rfl) (HB4.out.mono (by simp)); have g1 : w4.cell? ⟨wr.heap.size, 1, none⟩ = some (.int .u16 x2) := cell_below ((cell_of_row _ wr.heap.size 1 _ _ (0, 0) (heap_alloc_new wr _)).trans rfl) (HB4.out.mono (by simp)); have g2 : w4.cell? ⟨wr.heap.size, 2, none⟩ = some (.int .u8 x3) := cell_below ((cell_of_row _ wr.heap.size 2 _ _ (0, 0) (heap_alloc_new wr _)).trans rfl) (HB4.out.mono (by simp)); have g3 : w4.cell? ⟨wr.heap.size, 3, none⟩ = some (.int .u8 x4) := cell_below ((cell_of_row _ wr.heap.size 3 _ _ (0, 0) (heap_alloc_new wr _)).trans rfl) (HB4.out.mono (by simp)); have g4 : w4.cell? ⟨wr.heap.size, 4, none⟩ = some (.float .f32 x5) := cell_below ((cell_of_row _ wr.heap.size 4 _ _ (0, 0) (heap_alloc_new wr _)).trans rfl) (HB4.out.mono (by simp)); have g5 : w4.cell? ⟨wr.heap.size, 5, none⟩ = some (.float .f32 x6) := cell_below ((cell_of_row _ wr.heap.size 5 _ _ (0, 0) (heap_alloc_new wr _)).trans rfl) (HB4.out.mono (by simp)); have g6 : w4.cell? ⟨wr.heap.size, 6, none⟩ = some (.float .f64 x7) := cell_below ((cell_of_row _ wr.heap.size 6 _ _ (0, 0) (heap_alloc_new wr _)).trans rfl) (HB4.out.mono (by simp)); have g7 : w4.cell? ⟨wr.heap.size, 7, none⟩ = some (.float .f64 x8) := cell_below ((cell_of_row _ wr.heap.size 7 _ _ (0, 0) (heap_alloc_new wr _)).trans rfl) (HB4.out.mono (by simp)); have g8 : w4.cell? ⟨wr.heap.size, 8, none⟩ = some (.float .f64 x9) := cell_below ((cell_of_row _ wr.heap.size 8 _ _ (0, 0) (heap_alloc_new wr _)).trans rfl) (HB4.out.mono (by simp)); have g9 : w4.cell? ⟨wr.heap.size, 9, none⟩ = some (.slice (some cx) cn cc) := cell_below ((cell_of_row _ wr.heap.size 9 _ _ (0, 0) (heap_alloc_new wr _)).trans rfl) (HB4.out.mono (by simp)); have lB4 : wr.heap.size < w4.heap.size := (by have h1 := HB4.out.size; simp at h1; omega); clear hb4) | (refine wpList_store_list rfl 119 _ _ rfl wc.heap.size (k * 10) _ rfl rfl HTH.out info119 rfl ?_))
            go_meet
            case rel =>
              have hbb : Below wr.heap.size wr w4 := HW1.out.trans (HB4.out.mono (by omega))
              have hcd4 : CodeIs w4 ⟨some ⟨wr.heap.size + 1, 0, none⟩, cn, cn⟩ xx.2 := CodeIs.new (by simpa using HCD.out.1) HCL.out (by rw [← HSTR.out]; exact hg4.out)
              exact pk_step (⟨x1, x2, x3, x4, x5, x6, x7, x8, x9, ⟨some ⟨wr.heap.size + 1, 0, none⟩, cn, cn⟩⟩ : Pk) HF.out HPL.out hlt HPI.out HFA.out HXX.out hbb HCO.out hcd4 (fun A hA => by cases hA; show wc.heap.size + 1 ≤ wr.heap.size + 1; omega)
        case rest =>
          obtain ⟨p', h1, h2, h3⟩ := hcut
          have HNX := hidMk h1
          have HN2 := hidMk h2
          have HN3 := hidMk h3
          clear h1 h2 h3
          go_wp2_with fail
          go_light
          exact ⟨⟨k + 1, by go_num, by omega, ps' ++ [p'], by simp [HPL.out], HNX.out, HN2.out, HN3.out⟩, by simp [intOf]; omega⟩
      · have hkn : k = sn := by omega
        subst hkn
        go_wp2_with fail
        go_meet
        case rel =>
          have hxl : xs.length = k := by rw [← HX.out.length]; exact HL.out
          have hp2 := HPI.out
          rw [List.take_of_length_le (by omega)] at hp2
          exact ⟨_, HS0.out.fill HF.out (Nat.le_refl _) (by omega), ⟨_, rfl⟩, ps', HF.out.owns (by rw [flat_len Pk.a 10 Pk.a_len, HPL.out]) (by omega) (by have := HM.out; unfold maxLen; omega), hp2, fun q hq A hA => by have := HFA.out q hq A hA; omega⟩
end Go.Proofs.Qxb6619005a
