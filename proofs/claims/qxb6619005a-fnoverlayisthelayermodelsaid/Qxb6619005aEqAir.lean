import Derived.Test.Qxb6619005aView
import Derived.Test.Qxb6619005aEqDel
import Derived.Test.Qxb6619005aEqRw
import Derived.Test.Qxb6619005aEqSt
import Derived.Test.Qxb6619005aEqCm
import Derived.Test.Qxb6619005aEqHp
import Derived.Test.Qxb6619005aEqPk
import Derived.Test.Qxb6619005aEqTp
import Derived.Test.Qxb6619005aEqPa
namespace Go.Proofs.Qxb6619005a
open Go.RowKit
theorem size33 : (Try.prog.info? 33).map (·.size) = some 14 := by kernel_rfl

set_option maxRecDepth 100000 in
set_option maxHeartbeats 4000000 in
theorem eqTop_any (T : Top) (H0 H1 : Heads) (D0 D1 : Option Addr) (d : Option DelV) (w : World) (h0 : DelIs w D0 d) (h1 : DelIs w D1 d) (hok : ∀ x, d = some x → x.rd.length ≤ 1048576 ∧ x.sd.length ≤ 1048576 ∧ x.fd.length ≤ 1048576) :
    Calls Try.prog 28 #[.agg (cellsOf T H0 D0).toArray, .agg (cellsOf T H1 D1).toArray] w fun e w' => e = .returned (.bool true) ∧ Below w.heap.size w w' := by
  obtain ⟨i, nm, la, lo, el, mv⟩ := T
  have HD0 := hidMk h0
  have HD1 := hidMk h1
  have HOK := hidMk hok
  have sm1 : (i.toList == i.toList) = true := by simp
  have sm2 : (nm.toList == nm.toList) = true := by simp
  clear h0 h1 hok
  simp only [cellsOf]
  go_enter Try.func28, Try.ntmps28
  go_wp2_with fail
  refine (f64_same la _).mono ?_
  rintro e wx ⟨rfl, hwx⟩
  have hwx2 := hwx.symm
  subst hwx2
  clear hwx
  go_wp2_with fail
  refine (f64_same lo _).mono ?_
  rintro e wx ⟨rfl, hwx⟩
  have hwx2 := hwx.symm
  subst hwx2
  clear hwx
  go_wp2_with fail
  refine (f64_same el _).mono ?_
  rintro e wx ⟨rfl, hwx⟩
  have hwx2 := hwx.symm
  subst hwx2
  clear hwx
  go_wp2_with fail
  refine (f32_same mv _).mono ?_
  rintro e wx ⟨rfl, hwx⟩
  have hwx2 := hwx.symm
  subst hwx2
  clear hwx
  go_wp2_with fail
  refine (eqDelete_any D0 D1 d _ (HD0.out.below (((Below.refl _ w).alloc (Nat.le_refl _) _).alloc (by simp) _)) (HD1.out.below (((Below.refl _ w).alloc (Nat.le_refl _) _).alloc (by simp) _)) HOK.out).mono ?_
  rintro e wx ⟨rfl, hwx⟩
  have HWX := hidMk ((((Below.refl _ w).alloc (Nat.le_refl _) _).alloc (by simp) _).trans (hwx.mono (by simp; omega)))
  clear hwx
  go_wp2_with fail
  go_ret
  exact ⟨rfl, HWX.out⟩

set_option maxRecDepth 100000 in
set_option maxHeartbeats 4000000 in
theorem eqAirport_any (T : Top) (H0 H1 : Heads) (D0 D1 : Option Addr) (L : Lists) (p0 p1 : List Pk) (d : Option DelV) (w : World) (v0 : View Rw.z 12 w H0 L p0) (v1 : View Rw.z 12 w H1 L p1) (hm : L.r.length ≤ 1048576 ∧ L.s.length ≤ 1048576 ∧ L.c.length ≤ 1048576 ∧ L.h.length ≤ 1048576 ∧ L.x.length ≤ 1048576 ∧ L.t.length ≤ 1048576 ∧ L.q.length ≤ 1048576) (hx : ∀ y ∈ L.x, y.2.length ≤ 1048576) (h0 : DelIs w D0 d) (h1 : DelIs w D1 d) (hok : ∀ x, d = some x → x.rd.length ≤ 1048576 ∧ x.sd.length ≤ 1048576 ∧ x.fd.length ≤ 1048576) :
    Calls Try.prog 9 #[.agg (cellsOf T H0 D0).toArray, .agg (cellsOf T H1 D1).toArray] w fun e w' => e = .returned (.bool true) ∧ Below w.heap.size w w' := by
  obtain ⟨mr, ms, mc, mh, mx, mt, mq⟩ := hm
  have TOP := hidMk (fun w h0 h1 => eqTop_any T H0 H1 D0 D1 d w h0 h1 hok)
  have V0 := hidMk v0
  have V1 := hidMk v1
  have HD0 := hidMk h0
  have HD1 := hidMk h1
  have HXB := hidMk hx
  have Mr := hidMk mr
  have Ms := hidMk ms
  have Mc := hidMk mc
  have Mh := hidMk mh
  have Mx := hidMk mx
  have Mt := hidMk mt
  have Mq := hidMk mq
  clear v0 v1 h0 h1 hx hok mr ms mc mh mx mt mq
  obtain ⟨⟨mra, mrn, mrc⟩, ⟨msa, msn, msc⟩, ⟨mca, mcn, mcc⟩, ⟨mha, mhn, mhc⟩, ⟨mpa, mpn, mpc⟩, ⟨mta, mtn, mtc⟩, ⟨mqa, mqn, mqc⟩⟩ := H0
  obtain rfl : L.r.length = mrn := V0.out.lr
  obtain rfl : L.s.length = msn := V0.out.ls
  obtain rfl : L.c.length = mcn := V0.out.lc
  obtain rfl : L.h.length = mhn := V0.out.lh
  obtain rfl : L.t.length = mtn := V0.out.lt
  obtain rfl : L.q.length = mqn := V0.out.lq
  obtain rfl : L.x.length = mpn := V0.out.px.length.symm.trans V0.out.lp
  obtain ⟨⟨nra, nrn, nrc⟩, ⟨nsa, nsn, nsc⟩, ⟨nca, ncn, ncc⟩, ⟨nha, nhn, nhc⟩, ⟨npa, npn, npc⟩, ⟨nta, ntn, ntc⟩, ⟨nqa, nqn, nqc⟩⟩ := H1
  obtain rfl : L.r.length = nrn := V1.out.lr
  obtain rfl : L.s.length = nsn := V1.out.ls
  obtain rfl : L.c.length = ncn := V1.out.lc
  obtain rfl : L.h.length = nhn := V1.out.lh
  obtain rfl : L.t.length = ntn := V1.out.lt
  obtain rfl : L.q.length = nqn := V1.out.lq
  obtain rfl : L.x.length = npn := V1.out.px.length.symm.trans V1.out.lp
  obtain ⟨i, nm, la, lo, el, mv⟩ := T
  simp only [cellsOf] at TOP ⊢
  have HRA : ∀ (b : Nat) (W : World), W.heap[b]? = some (.cells #[.string i, .string nm, .float .f64 la, .float .f64 lo, .float .f64 el, .float .f32 mv, .slice mra L.r.length mrc, .slice msa L.s.length msc, .slice mca L.c.length mcc, .slice mha L.h.length mhc, .pointer D0, .slice mpa L.x.length mpc, .slice mta L.t.length mtc, .slice mqa L.q.length mqc] 33 (0, 0)) → Hid (W.rangeAt b 0 [.string i, .string nm, .float .f64 la, .float .f64 lo, .float .f64 el, .float .f32 mv, .slice mra L.r.length mrc, .slice msa L.s.length msc, .slice mca L.c.length mcc, .slice mha L.h.length mhc, .pointer D0, .slice mpa L.x.length mpc, .slice mta L.t.length mtc, .slice mqa L.q.length mqc]) := fun b W h => hidMk (fun j v hv => by rw [cell_of_row _ _ _ _ _ (0, 0) h]; simpa using hv)
  have HRB : ∀ (b : Nat) (W : World), W.heap[b]? = some (.cells #[.string i, .string nm, .float .f64 la, .float .f64 lo, .float .f64 el, .float .f32 mv, .slice nra L.r.length nrc, .slice nsa L.s.length nsc, .slice nca L.c.length ncc, .slice nha L.h.length nhc, .pointer D1, .slice npa L.x.length npc, .slice nta L.t.length ntc, .slice nqa L.q.length nqc] 33 (0, 0)) → Hid (W.rangeAt b 0 [.string i, .string nm, .float .f64 la, .float .f64 lo, .float .f64 el, .float .f32 mv, .slice nra L.r.length nrc, .slice nsa L.s.length nsc, .slice nca L.c.length ncc, .slice nha L.h.length nhc, .pointer D1, .slice npa L.x.length npc, .slice nta L.t.length ntc, .slice nqa L.q.length nqc]) := fun b W h => hidMk (fun j v hv => by rw [cell_of_row _ _ _ _ _ (0, 0) h]; simpa using hv)
  have RA := HRA w.heap.size ((w.alloc (.cells #[.string i, .string nm, .float .f64 la, .float .f64 lo, .float .f64 el, .float .f32 mv, .slice mra L.r.length mrc, .slice msa L.s.length msc, .slice mca L.c.length mcc, .slice mha L.h.length mhc, .pointer D0, .slice mpa L.x.length mpc, .slice mta L.t.length mtc, .slice mqa L.q.length mqc] 33)).alloc (.cells #[.string i, .string nm, .float .f64 la, .float .f64 lo, .float .f64 el, .float .f32 mv, .slice nra L.r.length nrc, .slice nsa L.s.length nsc, .slice nca L.c.length ncc, .slice nha L.h.length nhc, .pointer D1, .slice npa L.x.length npc, .slice nta L.t.length ntc, .slice nqa L.q.length nqc] 33)) ((Below.heap_alloc _ _ _ (by simp)).trans (heap_alloc_new _ _))
  have RB := HRB (w.heap.size + 1) ((w.alloc (.cells #[.string i, .string nm, .float .f64 la, .float .f64 lo, .float .f64 el, .float .f32 mv, .slice mra L.r.length mrc, .slice msa L.s.length msc, .slice mca L.c.length mcc, .slice mha L.h.length mhc, .pointer D0, .slice mpa L.x.length mpc, .slice mta L.t.length mtc, .slice mqa L.q.length mqc] 33)).alloc (.cells #[.string i, .string nm, .float .f64 la, .float .f64 lo, .float .f64 el, .float .f32 mv, .slice nra L.r.length nrc, .slice nsa L.s.length nsc, .slice nca L.c.length ncc, .slice nha L.h.length nhc, .pointer D1, .slice npa L.x.length npc, .slice nta L.t.length ntc, .slice nqa L.q.length nqc] 33)) (heap2 w _ _)
  clear HRA HRB
  have HBS : Hid (Below w.heap.size w ((w.alloc (.cells #[.string i, .string nm, .float .f64 la, .float .f64 lo, .float .f64 el, .float .f32 mv, .slice mra L.r.length mrc, .slice msa L.s.length msc, .slice mca L.c.length mcc, .slice mha L.h.length mhc, .pointer D0, .slice mpa L.x.length mpc, .slice mta L.t.length mtc, .slice mqa L.q.length mqc] 33)).alloc (.cells #[.string i, .string nm, .float .f64 la, .float .f64 lo, .float .f64 el, .float .f32 mv, .slice nra L.r.length nrc, .slice nsa L.s.length nsc, .slice nca L.c.length ncc, .slice nha L.h.length nhc, .pointer D1, .slice npa L.x.length npc, .slice nta L.t.length ntc, .slice nqa L.q.length nqc] 33))) := hidMk (((Below.refl _ w).alloc (Nat.le_refl _) _).alloc (by simp) _)
  have hss : ((w.alloc (.cells #[.string i, .string nm, .float .f64 la, .float .f64 lo, .float .f64 el, .float .f32 mv, .slice mra L.r.length mrc, .slice msa L.s.length msc, .slice mca L.c.length mcc, .slice mha L.h.length mhc, .pointer D0, .slice mpa L.x.length mpc, .slice mta L.t.length mtc, .slice mqa L.q.length mqc] 33)).alloc (.cells #[.string i, .string nm, .float .f64 la, .float .f64 lo, .float .f64 el, .float .f32 mv, .slice nra L.r.length nrc, .slice nsa L.s.length nsc, .slice nca L.c.length ncc, .slice nha L.h.length nhc, .pointer D1, .slice npa L.x.length npc, .slice nta L.t.length ntc, .slice nqa L.q.length nqc] 33)).heap.size = w.heap.size + 1 + 1 := by simp
  have HSS := hidMk hss
  clear hss
  go_enter Try.func9, Try.ntmps9
  go_wp2_with (first | (refine wpList_load_mid rfl 33 _ rfl w.heap.size 0 rfl _ _ RA.out Try.underlying33 rfl size33 ?_) | (refine wpList_load_mid rfl 33 _ rfl (w.heap.size + 1) 0 rfl _ _ RB.out Try.underlying33 rfl size33 ?_))
  refine (TOP.out _ (HD0.out.below HBS.out) (HD1.out.below HBS.out)).mono ?_
  rintro _ w0 ⟨rfl, hw⟩
  have HW0 : Hid (Below w.heap.size w w0) := hidMk (HBS.out.trans (hw.mono (by have := HSS.out; omega)))
  have HX0 : Hid (Below (w.heap.size + 1 + 1) ((w.alloc (.cells #[.string i, .string nm, .float .f64 la, .float .f64 lo, .float .f64 el, .float .f32 mv, .slice mra L.r.length mrc, .slice msa L.s.length msc, .slice mca L.c.length mcc, .slice mha L.h.length mhc, .pointer D0, .slice mpa L.x.length mpc, .slice mta L.t.length mtc, .slice mqa L.q.length mqc] 33)).alloc (.cells #[.string i, .string nm, .float .f64 la, .float .f64 lo, .float .f64 el, .float .f32 mv, .slice nra L.r.length nrc, .slice nsa L.s.length nsc, .slice nca L.c.length ncc, .slice nha L.h.length nhc, .pointer D1, .slice npa L.x.length npc, .slice nta L.t.length ntc, .slice nqa L.q.length nqc] 33)) w0) := hidMk (hw.mono (by have := HSS.out; omega))
  clear hw
  have cA : w0.cell? ⟨w.heap.size, 6, none⟩ = some (.slice mra L.r.length mrc) := cell_below (RA.out 6 _ rfl) (HX0.out.mono (by have := HSS.out; omega))
  have cB : w0.cell? ⟨w.heap.size + 1, 6, none⟩ = some (.slice nra L.r.length nrc) := cell_below (RB.out 6 _ rfl) (HX0.out.mono (by have := HSS.out; omega))
  have lA := World.block_lt_of_cell? _ _ cA
  have lB := World.block_lt_of_cell? _ _ cB
  go_wp2_with fail
  clear cA cB lA lB
  refine (eqRunways_any mra nra L.r.length mrc nrc L.r w0 rfl Mr.out (V0.out.rr.below HW0.out) (V1.out.rr.below HW0.out)).mono ?_
  rintro _ w1 ⟨rfl, hw⟩
  have HW1 : Hid (Below w.heap.size w w1) := hidMk (HW0.out.trans (hw.mono HW0.out.size))
  have HX1 : Hid (Below (w.heap.size + 1 + 1) ((w.alloc (.cells #[.string i, .string nm, .float .f64 la, .float .f64 lo, .float .f64 el, .float .f32 mv, .slice mra L.r.length mrc, .slice msa L.s.length msc, .slice mca L.c.length mcc, .slice mha L.h.length mhc, .pointer D0, .slice mpa L.x.length mpc, .slice mta L.t.length mtc, .slice mqa L.q.length mqc] 33)).alloc (.cells #[.string i, .string nm, .float .f64 la, .float .f64 lo, .float .f64 el, .float .f32 mv, .slice nra L.r.length nrc, .slice nsa L.s.length nsc, .slice nca L.c.length ncc, .slice nha L.h.length nhc, .pointer D1, .slice npa L.x.length npc, .slice nta L.t.length ntc, .slice nqa L.q.length nqc] 33)) w1) := hidMk (HX0.out.trans (hw.mono (by have := HX0.out.size; have := HSS.out; omega)))
  clear hw
  have cA : w1.cell? ⟨w.heap.size, 7, none⟩ = some (.slice msa L.s.length msc) := cell_below (RA.out 7 _ rfl) (HX1.out.mono (by have := HSS.out; omega))
  have cB : w1.cell? ⟨w.heap.size + 1, 7, none⟩ = some (.slice nsa L.s.length nsc) := cell_below (RB.out 7 _ rfl) (HX1.out.mono (by have := HSS.out; omega))
  have lA := World.block_lt_of_cell? _ _ cA
  have lB := World.block_lt_of_cell? _ _ cB
  go_wp2_with fail
  clear cA cB lA lB
  refine (eqStarts_any msa nsa L.s.length msc nsc L.s w1 rfl Ms.out (V0.out.rs.below HW1.out) (V1.out.rs.below HW1.out)).mono ?_
  rintro _ w2 ⟨rfl, hw⟩
  have HW2 : Hid (Below w.heap.size w w2) := hidMk (HW1.out.trans (hw.mono HW1.out.size))
  have HX2 : Hid (Below (w.heap.size + 1 + 1) ((w.alloc (.cells #[.string i, .string nm, .float .f64 la, .float .f64 lo, .float .f64 el, .float .f32 mv, .slice mra L.r.length mrc, .slice msa L.s.length msc, .slice mca L.c.length mcc, .slice mha L.h.length mhc, .pointer D0, .slice mpa L.x.length mpc, .slice mta L.t.length mtc, .slice mqa L.q.length mqc] 33)).alloc (.cells #[.string i, .string nm, .float .f64 la, .float .f64 lo, .float .f64 el, .float .f32 mv, .slice nra L.r.length nrc, .slice nsa L.s.length nsc, .slice nca L.c.length ncc, .slice nha L.h.length nhc, .pointer D1, .slice npa L.x.length npc, .slice nta L.t.length ntc, .slice nqa L.q.length nqc] 33)) w2) := hidMk (HX1.out.trans (hw.mono (by have := HX1.out.size; have := HSS.out; omega)))
  clear hw
  have cA : w2.cell? ⟨w.heap.size, 8, none⟩ = some (.slice mca L.c.length mcc) := cell_below (RA.out 8 _ rfl) (HX2.out.mono (by have := HSS.out; omega))
  have cB : w2.cell? ⟨w.heap.size + 1, 8, none⟩ = some (.slice nca L.c.length ncc) := cell_below (RB.out 8 _ rfl) (HX2.out.mono (by have := HSS.out; omega))
  have lA := World.block_lt_of_cell? _ _ cA
  have lB := World.block_lt_of_cell? _ _ cB
  go_wp2_with fail
  clear cA cB lA lB
  refine (eqComs_any mca nca L.c.length mcc ncc L.c w2 rfl Mc.out (V0.out.rc.below HW2.out) (V1.out.rc.below HW2.out)).mono ?_
  rintro _ w3 ⟨rfl, hw⟩
  have HW3 : Hid (Below w.heap.size w w3) := hidMk (HW2.out.trans (hw.mono HW2.out.size))
  have HX3 : Hid (Below (w.heap.size + 1 + 1) ((w.alloc (.cells #[.string i, .string nm, .float .f64 la, .float .f64 lo, .float .f64 el, .float .f32 mv, .slice mra L.r.length mrc, .slice msa L.s.length msc, .slice mca L.c.length mcc, .slice mha L.h.length mhc, .pointer D0, .slice mpa L.x.length mpc, .slice mta L.t.length mtc, .slice mqa L.q.length mqc] 33)).alloc (.cells #[.string i, .string nm, .float .f64 la, .float .f64 lo, .float .f64 el, .float .f32 mv, .slice nra L.r.length nrc, .slice nsa L.s.length nsc, .slice nca L.c.length ncc, .slice nha L.h.length nhc, .pointer D1, .slice npa L.x.length npc, .slice nta L.t.length ntc, .slice nqa L.q.length nqc] 33)) w3) := hidMk (HX2.out.trans (hw.mono (by have := HX2.out.size; have := HSS.out; omega)))
  clear hw
  have cA : w3.cell? ⟨w.heap.size, 9, none⟩ = some (.slice mha L.h.length mhc) := cell_below (RA.out 9 _ rfl) (HX3.out.mono (by have := HSS.out; omega))
  have cB : w3.cell? ⟨w.heap.size + 1, 9, none⟩ = some (.slice nha L.h.length nhc) := cell_below (RB.out 9 _ rfl) (HX3.out.mono (by have := HSS.out; omega))
  have lA := World.block_lt_of_cell? _ _ cA
  have lB := World.block_lt_of_cell? _ _ cB
  go_wp2_with fail
  clear cA cB lA lB
  refine (eqHelipads_any mha nha L.h.length mhc nhc L.h w3 rfl Mh.out (V0.out.rh.below HW3.out) (V1.out.rh.below HW3.out)).mono ?_
  rintro _ w4 ⟨rfl, hw⟩
  have HW4 : Hid (Below w.heap.size w w4) := hidMk (HW3.out.trans (hw.mono HW3.out.size))
  have HX4 : Hid (Below (w.heap.size + 1 + 1) ((w.alloc (.cells #[.string i, .string nm, .float .f64 la, .float .f64 lo, .float .f64 el, .float .f32 mv, .slice mra L.r.length mrc, .slice msa L.s.length msc, .slice mca L.c.length mcc, .slice mha L.h.length mhc, .pointer D0, .slice mpa L.x.length mpc, .slice mta L.t.length mtc, .slice mqa L.q.length mqc] 33)).alloc (.cells #[.string i, .string nm, .float .f64 la, .float .f64 lo, .float .f64 el, .float .f32 mv, .slice nra L.r.length nrc, .slice nsa L.s.length nsc, .slice nca L.c.length ncc, .slice nha L.h.length nhc, .pointer D1, .slice npa L.x.length npc, .slice nta L.t.length ntc, .slice nqa L.q.length nqc] 33)) w4) := hidMk (HX3.out.trans (hw.mono (by have := HX3.out.size; have := HSS.out; omega)))
  clear hw
  have cA : w4.cell? ⟨w.heap.size, 11, none⟩ = some (.slice mpa L.x.length mpc) := cell_below (RA.out 11 _ rfl) (HX4.out.mono (by have := HSS.out; omega))
  have cB : w4.cell? ⟨w.heap.size + 1, 11, none⟩ = some (.slice npa L.x.length npc) := cell_below (RB.out 11 _ rfl) (HX4.out.mono (by have := HSS.out; omega))
  have lA := World.block_lt_of_cell? _ _ cA
  have lB := World.block_lt_of_cell? _ _ cB
  go_wp2_with fail
  clear cA cB lA lB
  refine (eqParkings_any mpa npa L.x.length mpc npc p0 p1 L.x w4 V0.out.lp V1.out.lp Mx.out HXB.out (V0.out.rp.below HW4.out) (V1.out.rp.below HW4.out) (V0.out.px.below HW4.out) (V1.out.px.below HW4.out)).mono ?_
  rintro _ w5 ⟨rfl, hw⟩
  have HW5 : Hid (Below w.heap.size w w5) := hidMk (HW4.out.trans (hw.mono HW4.out.size))
  have HX5 : Hid (Below (w.heap.size + 1 + 1) ((w.alloc (.cells #[.string i, .string nm, .float .f64 la, .float .f64 lo, .float .f64 el, .float .f32 mv, .slice mra L.r.length mrc, .slice msa L.s.length msc, .slice mca L.c.length mcc, .slice mha L.h.length mhc, .pointer D0, .slice mpa L.x.length mpc, .slice mta L.t.length mtc, .slice mqa L.q.length mqc] 33)).alloc (.cells #[.string i, .string nm, .float .f64 la, .float .f64 lo, .float .f64 el, .float .f32 mv, .slice nra L.r.length nrc, .slice nsa L.s.length nsc, .slice nca L.c.length ncc, .slice nha L.h.length nhc, .pointer D1, .slice npa L.x.length npc, .slice nta L.t.length ntc, .slice nqa L.q.length nqc] 33)) w5) := hidMk (HX4.out.trans (hw.mono (by have := HX4.out.size; have := HSS.out; omega)))
  clear hw
  have cA : w5.cell? ⟨w.heap.size, 12, none⟩ = some (.slice mta L.t.length mtc) := cell_below (RA.out 12 _ rfl) (HX5.out.mono (by have := HSS.out; omega))
  have cB : w5.cell? ⟨w.heap.size + 1, 12, none⟩ = some (.slice nta L.t.length ntc) := cell_below (RB.out 12 _ rfl) (HX5.out.mono (by have := HSS.out; omega))
  have lA := World.block_lt_of_cell? _ _ cA
  have lB := World.block_lt_of_cell? _ _ cB
  go_wp2_with fail
  clear cA cB lA lB
  refine (eqPoints_any mta nta L.t.length mtc ntc L.t w5 rfl Mt.out (V0.out.rt.below HW5.out) (V1.out.rt.below HW5.out)).mono ?_
  rintro _ w6 ⟨rfl, hw⟩
  have HW6 : Hid (Below w.heap.size w w6) := hidMk (HW5.out.trans (hw.mono HW5.out.size))
  have HX6 : Hid (Below (w.heap.size + 1 + 1) ((w.alloc (.cells #[.string i, .string nm, .float .f64 la, .float .f64 lo, .float .f64 el, .float .f32 mv, .slice mra L.r.length mrc, .slice msa L.s.length msc, .slice mca L.c.length mcc, .slice mha L.h.length mhc, .pointer D0, .slice mpa L.x.length mpc, .slice mta L.t.length mtc, .slice mqa L.q.length mqc] 33)).alloc (.cells #[.string i, .string nm, .float .f64 la, .float .f64 lo, .float .f64 el, .float .f32 mv, .slice nra L.r.length nrc, .slice nsa L.s.length nsc, .slice nca L.c.length ncc, .slice nha L.h.length nhc, .pointer D1, .slice npa L.x.length npc, .slice nta L.t.length ntc, .slice nqa L.q.length nqc] 33)) w6) := hidMk (HX5.out.trans (hw.mono (by have := HX5.out.size; have := HSS.out; omega)))
  clear hw
  have cA : w6.cell? ⟨w.heap.size, 13, none⟩ = some (.slice mqa L.q.length mqc) := cell_below (RA.out 13 _ rfl) (HX6.out.mono (by have := HSS.out; omega))
  have cB : w6.cell? ⟨w.heap.size + 1, 13, none⟩ = some (.slice nqa L.q.length nqc) := cell_below (RB.out 13 _ rfl) (HX6.out.mono (by have := HSS.out; omega))
  have lA := World.block_lt_of_cell? _ _ cA
  have lB := World.block_lt_of_cell? _ _ cB
  go_wp2_with fail
  clear cA cB lA lB
  refine (eqPaths_any mqa nqa L.q.length mqc nqc L.q w6 rfl Mq.out (V0.out.rq.below HW6.out) (V1.out.rq.below HW6.out)).mono ?_
  rintro _ w7 ⟨rfl, hw⟩
  have HW7 : Hid (Below w.heap.size w w7) := hidMk (HW6.out.trans (hw.mono HW6.out.size))
  have HX7 : Hid (Below (w.heap.size + 1 + 1) ((w.alloc (.cells #[.string i, .string nm, .float .f64 la, .float .f64 lo, .float .f64 el, .float .f32 mv, .slice mra L.r.length mrc, .slice msa L.s.length msc, .slice mca L.c.length mcc, .slice mha L.h.length mhc, .pointer D0, .slice mpa L.x.length mpc, .slice mta L.t.length mtc, .slice mqa L.q.length mqc] 33)).alloc (.cells #[.string i, .string nm, .float .f64 la, .float .f64 lo, .float .f64 el, .float .f32 mv, .slice nra L.r.length nrc, .slice nsa L.s.length nsc, .slice nca L.c.length ncc, .slice nha L.h.length nhc, .pointer D1, .slice npa L.x.length npc, .slice nta L.t.length ntc, .slice nqa L.q.length nqc] 33)) w7) := hidMk (HX6.out.trans (hw.mono (by have := HX6.out.size; have := HSS.out; omega)))
  clear hw
  go_wp2_with fail
  go_ret
  exact ⟨rfl, HW7.out⟩
end Go.Proofs.Qxb6619005a
