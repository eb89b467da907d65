import Derived.Test.Qxb6619005aView
import Derived.Test.Qxb6619005aFrRw
import Derived.Test.Qxb6619005aFrSt
import Derived.Test.Qxb6619005aFrCm
import Derived.Test.Qxb6619005aFrHp
import Derived.Test.Qxb6619005aFrDel
import Derived.Test.Qxb6619005aFrPk
import Derived.Test.Qxb6619005aFrTp
import Derived.Test.Qxb6619005aFrPa
namespace Go.Proofs.Qxb6619005a
open Go.RowKit
theorem below_setCellsE {B g o : Nat} {vs : List Value} {w wc : World} (h : Below B w wc) (hg : B ≤ g) (hB : B ≤ wc.heap.size) : Below B w (wc.setCells g o vs) := by
  refine h.trans ⟨World.os_setCells .., ?_, World.output_setCells .., by rw [size_setCells]; exact Nat.le_refl _, fun k hk => heap_setCells_far (by omega) (by omega)⟩
  have : ∀ (vs : List Value) (o : Nat) (w : World), (w.setCells g o vs).tape = w.tape := fun vs => by
    induction vs with
    | nil => intro o w; rfl
    | cons v r ih => intro o w; rw [World.setCells, ih]; rfl
  exact this _ _ _
theorem zero33 : (Try.prog.info? 33).map (·.size) = some 14 := by kernel_rfl

set_option maxRecDepth 100000 in
set_option maxHeartbeats 8000000 in
theorem fromAirport (T : Top) (H : Heads) (D : Option Addr) (L : Lists) (ps : List Pk) (d : Option DelV) (w : World) (hv : View Rw.a 52 w H L ps) (hm : H.r.n ≤ 1048576 ∧ H.s.n ≤ 1048576 ∧ H.c.n ≤ 1048576 ∧ H.h.n ≤ 1048576 ∧ H.p.n ≤ 1048576 ∧ H.t.n ≤ 1048576 ∧ H.q.n ≤ 1048576) (hx : ∀ y ∈ L.x, y.2.length ≤ 1048576) (hd : DelIs w D d) (hok : ∀ x, d = some x → x.rd.length ≤ 1048576 ∧ x.sd.length ≤ 1048576 ∧ x.fd.length ≤ 1048576) :
    Calls Try.prog 7 #[.agg (cellsOf T H D).toArray] w fun e w' => ∃ (H' : Heads) (D' : Option Addr) (ps' : List Pk), e = .returned (.agg (cellsOf T H' D').toArray) ∧ Below w.heap.size w w' ∧ View Rw.z 12 w' H' L ps' ∧ DelIs w' D' d := by
  obtain ⟨r, s, c, h, p, t, q⟩ := H
  obtain ⟨i, nm, la, lo, el, mv⟩ := T
  obtain ⟨mr, ms, mc, mh, mp, mt, mq⟩ := hm
  have HV := hidMk hv
  have HXB := hidMk hx
  have HD := hidMk hd
  have HOK := hidMk hok
  have HMr := hidMk mr
  have HMs := hidMk ms
  have HMc := hidMk mc
  have HMh := hidMk mh
  have HMp := hidMk mp
  have HMt := hidMk mt
  have HMq := hidMk mq
  clear hv hx hd hok mr ms mc mh mp mt mq
  simp only [cellsOf] at *
  go_enter Try.func7, Try.ntmps7
  go_upto_region 2 with (first | (refine wpList_store_new rfl 33 _ _ rfl _ _ _ rfl _ rfl (by simp) rfl zero33 rfl rfl ?_))
  obtain ⟨wa, hwa⟩ : ∃ wa, wa = ((w.alloc (.cells #[.string i, .string nm, .float .f64 la, .float .f64 lo, .float .f64 el, .float .f32 mv, .slice r.a r.n r.c, .slice s.a s.n s.c, .slice c.a c.n c.c, .slice h.a h.n h.c, .pointer D, .slice p.a p.n p.c, .slice t.a t.n t.c, .slice q.a q.n q.c] 45)).alloc (.cells #[.string ⟨#[]⟩, .string ⟨#[]⟩, .float .f64 0, .float .f64 0, .float .f64 0, .float .f32 0, .slice none 0 0, .slice none 0 0, .slice none 0 0, .slice none 0 0, .pointer none, .slice none 0 0, .slice none 0 0, .slice none 0 0] 33)).alloc (.cells #[.string i, .string nm, .float .f64 la, .float .f64 lo, .float .f64 el, .float .f32 mv, .slice none 0 0, .slice none 0 0, .slice none 0 0, .slice none 0 0, .pointer none, .slice none 0 0, .slice none 0 0, .slice none 0 0] 33) := ⟨_, rfl⟩
  rw [← hwa]
  have HTA : Hid (TA w wa w.heap.size 45 33 [.string i, .string nm, .float .f64 la, .float .f64 lo, .float .f64 el, .float .f32 mv, .slice r.a r.n r.c, .slice s.a s.n s.c, .slice c.a c.n c.c, .slice h.a h.n h.c, .pointer D, .slice p.a p.n p.c, .slice t.a t.n t.c, .slice q.a q.n q.c] [.string i, .string nm, .float .f64 la, .float .f64 lo, .float .f64 el, .float .f32 mv, .slice none 0 0, .slice none 0 0, .slice none 0 0, .slice none 0 0, .pointer none, .slice none 0 0, .slice none 0 0, .slice none 0 0] [.string ⟨#[]⟩, .string ⟨#[]⟩, .float .f64 0, .float .f64 0, .float .f64 0, .float .f32 0, .slice none 0 0, .slice none 0 0, .slice none 0 0, .slice none 0 0, .pointer none, .slice none 0 0, .slice none 0 0, .slice none 0 0]) := hidMk (by rw [hwa]; exact ta_start w _ _ _ 45 33)
  clear hwa
  have cX : wa.cell? ⟨w.heap.size, 6, none⟩ = some (.slice r.a r.n r.c) := (cell_of_row _ _ 6 _ _ (0, 0) HTA.out.box).trans rfl
  have lX := lt_of_heap HTA.out.box
  have lO := lt_of_heap HTA.out.out
  have cO : wa.cell? ⟨w.heap.size + 1 + 1, 6, none⟩ = some (.slice none 0 0) := (cell_of_row _ _ 6 _ _ (0, 0) HTA.out.out).trans rfl
  have fO : wa.frozen? ⟨w.heap.size + 1 + 1, 6, none⟩ = false := frozen_of_row _ _ _ _ _ HTA.out.out
  obtain ⟨cur, hcl, hmk⟩ := make_any Try.underlying24 inf68 r.n HMr.out (by omega)
  go_upto_block 0 with fail
  clear cX lX cO fO
  obtain ⟨w0, hw0⟩ : ∃ w0, w0 = (wa.setCell ⟨w.heap.size + 1 + 1, 6, none⟩ (.slice (some ⟨wa.heap.size, 0, none⟩) r.n r.n)).alloc (.cells cur.toArray 68) := ⟨_, rfl⟩
  rw [← hw0]
  have HF0 : Hid (Fill w0 w0 wa.heap.size 68 (r.n * 12) []) := hidMk (by rw [hw0]; exact Fill.start (cur := cur) (by have := heap_alloc_new (wa.setCell ⟨w.heap.size + 1 + 1, 6, none⟩ (.slice (some ⟨wa.heap.size, 0, none⟩) r.n r.n)) (.cells cur.toArray 68); simpa using this) hcl)
  have HS0 : Hid (Seg wa w0 (w.heap.size + 1 + 1) 6 (.slice (some ⟨wa.heap.size, 0, none⟩) r.n r.n)) := hidMk (by rw [hw0]; exact seg_start _ _ _ _ _ lO)
  have HN0 : Hid (wa.heap.size < w0.heap.size) := hidMk (by rw [hw0]; simp)
  clear hw0 hcl hmk cur lO
  go_cut [4, 5] from 26 to 43 (fun _ _ wz => ∃ v, Seg wa wz (w.heap.size + 1 + 1) 6 v ∧ wz.ownsRow (w.heap.size + 3) 68 12 v r.n (L.r.flatMap Rw.z) ∧ ∃ a, v = .slice a r.n r.n)
  case first =>
    exact frRw r w _ _ _ _ _ HTA.out rfl rfl HS0.out HF0.out HN0.out L.r HV.out.lr HMr.out HV.out.rr _ _ _ _ _ _ _ _ _ _ _ _ _ _ _ _ _ _ _ _ _ _ _ _ _ _ _ _ _ _ _ _ _ _ _ _ _ _ _ _ _ _ _ _ _ _ _ _ _ _ _ _ _ _ _ _ _ _ _ _ _ _ _ _ _ _ _ _ _ _ _ _ _ _ _ _ _ _ _ _ _ _ _ _ _ _ _ _ _ _ _ _ _ _ _ _ _ _ _ _ _ _ _ _ _ _ _ _ _ _ _ _ _ _ _ _ _ _ _ _ _ _ _ _ _ _ _ _ _ _ _ _ _ _ _ _ _ _ _ _ _ _ _ _ _ _ _ _ _ _ _ _ _ _ _ _ _ _ _ _ _ _ _ _ _ _ _ _ _ _ _ _ _ _ _ _ _ _ _ _ _ _ _ _ _ _ _ _ _ _ _ _ _ _ _ _ _ _ _ _ _ _ _ _ _ _ _ _ _ _ _ _ _ _ _ _ _ _ _ _ _ _ _ _ _ _ _ _ _ _ _ _ _ _ _ _ _ _ _ _ _ _ _ _ _ _ _ _ _ _ _ _ _ _ _ _ _ _ _ _ _ _ _ _ _ _ _ _ _ _ _ _ _ _ _ _ _ _ _ _ _ _ _ _ _ _ _ _ _ _ _ _ _ _ _ _ _ _ _ _ _ _ _ _ _ _ _ _ _ _ _ _ _ _ _ _ _ _ _ _ _ _ _ _ _ _ _ _ _ _ _ _ _ _ _ _ _ _ _ _ _ _ _ _ _ _ _ _ _ _ _ _ _ _ _ _ _ _ _ _ _ _ _ _ _ _ _ _ _ _ _ _ _ _ _ _ _ _ _ _ _ _ _ _ _ _ _ _ _ _ _ _ _ _ _ _ _ _ _ _ _ _ _ _ _ _ _ _ _ _ _ _ _ _ _ _ _ _ _ _ _ _ _ _ _ _ _ _ _ _ _ _ _ _ _ _ _ _ _ _ _ _ _ _ _ (by assumption) (by assumption)
  case rest =>
    obtain ⟨_, hseg, hown, ⟨ar_, rfl⟩⟩ := hcut
    rename World => wb
    have HTA2 := hidMk (HTA.out.next hseg)
    clear HF0 HS0 HN0
    have HOr := hidMk hown
    clear HTA hseg hown
    have HTA := HTA2
    clear HTA2
    simp only [List.set_cons_succ, List.set_cons_zero] at HTA
    have cX : wb.cell? ⟨w.heap.size, 7, none⟩ = some (.slice s.a s.n s.c) := (cell_of_row _ _ 7 _ _ (0, 0) HTA.out.box).trans rfl
    have lX := lt_of_heap HTA.out.box
    have lO := lt_of_heap HTA.out.out
    have cO : wb.cell? ⟨w.heap.size + 1 + 1, 7, none⟩ = some (.slice none 0 0) := (cell_of_row _ _ 7 _ _ (0, 0) HTA.out.out).trans rfl
    have fO : wb.frozen? ⟨w.heap.size + 1 + 1, 7, none⟩ = false := frozen_of_row _ _ _ _ _ HTA.out.out
    obtain ⟨cur, hcl, hmk⟩ := make_any Try.underlying25 inf84 s.n HMs.out (by omega)
    go_upto_block 2 with fail
    clear cX lX cO fO
    obtain ⟨w0, hw0⟩ : ∃ w0, w0 = (wb.setCell ⟨w.heap.size + 1 + 1, 7, none⟩ (.slice (some ⟨wb.heap.size, 0, none⟩) s.n s.n)).alloc (.cells cur.toArray 84) := ⟨_, rfl⟩
    rw [← hw0]
    have HF0 : Hid (Fill w0 w0 wb.heap.size 84 (s.n * 7) []) := hidMk (by rw [hw0]; exact Fill.start (cur := cur) (by have := heap_alloc_new (wb.setCell ⟨w.heap.size + 1 + 1, 7, none⟩ (.slice (some ⟨wb.heap.size, 0, none⟩) s.n s.n)) (.cells cur.toArray 84); simpa using this) hcl)
    have HS0 : Hid (Seg wb w0 (w.heap.size + 1 + 1) 7 (.slice (some ⟨wb.heap.size, 0, none⟩) s.n s.n)) := hidMk (by rw [hw0]; exact seg_start _ _ _ _ _ lO)
    have HN0 : Hid (wb.heap.size < w0.heap.size) := hidMk (by rw [hw0]; simp)
    clear hw0 hcl hmk cur lO
    go_cut [6, 7] from 85 to 89 (fun _ _ wz => ∃ v, Seg wb wz (w.heap.size + 1 + 1) 7 v ∧ wz.ownsRow (w.heap.size + 3) 84 7 v s.n (L.s.flatMap St.z) ∧ ∃ a, v = .slice a s.n s.n)
    case first =>
      exact frSt s w _ _ _ _ _ HTA.out rfl rfl HS0.out HF0.out HN0.out L.s HV.out.ls HMs.out HV.out.rs _ _ _ _ _ _ _ _ _ _ _ _ _ _ _ _ _ _ _ _ _ _ _ _ _ _ _ _ _ _ _ _ _ _ _ _ _ _ _ _ _ _ _ _ _ _ _ _ _ _ _ _ _ _ _ _ _ _ _ _ _ _ _ _ _ _ _ _ _ _ _ _ _ _ _ _ _ _ _ _ _ _ _ _ _ _ _ _ _ _ _ _ _ _ _ _ _ _ _ _ _ _ _ _ _ _ _ _ _ _ _ _ _ _ _ _ _ _ _ _ _ _ _ _ _ _ _ _ _ _ _ _ _ _ _ _ _ _ _ _ _ _ _ _ _ _ _ _ _ _ _ _ _ _ _ _ _ _ _ _ _ _ _ _ _ _ _ _ _ _ _ _ _ _ _ _ _ _ _ _ _ _ _ _ _ _ _ _ _ _ _ _ _ _ _ _ _ _ _ _ _ _ _ _ _ _ _ _ _ _ _ _ _ _ _ _ _ _ _ _ _ _ _ _ _ _ _ _ _ _ _ _ _ _ _ _ _ _ _ _ _ _ _ _ _ _ _ _ _ _ _ _ _ _ _ _ _ _ _ _ _ _ _ _ _ _ _ _ _ _ _ _ _ _ _ _ _ _ _ _ _ _ _ _ _ _ _ _ _ _ _ _ _ _ _ _ _ _ _ _ _ _ _ _ _ _ _ _ _ _ _ _ _ _ _ _ _ _ _ _ _ _ _ _ _ _ _ _ _ _ _ _ _ _ _ _ _ _ _ _ _ _ _ _ _ _ _ _ _ _ _ _ _ _ _ _ _ _ _ _ _ _ _ _ _ _ _ _ _ _ _ _ _ _ _ _ _ _ _ _ _ _ _ _ _ _ _ _ _ _ _ _ _ _ _ _ _ _ _ _ _ _ _ _ _ _ _ _ _ _ _ _ _ _ _ _ _ _ _ _ _ _ _ _ _ _ _ _ _ _ _ _ _ _ _ _ _ _ _ _ _ _ _ _ _ (by assumption) (by assumption)
    case rest =>
      obtain ⟨_, hseg, hown, ⟨as_, rfl⟩⟩ := hcut
      rename World => wc
      have HTA2 := hidMk (HTA.out.next hseg)
      clear HF0 HS0 HN0
      have HO2 := hidMk (seg_keep hseg HOr.out (Nat.le_refl _))
      clear HOr
      have HOr := HO2
      clear HO2
      have HOs := hidMk hown
      clear HTA hseg hown
      have HTA := HTA2
      clear HTA2
      simp only [List.set_cons_succ, List.set_cons_zero] at HTA
      have cX : wc.cell? ⟨w.heap.size, 8, none⟩ = some (.slice c.a c.n c.c) := (cell_of_row _ _ 8 _ _ (0, 0) HTA.out.box).trans rfl
      have lX := lt_of_heap HTA.out.box
      have lO := lt_of_heap HTA.out.out
      have cO : wc.cell? ⟨w.heap.size + 1 + 1, 8, none⟩ = some (.slice none 0 0) := (cell_of_row _ _ 8 _ _ (0, 0) HTA.out.out).trans rfl
      have fO : wc.frozen? ⟨w.heap.size + 1 + 1, 8, none⟩ = false := frozen_of_row _ _ _ _ _ HTA.out.out
      obtain ⟨cur, hcl, hmk⟩ := make_any Try.underlying26 inf53 c.n HMc.out (by omega)
      go_upto_block 4 with fail
      clear cX lX cO fO
      obtain ⟨w0, hw0⟩ : ∃ w0, w0 = (wc.setCell ⟨w.heap.size + 1 + 1, 8, none⟩ (.slice (some ⟨wc.heap.size, 0, none⟩) c.n c.n)).alloc (.cells cur.toArray 53) := ⟨_, rfl⟩
      rw [← hw0]
      have HF0 : Hid (Fill w0 w0 wc.heap.size 53 (c.n * 3) []) := hidMk (by rw [hw0]; exact Fill.start (cur := cur) (by have := heap_alloc_new (wc.setCell ⟨w.heap.size + 1 + 1, 8, none⟩ (.slice (some ⟨wc.heap.size, 0, none⟩) c.n c.n)) (.cells cur.toArray 53); simpa using this) hcl)
      have HS0 : Hid (Seg wc w0 (w.heap.size + 1 + 1) 8 (.slice (some ⟨wc.heap.size, 0, none⟩) c.n c.n)) := hidMk (by rw [hw0]; exact seg_start _ _ _ _ _ lO)
      have HN0 : Hid (wc.heap.size < w0.heap.size) := hidMk (by rw [hw0]; simp)
      clear hw0 hcl hmk cur lO
      go_cut [8, 9] from 120 to 124 (fun _ _ wz => ∃ v, Seg wc wz (w.heap.size + 1 + 1) 8 v ∧ wz.ownsRow (w.heap.size + 3) 53 3 v c.n (L.c.flatMap Cm.z) ∧ ∃ a, v = .slice a c.n c.n)
      case first =>
        exact frCm c w _ _ _ _ _ HTA.out rfl rfl HS0.out HF0.out HN0.out L.c HV.out.lc HMc.out HV.out.rc _ _ _ _ _ _ _ _ _ _ _ _ _ _ _ _ _ _ _ _ _ _ _ _ _ _ _ _ _ _ _ _ _ _ _ _ _ _ _ _ _ _ _ _ _ _ _ _ _ _ _ _ _ _ _ _ _ _ _ _ _ _ _ _ _ _ _ _ _ _ _ _ _ _ _ _ _ _ _ _ _ _ _ _ _ _ _ _ _ _ _ _ _ _ _ _ _ _ _ _ _ _ _ _ _ _ _ _ _ _ _ _ _ _ _ _ _ _ _ _ _ _ _ _ _ _ _ _ _ _ _ _ _ _ _ _ _ _ _ _ _ _ _ _ _ _ _ _ _ _ _ _ _ _ _ _ _ _ _ _ _ _ _ _ _ _ _ _ _ _ _ _ _ _ _ _ _ _ _ _ _ _ _ _ _ _ _ _ _ _ _ _ _ _ _ _ _ _ _ _ _ _ _ _ _ _ _ _ _ _ _ _ _ _ _ _ _ _ _ _ _ _ _ _ _ _ _ _ _ _ _ _ _ _ _ _ _ _ _ _ _ _ _ _ _ _ _ _ _ _ _ _ _ _ _ _ _ _ _ _ _ _ _ _ _ _ _ _ _ _ _ _ _ _ _ _ _ _ _ _ _ _ _ _ _ _ _ _ _ _ _ _ _ _ _ _ _ _ _ _ _ _ _ _ _ _ _ _ _ _ _ _ _ _ _ _ _ _ _ _ _ _ _ _ _ _ _ _ _ _ _ _ _ _ _ _ _ _ _ _ _ _ _ _ _ _ _ _ _ _ _ _ _ _ _ _ _ _ _ _ _ _ _ _ _ _ _ _ _ _ _ _ _ _ _ _ _ _ _ _ _ _ _ _ _ _ _ _ _ _ _ _ _ _ _ _ _ _ _ _ _ _ _ _ _ _ _ _ _ _ _ _ _ _ _ _ _ _ _ _ _ _ _ _ _ _ _ _ _ _ _ _ _ _ _ _ _ _ _ _ _ _ _ _ _ (by assumption) (by assumption)
      case rest =>
        obtain ⟨_, hseg, hown, ⟨ac_, rfl⟩⟩ := hcut
        rename World => wd
        have HTA2 := hidMk (HTA.out.next hseg)
        clear HF0 HS0 HN0
        have HO2 := hidMk (seg_keep hseg HOr.out (Nat.le_refl _))
        clear HOr
        have HOr := HO2
        clear HO2
        have HO2 := hidMk (seg_keep hseg HOs.out (Nat.le_refl _))
        clear HOs
        have HOs := HO2
        clear HO2
        have HOc := hidMk hown
        clear HTA hseg hown
        have HTA := HTA2
        clear HTA2
        simp only [List.set_cons_succ, List.set_cons_zero] at HTA
        have cX : wd.cell? ⟨w.heap.size, 9, none⟩ = some (.slice h.a h.n h.c) := (cell_of_row _ _ 9 _ _ (0, 0) HTA.out.box).trans rfl
        have lX := lt_of_heap HTA.out.box
        have lO := lt_of_heap HTA.out.out
        have cO : wd.cell? ⟨w.heap.size + 1 + 1, 9, none⟩ = some (.slice none 0 0) := (cell_of_row _ _ 9 _ _ (0, 0) HTA.out.out).trans rfl
        have fO : wd.frozen? ⟨w.heap.size + 1 + 1, 9, none⟩ = false := frozen_of_row _ _ _ _ _ HTA.out.out
        obtain ⟨cur, hcl, hmk⟩ := make_any Try.underlying27 inf93 h.n HMh.out (by omega)
        go_upto_block 6 with fail
        clear cX lX cO fO
        obtain ⟨w0, hw0⟩ : ∃ w0, w0 = (wd.setCell ⟨w.heap.size + 1 + 1, 9, none⟩ (.slice (some ⟨wd.heap.size, 0, none⟩) h.n h.n)).alloc (.cells cur.toArray 93) := ⟨_, rfl⟩
        rw [← hw0]
        have HF0 : Hid (Fill w0 w0 wd.heap.size 93 (h.n * 14) []) := hidMk (by rw [hw0]; exact Fill.start (cur := cur) (by have := heap_alloc_new (wd.setCell ⟨w.heap.size + 1 + 1, 9, none⟩ (.slice (some ⟨wd.heap.size, 0, none⟩) h.n h.n)) (.cells cur.toArray 93); simpa using this) hcl)
        have HS0 : Hid (Seg wd w0 (w.heap.size + 1 + 1) 9 (.slice (some ⟨wd.heap.size, 0, none⟩) h.n h.n)) := hidMk (by rw [hw0]; exact seg_start _ _ _ _ _ lO)
        have HN0 : Hid (wd.heap.size < w0.heap.size) := hidMk (by rw [hw0]; simp)
        clear hw0 hcl hmk cur lO
        go_cut [10, 11] from 148 to 152 (fun _ _ wz => ∃ v, Seg wd wz (w.heap.size + 1 + 1) 9 v ∧ wz.ownsRow (w.heap.size + 3) 93 14 v h.n (L.h.flatMap Hp.z) ∧ ∃ a, v = .slice a h.n h.n)
        case first =>
          exact frHp h w _ _ _ _ _ HTA.out rfl rfl HS0.out HF0.out HN0.out L.h HV.out.lh HMh.out HV.out.rh _ _ _ _ _ _ _ _ _ _ _ _ _ _ _ _ _ _ _ _ _ _ _ _ _ _ _ _ _ _ _ _ _ _ _ _ _ _ _ _ _ _ _ _ _ _ _ _ _ _ _ _ _ _ _ _ _ _ _ _ _ _ _ _ _ _ _ _ _ _ _ _ _ _ _ _ _ _ _ _ _ _ _ _ _ _ _ _ _ _ _ _ _ _ _ _ _ _ _ _ _ _ _ _ _ _ _ _ _ _ _ _ _ _ _ _ _ _ _ _ _ _ _ _ _ _ _ _ _ _ _ _ _ _ _ _ _ _ _ _ _ _ _ _ _ _ _ _ _ _ _ _ _ _ _ _ _ _ _ _ _ _ _ _ _ _ _ _ _ _ _ _ _ _ _ _ _ _ _ _ _ _ _ _ _ _ _ _ _ _ _ _ _ _ _ _ _ _ _ _ _ _ _ _ _ _ _ _ _ _ _ _ _ _ _ _ _ _ _ _ _ _ _ _ _ _ _ _ _ _ _ _ _ _ _ _ _ _ _ _ _ _ _ _ _ _ _ _ _ _ _ _ _ _ _ _ _ _ _ _ _ _ _ _ _ _ _ _ _ _ _ _ _ _ _ _ _ _ _ _ _ _ _ _ _ _ _ _ _ _ _ _ _ _ _ _ _ _ _ _ _ _ _ _ _ _ _ _ _ _ _ _ _ _ _ _ _ _ _ _ _ _ _ _ _ _ _ _ _ _ _ _ _ _ _ _ _ _ _ _ _ _ _ _ _ _ _ _ _ _ _ _ _ _ _ _ _ _ _ _ _ _ _ _ _ _ _ _ _ _ _ _ _ _ _ _ _ _ _ _ _ _ _ _ _ _ _ _ _ _ _ _ _ _ _ _ _ _ _ _ _ _ _ _ _ _ _ _ _ _ _ _ _ _ _ _ _ _ _ _ _ _ _ _ _ _ _ _ _ _ _ _ _ _ _ _ _ _ _ _ _ _ _ _ _ (by assumption) (by assumption)
        case rest =>
          obtain ⟨_, hseg, hown, ⟨ah_, rfl⟩⟩ := hcut
          rename World => we
          have HTA2 := hidMk (HTA.out.next hseg)
          clear HF0 HS0 HN0
          have HO2 := hidMk (seg_keep hseg HOr.out (Nat.le_refl _))
          clear HOr
          have HOr := HO2
          clear HO2
          have HO2 := hidMk (seg_keep hseg HOs.out (Nat.le_refl _))
          clear HOs
          have HOs := HO2
          clear HO2
          have HO2 := hidMk (seg_keep hseg HOc.out (Nat.le_refl _))
          clear HOc
          have HOc := HO2
          clear HO2
          have HOh := hidMk hown
          clear HTA hseg hown
          have HTA := HTA2
          clear HTA2
          simp only [List.set_cons_succ, List.set_cons_zero] at HTA
          have cX : we.cell? ⟨w.heap.size, 10, none⟩ = some (.pointer D) := (cell_of_row _ _ 10 _ _ (0, 0) HTA.out.box).trans rfl
          have lX := lt_of_heap HTA.out.box
          have lO := lt_of_heap HTA.out.out
          go_upto_if 194 with fail
          clear cX lX
          go_cut [12, 13, 14, 15, 16, 17, 18] from 192 to 194 (fun _ _ _ _ _ _ _ wz => ∃ v, Seg we wz (w.heap.size + 1 + 1) 10 v ∧ DelA wz (w.heap.size + 3) 58 104 108 112 v d ∧ ∃ A, v = .pointer A)
          case first =>
            rw [isSome_not D]
            exact frDel D d w _ _ _ _ HTA.out rfl rfl HD.out HOK.out _ _ _ _ _ _ _ _ _ _ _ _ _ _ _ _ _ _ _ _ _ _ _ _ _ _ _ _ _ _ _ _ _ _ _ _ _ _ _ _ _ _ _ _ _ _ _ _ _ _ _ _ _ _ _ _ _ _ _ _ _ _ _ _ _ _ _ _ _ _ _ _ _ _ _ _ _ _ _ _ _ _ _ _ _ _ _ _ _ _ _ _ _ _ _ _ _ _ _ _ _ _ _ _ _ _ _ _ _ _ _ _ _ _ _ _ _ _ _ _ _ _ _ _ _ _ _ _ _ _ _ _ _ _ _ _ _ _ _ _ _ _ _ _ _ _ _ _ _ _ _ _ _ _ _ _ _ _ _ _ _ _ _ _ _ _ _ _ _ _ _ _ _ _ _ _ _ _ _ _ _ _ _ _ _ _ _ _ _ _ _ _ _ _ _ _ _ _ _ _ _ _ _ _ _ _ _ _ _ _ _ _ _ _ _ _ _ _ _ _ _ _ _ _ _ _ _ _ _ _ _ _ _ _ _ _ _ _ _ _ _ _ _ _ _ _ _ _ _ _ _ _ _ _ _ _ _ _ _ _ _ _ _ _ _ _ _ _ _ _ _ _ _ _ _ _ _ _ _ _ _ _ _ _ _ _ _ _ _ _ _ _ _ _ _ _ _ _ _ _ _ _ _ _ _ _ _ _ _ _ _ _ _ _ _ _ _ _ _ _ _ _ _ _ _ _ _ _ _ _ _ _ _ _ _ _ _ _ _ _ _ _ _ _ _ _ _ _ _ _ _ _ _ _ _ _ _ _ _ _ _ _ _ _ _ _ _ _ _ _ _ _ _ _ _ _ _ _ _ _ _ _ _ _ _ _ _ _ _ _ _ _ _ _ _ _ _ _ _ _ _ _ _ _ _ _ _ _ _ _ _ _ _ _ _ _ _ _ _ _ _ _ _ _ _ _ _ _ _ _ _ _ _ _ _ _ _ _ _ _ _ _ _ _ _ (by assumption) (by assumption)
          case rest =>
            obtain ⟨_, hseg, hown, ⟨dp, rfl⟩⟩ := hcut
            rename World => wf
            have HTA2 := hidMk (HTA.out.next hseg)
            have HO2 := hidMk (seg_keep hseg HOr.out (Nat.le_refl _))
            clear HOr
            have HOr := HO2
            clear HO2
            have HO2 := hidMk (seg_keep hseg HOs.out (Nat.le_refl _))
            clear HOs
            have HOs := HO2
            clear HO2
            have HO2 := hidMk (seg_keep hseg HOc.out (Nat.le_refl _))
            clear HOc
            have HOc := HO2
            clear HO2
            have HO2 := hidMk (seg_keep hseg HOh.out (Nat.le_refl _))
            clear HOh
            have HOh := HO2
            clear HO2
            have HOd := hidMk hown
            clear HTA hseg hown
            have HTA := HTA2
            clear HTA2
            simp only [List.set_cons_succ, List.set_cons_zero] at HTA
            have cX : wf.cell? ⟨w.heap.size, 11, none⟩ = some (.slice p.a p.n p.c) := (cell_of_row _ _ 11 _ _ (0, 0) HTA.out.box).trans rfl
            have lX := lt_of_heap HTA.out.box
            have lO := lt_of_heap HTA.out.out
            have cO : wf.cell? ⟨w.heap.size + 1 + 1, 11, none⟩ = some (.slice none 0 0) := (cell_of_row _ _ 11 _ _ (0, 0) HTA.out.out).trans rfl
            have fO : wf.frozen? ⟨w.heap.size + 1 + 1, 11, none⟩ = false := frozen_of_row _ _ _ _ _ HTA.out.out
            obtain ⟨cur, hcl, hmk⟩ := make_any Try.underlying29 inf61 p.n HMp.out (by omega)
            go_upto_block 14 with fail
            clear cX lX cO fO
            obtain ⟨w0, hw0⟩ : ∃ w0, w0 = (wf.setCell ⟨w.heap.size + 1 + 1, 11, none⟩ (.slice (some ⟨wf.heap.size, 0, none⟩) p.n p.n)).alloc (.cells cur.toArray 61) := ⟨_, rfl⟩
            rw [← hw0]
            have HF0 : Hid (Fill w0 w0 wf.heap.size 61 (p.n * 10) []) := hidMk (by rw [hw0]; exact Fill.start (cur := cur) (by have := heap_alloc_new (wf.setCell ⟨w.heap.size + 1 + 1, 11, none⟩ (.slice (some ⟨wf.heap.size, 0, none⟩) p.n p.n)) (.cells cur.toArray 61); simpa using this) hcl)
            have HS0 : Hid (Seg wf w0 (w.heap.size + 1 + 1) 11 (.slice (some ⟨wf.heap.size, 0, none⟩) p.n p.n)) := hidMk (by rw [hw0]; exact seg_start _ _ _ _ _ lO)
            have HN0 : Hid (wf.heap.size < w0.heap.size) := hidMk (by rw [hw0]; simp)
            clear hw0 hcl hmk cur lO
            go_cut [19, 20, 21] from 326 to 330 (fun _ _ _ wz => ∃ v, Seg wf wz (w.heap.size + 1 + 1) 11 v ∧ (∃ a, v = .slice a p.n p.n) ∧ ∃ ps', wz.ownsRow (w.heap.size + 3) 61 10 v p.n (ps'.flatMap Pk.a) ∧ PkIs wz ps' L.x ∧ Far (w.heap.size + 3) ps')
            case first =>
              exact frPk p w _ _ _ _ _ HTA.out rfl rfl HS0.out HF0.out HN0.out ps L.x HV.out.lp HMp.out HV.out.rp HV.out.px HXB.out _ _ _ _ _ _ _ _ _ _ _ _ _ _ _ _ _ _ _ _ _ _ _ _ _ _ _ _ _ _ _ _ _ _ _ _ _ _ _ _ _ _ _ _ _ _ _ _ _ _ _ _ _ _ _ _ _ _ _ _ _ _ _ _ _ _ _ _ _ _ _ _ _ _ _ _ _ _ _ _ _ _ _ _ _ _ _ _ _ _ _ _ _ _ _ _ _ _ _ _ _ _ _ _ _ _ _ _ _ _ _ _ _ _ _ _ _ _ _ _ _ _ _ _ _ _ _ _ _ _ _ _ _ _ _ _ _ _ _ _ _ _ _ _ _ _ _ _ _ _ _ _ _ _ _ _ _ _ _ _ _ _ _ _ _ _ _ _ _ _ _ _ _ _ _ _ _ _ _ _ _ _ _ _ _ _ _ _ _ _ _ _ _ _ _ _ _ _ _ _ _ _ _ _ _ _ _ _ _ _ _ _ _ _ _ _ _ _ _ _ _ _ _ _ _ _ _ _ _ _ _ _ _ _ _ _ _ _ _ _ _ _ _ _ _ _ _ _ _ _ _ _ _ _ _ _ _ _ _ _ _ _ _ _ _ _ _ _ _ _ _ _ _ _ _ _ _ _ _ _ _ _ _ _ _ _ _ _ _ _ _ _ _ _ _ _ _ _ _ _ _ _ _ _ _ _ _ _ _ _ _ _ _ _ _ _ _ _ _ _ _ _ _ _ _ _ _ _ _ _ _ _ _ _ _ _ _ _ _ _ _ _ _ _ _ _ _ _ _ _ _ _ _ _ _ _ _ _ _ _ _ _ _ _ _ _ _ _ _ _ _ _ _ _ _ _ _ _ _ _ _ _ _ _ _ _ _ _ _ _ _ _ _ _ _ _ _ _ _ _ _ _ _ _ _ _ _ _ _ _ _ _ _ _ _ _ _ _ _ _ _ _ _ _ _ _ _ _ _ _ _ _ _ _ _ _ _ _ _ _ _ _ _ _ _ (by assumption) (by assumption)
            case rest =>
              obtain ⟨_, hseg, ⟨ap, rfl⟩, ps', hown, hpx, hfar⟩ := hcut
              rename World => wg
              have HTA2 := hidMk (HTA.out.next hseg)
              clear HF0 HS0 HN0
              have HO2 := hidMk (seg_keep hseg HOr.out (Nat.le_refl _))
              clear HOr
              have HOr := HO2
              clear HO2
              have HO2 := hidMk (seg_keep hseg HOs.out (Nat.le_refl _))
              clear HOs
              have HOs := HO2
              clear HO2
              have HO2 := hidMk (seg_keep hseg HOc.out (Nat.le_refl _))
              clear HOc
              have HOc := HO2
              clear HO2
              have HO2 := hidMk (seg_keep hseg HOh.out (Nat.le_refl _))
              clear HOh
              have HOh := HO2
              clear HO2
              have HOd2 := hidMk (HOd.out.kept (fun b hb hlt => hseg.kept.block b hlt (fun e => by injection e with e; omega)))
              clear HOd
              have HOd := HOd2
              clear HOd2
              have HOp := hidMk hown
              clear HTA hseg hown
              have HTA := HTA2
              clear HTA2
              simp only [List.set_cons_succ, List.set_cons_zero] at HTA
              have HPX := hidMk hpx
              have HFAR := hidMk hfar
              clear hpx hfar
              have cX : wg.cell? ⟨w.heap.size, 12, none⟩ = some (.slice t.a t.n t.c) := (cell_of_row _ _ 12 _ _ (0, 0) HTA.out.box).trans rfl
              have lX := lt_of_heap HTA.out.box
              have lO := lt_of_heap HTA.out.out
              have cO : wg.cell? ⟨w.heap.size + 1 + 1, 12, none⟩ = some (.slice none 0 0) := (cell_of_row _ _ 12 _ _ (0, 0) HTA.out.out).trans rfl
              have fO : wg.frozen? ⟨w.heap.size + 1 + 1, 12, none⟩ = false := frozen_of_row _ _ _ _ _ HTA.out.out
              obtain ⟨cur, hcl, hmk⟩ := make_any Try.underlying30 inf121 t.n HMt.out (by omega)
              go_upto_block 16 with fail
              clear cX lX cO fO
              obtain ⟨w0, hw0⟩ : ∃ w0, w0 = (wg.setCell ⟨w.heap.size + 1 + 1, 12, none⟩ (.slice (some ⟨wg.heap.size, 0, none⟩) t.n t.n)).alloc (.cells cur.toArray 121) := ⟨_, rfl⟩
              rw [← hw0]
              have HF0 : Hid (Fill w0 w0 wg.heap.size 121 (t.n * 5) []) := hidMk (by rw [hw0]; exact Fill.start (cur := cur) (by have := heap_alloc_new (wg.setCell ⟨w.heap.size + 1 + 1, 12, none⟩ (.slice (some ⟨wg.heap.size, 0, none⟩) t.n t.n)) (.cells cur.toArray 121); simpa using this) hcl)
              have HS0 : Hid (Seg wg w0 (w.heap.size + 1 + 1) 12 (.slice (some ⟨wg.heap.size, 0, none⟩) t.n t.n)) := hidMk (by rw [hw0]; exact seg_start _ _ _ _ _ lO)
              have HN0 : Hid (wg.heap.size < w0.heap.size) := hidMk (by rw [hw0]; simp)
              clear hw0 hcl hmk cur lO
              go_cut [22, 23] from 375 to 379 (fun _ _ wz => ∃ v, Seg wg wz (w.heap.size + 1 + 1) 12 v ∧ wz.ownsRow (w.heap.size + 3) 121 5 v t.n (L.t.flatMap Tp.z) ∧ ∃ a, v = .slice a t.n t.n)
              case first =>
                exact frTp t w _ _ _ _ _ HTA.out rfl rfl HS0.out HF0.out HN0.out L.t HV.out.lt HMt.out HV.out.rt _ _ _ _ _ _ _ _ _ _ _ _ _ _ _ _ _ _ _ _ _ _ _ _ _ _ _ _ _ _ _ _ _ _ _ _ _ _ _ _ _ _ _ _ _ _ _ _ _ _ _ _ _ _ _ _ _ _ _ _ _ _ _ _ _ _ _ _ _ _ _ _ _ _ _ _ _ _ _ _ _ _ _ _ _ _ _ _ _ _ _ _ _ _ _ _ _ _ _ _ _ _ _ _ _ _ _ _ _ _ _ _ _ _ _ _ _ _ _ _ _ _ _ _ _ _ _ _ _ _ _ _ _ _ _ _ _ _ _ _ _ _ _ _ _ _ _ _ _ _ _ _ _ _ _ _ _ _ _ _ _ _ _ _ _ _ _ _ _ _ _ _ _ _ _ _ _ _ _ _ _ _ _ _ _ _ _ _ _ _ _ _ _ _ _ _ _ _ _ _ _ _ _ _ _ _ _ _ _ _ _ _ _ _ _ _ _ _ _ _ _ _ _ _ _ _ _ _ _ _ _ _ _ _ _ _ _ _ _ _ _ _ _ _ _ _ _ _ _ _ _ _ _ _ _ _ _ _ _ _ _ _ _ _ _ _ _ _ _ _ _ _ _ _ _ _ _ _ _ _ _ _ _ _ _ _ _ _ _ _ _ _ _ _ _ _ _ _ _ _ _ _ _ _ _ _ _ _ _ _ _ _ _ _ _ _ _ _ _ _ _ _ _ _ _ _ _ _ _ _ _ _ _ _ _ _ _ _ _ _ _ _ _ _ _ _ _ _ _ _ _ _ _ _ _ _ _ _ _ _ _ _ _ _ _ _ _ _ _ _ _ _ _ _ _ _ _ _ _ _ _ _ _ _ _ _ _ _ _ _ _ _ _ _ _ _ _ _ _ _ _ _ _ _ _ _ _ _ _ _ _ _ _ _ _ _ _ _ _ _ _ _ _ _ _ _ _ _ _ _ _ _ _ _ _ _ _ _ _ _ _ _ _ _ _ (by assumption) (by assumption)
              case rest =>
                obtain ⟨_, hseg, hown, ⟨at_, rfl⟩⟩ := hcut
                rename World => wh
                have HTA2 := hidMk (HTA.out.next hseg)
                clear HF0 HS0 HN0
                have HO2 := hidMk (seg_keep hseg HOr.out (Nat.le_refl _))
                clear HOr
                have HOr := HO2
                clear HO2
                have HO2 := hidMk (seg_keep hseg HOs.out (Nat.le_refl _))
                clear HOs
                have HOs := HO2
                clear HO2
                have HO2 := hidMk (seg_keep hseg HOc.out (Nat.le_refl _))
                clear HOc
                have HOc := HO2
                clear HO2
                have HO2 := hidMk (seg_keep hseg HOh.out (Nat.le_refl _))
                clear HOh
                have HOh := HO2
                clear HO2
                have HOd2 := hidMk (HOd.out.kept (fun b hb hlt => hseg.kept.block b hlt (fun e => by injection e with e; omega)))
                clear HOd
                have HOd := HOd2
                clear HOd2
                have HO2 := hidMk (seg_keep hseg HOp.out (Nat.le_refl _))
                clear HOp
                have HOp := HO2
                clear HO2
                have HX2 := hidMk (HPX.out.kept HFAR.out (fun b hb hlt => hseg.kept.block b hlt (fun e => by injection e with e; omega)))
                clear HPX
                have HPX := HX2
                clear HX2
                have HOt := hidMk hown
                clear HTA hseg hown
                have HTA := HTA2
                clear HTA2
                simp only [List.set_cons_succ, List.set_cons_zero] at HTA
                have cX : wh.cell? ⟨w.heap.size, 13, none⟩ = some (.slice q.a q.n q.c) := (cell_of_row _ _ 13 _ _ (0, 0) HTA.out.box).trans rfl
                have lX := lt_of_heap HTA.out.box
                have lO := lt_of_heap HTA.out.out
                have cO : wh.cell? ⟨w.heap.size + 1 + 1, 13, none⟩ = some (.slice none 0 0) := (cell_of_row _ _ 13 _ _ (0, 0) HTA.out.out).trans rfl
                have fO : wh.frozen? ⟨w.heap.size + 1 + 1, 13, none⟩ = false := frozen_of_row _ _ _ _ _ HTA.out.out
                obtain ⟨cur, hcl, hmk⟩ := make_any Try.underlying31 inf65 q.n HMq.out (by omega)
                go_upto_block 18 with fail
                clear cX lX cO fO
                obtain ⟨w0, hw0⟩ : ∃ w0, w0 = (wh.setCell ⟨w.heap.size + 1 + 1, 13, none⟩ (.slice (some ⟨wh.heap.size, 0, none⟩) q.n q.n)).alloc (.cells cur.toArray 65) := ⟨_, rfl⟩
                rw [← hw0]
                have HF0 : Hid (Fill w0 w0 wh.heap.size 65 (q.n * 8) []) := hidMk (by rw [hw0]; exact Fill.start (cur := cur) (by have := heap_alloc_new (wh.setCell ⟨w.heap.size + 1 + 1, 13, none⟩ (.slice (some ⟨wh.heap.size, 0, none⟩) q.n q.n)) (.cells cur.toArray 65); simpa using this) hcl)
                have HS0 : Hid (Seg wh w0 (w.heap.size + 1 + 1) 13 (.slice (some ⟨wh.heap.size, 0, none⟩) q.n q.n)) := hidMk (by rw [hw0]; exact seg_start _ _ _ _ _ lO)
                have HN0 : Hid (wh.heap.size < w0.heap.size) := hidMk (by rw [hw0]; simp)
                clear hw0 hcl hmk cur lO
                go_cut [24, 25] from 407 to 411 (fun _ _ wz => ∃ v, Seg wh wz (w.heap.size + 1 + 1) 13 v ∧ wz.ownsRow (w.heap.size + 3) 65 8 v q.n (L.q.flatMap Pa.z) ∧ ∃ a, v = .slice a q.n q.n)
                case first =>
                  exact frPa q w _ _ _ _ _ HTA.out rfl rfl HS0.out HF0.out HN0.out L.q HV.out.lq HMq.out HV.out.rq _ _ _ _ _ _ _ _ _ _ _ _ _ _ _ _ _ _ _ _ _ _ _ _ _ _ _ _ _ _ _ _ _ _ _ _ _ _ _ _ _ _ _ _ _ _ _ _ _ _ _ _ _ _ _ _ _ _ _ _ _ _ _ _ _ _ _ _ _ _ _ _ _ _ _ _ _ _ _ _ _ _ _ _ _ _ _ _ _ _ _ _ _ _ _ _ _ _ _ _ _ _ _ _ _ _ _ _ _ _ _ _ _ _ _ _ _ _ _ _ _ _ _ _ _ _ _ _ _ _ _ _ _ _ _ _ _ _ _ _ _ _ _ _ _ _ _ _ _ _ _ _ _ _ _ _ _ _ _ _ _ _ _ _ _ _ _ _ _ _ _ _ _ _ _ _ _ _ _ _ _ _ _ _ _ _ _ _ _ _ _ _ _ _ _ _ _ _ _ _ _ _ _ _ _ _ _ _ _ _ _ _ _ _ _ _ _ _ _ _ _ _ _ _ _ _ _ _ _ _ _ _ _ _ _ _ _ _ _ _ _ _ _ _ _ _ _ _ _ _ _ _ _ _ _ _ _ _ _ _ _ _ _ _ _ _ _ _ _ _ _ _ _ _ _ _ _ _ _ _ _ _ _ _ _ _ _ _ _ _ _ _ _ _ _ _ _ _ _ _ _ _ _ _ _ _ _ _ _ _ _ _ _ _ _ _ _ _ _ _ _ _ _ _ _ _ _ _ _ _ _ _ _ _ _ _ _ _ _ _ _ _ _ _ _ _ _ _ _ _ _ _ _ _ _ _ _ _ _ _ _ _ _ _ _ _ _ _ _ _ _ _ _ _ _ _ _ _ _ _ _ _ _ _ _ _ _ _ _ _ _ _ _ _ _ _ _ _ _ _ _ _ _ _ _ _ _ _ _ _ _ _ _ _ _ _ _ _ _ _ _ _ _ _ _ _ _ _ _ _ _ _ _ _ _ _ _ _ _ _ _ _ _ _ _ (by assumption) (by assumption)
                case rest =>
                  obtain ⟨_, hseg, hown, ⟨aq_, rfl⟩⟩ := hcut
                  rename World => wi
                  have HTA2 := hidMk (HTA.out.next hseg)
                  clear HF0 HS0 HN0
                  have HO2 := hidMk (seg_keep hseg HOr.out (Nat.le_refl _))
                  clear HOr
                  have HOr := HO2
                  clear HO2
                  have HO2 := hidMk (seg_keep hseg HOs.out (Nat.le_refl _))
                  clear HOs
                  have HOs := HO2
                  clear HO2
                  have HO2 := hidMk (seg_keep hseg HOc.out (Nat.le_refl _))
                  clear HOc
                  have HOc := HO2
                  clear HO2
                  have HO2 := hidMk (seg_keep hseg HOh.out (Nat.le_refl _))
                  clear HOh
                  have HOh := HO2
                  clear HO2
                  have HOd2 := hidMk (HOd.out.kept (fun b hb hlt => hseg.kept.block b hlt (fun e => by injection e with e; omega)))
                  clear HOd
                  have HOd := HOd2
                  clear HOd2
                  have HO2 := hidMk (seg_keep hseg HOp.out (Nat.le_refl _))
                  clear HOp
                  have HOp := HO2
                  clear HO2
                  have HX2 := hidMk (HPX.out.kept HFAR.out (fun b hb hlt => hseg.kept.block b hlt (fun e => by injection e with e; omega)))
                  clear HPX
                  have HPX := HX2
                  clear HX2
                  have HO2 := hidMk (seg_keep hseg HOt.out (Nat.le_refl _))
                  clear HOt
                  have HOt := HO2
                  clear HO2
                  have HOq := hidMk hown
                  clear HTA hseg hown
                  have HTA := HTA2
                  clear HTA2
                  simp only [List.set_cons_succ, List.set_cons_zero] at HTA
                  have lO := lt_of_heap HTA.out.out
                  have HRA : Hid (wi.rangeAt (w.heap.size + 1 + 1) 0 [.string i, .string nm, .float .f64 la, .float .f64 lo, .float .f64 el, .float .f32 mv, .slice ar_ r.n r.n, .slice as_ s.n s.n, .slice ac_ c.n c.n, .slice ah_ h.n h.n, .pointer dp, .slice ap p.n p.n, .slice at_ t.n t.n, .slice aq_ q.n q.n]) := hidMk (fun j v hv => by rw [cell_of_row _ _ _ _ _ (0, 0) HTA.out.out]; simpa using hv)
                  have HTH : Hid (wi.there (w.heap.size + 1) 0 14) := hidMk (fun j hj => by
                    rw [cell_of_row _ _ _ _ _ (0, 0) HTA.out.res]
                    refine ⟨?_, frozen_of_row _ _ _ _ _ HTA.out.res⟩
                    rw [List.getElem?_toArray, List.getElem?_eq_getElem (by simpa using hj)]; rfl)
                  go_wp2_with (first | (refine wpList_load_mid rfl 33 _ rfl (w.heap.size + 1 + 1) 0 rfl _ _ HRA.out Try.underlying33 rfl zero33 ?_) | (refine wpList_store_list rfl 33 _ _ rfl (w.heap.size + 1) 0 _ rfl rfl HTH.out zero33 rfl ?_))
                  refine bodyPost_ret (results_cell_row rfl _ _ (w.heap.size + 1) 33 _ (0, 0) _ rfl (heap_setCells [.string i, .string nm, .float .f64 la, .float .f64 lo, .float .f64 el, .float .f32 mv, .slice ar_ r.n r.n, .slice as_ s.n s.n, .slice ac_ c.n c.n, .slice ah_ h.n h.n, .pointer dp, .slice ap p.n p.n, .slice at_ t.n t.n, .slice aq_ q.n q.n] 0 wi _ HTA.out.res (by simp)) Try.underlying33 rfl zero33) rfl ⟨⟨⟨ar_, r.n, r.n⟩, ⟨as_, s.n, s.n⟩, ⟨ac_, c.n, c.n⟩, ⟨ah_, h.n, h.n⟩, ⟨ap, p.n, p.n⟩, ⟨at_, t.n, t.n⟩, ⟨aq_, q.n, q.n⟩⟩, dp, ps', rfl, ?_, ?_, ?_⟩
                  · exact below_setCellsE HTA.out.below (by omega) (by omega)
                  · have hk : ∀ b, w.heap.size + 3 ≤ b → b < wi.heap.size → (wi.setCells (w.heap.size + 1) 0 [.string i, .string nm, .float .f64 la, .float .f64 lo, .float .f64 el, .float .f32 mv, .slice ar_ r.n r.n, .slice as_ s.n s.n, .slice ac_ c.n c.n, .slice ah_ h.n h.n, .pointer dp, .slice ap p.n p.n, .slice at_ t.n t.n, .slice aq_ q.n q.n]).heap[b]? = wi.heap[b]? := fun b hb hlt => heap_setCells_far (by omega) hlt
                    have k1 := owns_arow Rw.z Rw.z_len (by omega) (owns_kept HOr.out hk)
                    have k2 := owns_arow St.z St.z_len (by omega) (owns_kept HOs.out hk)
                    have k3 := owns_arow Cm.z Cm.z_len (by omega) (owns_kept HOc.out hk)
                    have k4 := owns_arow Hp.z Hp.z_len (by omega) (owns_kept HOh.out hk)
                    have k5 := owns_arow Pk.a Pk.a_len (by omega) (owns_kept HOp.out hk)
                    have k6 := owns_arow Tp.z Tp.z_len (by omega) (owns_kept HOt.out hk)
                    have k7 := owns_arow Pa.z Pa.z_len (by omega) (owns_kept HOq.out hk)
                    exact ⟨k1.2, k2.2, k3.2, k4.2, k5.2, k6.2, k7.2, k1.1, k2.1, k3.1, k4.1, k5.1, k6.1, k7.1, HPX.out.kept HFAR.out hk⟩
                  · exact (HOd.out.kept (fun b hb hlt => heap_setCells_far (by omega) hlt)).is
end Go.Proofs.Qxb6619005a
