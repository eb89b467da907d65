import Derived.Test.Qxb6619005aMod0
import Derived.Test.Qxb6619005aOv
namespace Go.Proofs.Qxb6619005a
open Go.RowKit
theorem zeroM33 : (Try.prog.info? 33).map (·.size) = some 14 := by kernel_rfl
theorem infM68 : (Try.prog.info? 68).map (fun i => (i.size, i.bytes, i.zero.map (·.cells.size))) = some (12, 48, some 12) := by kernel_rfl
theorem infM84 : (Try.prog.info? 84).map (fun i => (i.size, i.bytes, i.zero.map (·.cells.size))) = some (7, 40, some 7) := by kernel_rfl
theorem infM53 : (Try.prog.info? 53).map (fun i => (i.size, i.bytes, i.zero.map (·.cells.size))) = some (3, 24, some 3) := by kernel_rfl
theorem infM93 : (Try.prog.info? 93).map (fun i => (i.size, i.bytes, i.zero.map (·.cells.size))) = some (14, 56, some 14) := by kernel_rfl
theorem infM121 : (Try.prog.info? 121).map (fun i => (i.size, i.bytes, i.zero.map (·.cells.size))) = some (5, 32, some 5) := by kernel_rfl
theorem infM65 : (Try.prog.info? 65).map (fun i => (i.size, i.bytes, i.zero.map (·.cells.size))) = some (8, 56, some 8) := by kernel_rfl
theorem infM61 : (Try.prog.info? 61).map (fun i => (i.size, i.bytes, i.zero.map (·.cells.size))) = some (10, 64, some 10) := by kernel_rfl

set_option maxRecDepth 100000 in
set_option maxHeartbeats 8000000 in
theorem modelOverlay (Tl Tu : Top) (Hl Hu : Heads) (Dl Du : Option Addr) (Ll Lu : Lists) (pl pu : List Pk) (d : Option DelV) (w : World) (hvl : View Rw.z 12 w Hl Ll pl) (hml : Lens 1048576 Hl) (hvu : View Rw.z 12 w Hu Lu pu) (hmu : Lens 1048576 Hu) (hd : DelIs w Du d) (hok : ∀ x, d = some x → x.rd.length ≤ 1048576 ∧ x.sd.length ≤ 1048576 ∧ x.fd.length ≤ 1048576) :
    Calls Try.prog 10 #[.agg (cellsOf Tl Hl Dl).toArray, .agg (cellsOf Tu Hu Du).toArray] w fun e w' => ∃ (H' : Heads) (ps' : List Pk), e = .returned (.agg (cellsOf Tu H' Du).toArray) ∧ Below w.heap.size w w' ∧ View Rw.z 12 w' H' (lay Ll Lu d) ps' := by
  have HVL := hidMk hvl
  have HML := hidMk hml
  have HVU := hidMk hvu
  have HMU := hidMk hmu
  have HD := hidMk hd
  have HOK := hidMk hok
  clear hvl hml hvu hmu hd hok
  simp only [cellsOf]
  go_enter Try.func10, Try.ntmps10
  go_upto_region 3 with (first | (refine wpList_store_new rfl 33 _ _ rfl _ _ _ rfl _ rfl (by simp) rfl zeroM33 rfl rfl ?_))
  simp only [Act.put]
  obtain ⟨wa, hwa⟩ : ∃ wa, wa = (((w.alloc (.cells #[.string Tl.i, .string Tl.nm, .float .f64 Tl.la, .float .f64 Tl.lo, .float .f64 Tl.el, .float .f32 Tl.mv, .slice Hl.r.a Hl.r.n Hl.r.c, .slice Hl.s.a Hl.s.n Hl.s.c, .slice Hl.c.a Hl.c.n Hl.c.c, .slice Hl.h.a Hl.h.n Hl.h.c, .pointer Dl, .slice Hl.p.a Hl.p.n Hl.p.c, .slice Hl.t.a Hl.t.n Hl.t.c, .slice Hl.q.a Hl.q.n Hl.q.c] 33)).alloc (.cells #[.string Tu.i, .string Tu.nm, .float .f64 Tu.la, .float .f64 Tu.lo, .float .f64 Tu.el, .float .f32 Tu.mv, .slice Hu.r.a Hu.r.n Hu.r.c, .slice Hu.s.a Hu.s.n Hu.s.c, .slice Hu.c.a Hu.c.n Hu.c.c, .slice Hu.h.a Hu.h.n Hu.h.c, .pointer Du, .slice Hu.p.a Hu.p.n Hu.p.c, .slice Hu.t.a Hu.t.n Hu.t.c, .slice Hu.q.a Hu.q.n Hu.q.c] 33)).alloc (.cells #[.string ⟨#[]⟩, .string ⟨#[]⟩, .float .f64 0, .float .f64 0, .float .f64 0, .float .f32 0, .slice none 0 0, .slice none 0 0, .slice none 0 0, .slice none 0 0, .pointer none, .slice none 0 0, .slice none 0 0, .slice none 0 0] 33)).alloc (.cells #[.string Tu.i, .string Tu.nm, .float .f64 Tu.la, .float .f64 Tu.lo, .float .f64 Tu.el, .float .f32 Tu.mv, .slice none 0 0, .slice none 0 0, .slice none 0 0, .slice none 0 0, .pointer Du, .slice none 0 0, .slice none 0 0, .slice none 0 0] 33) := ⟨_, rfl⟩
  rw [← hwa]
  obtain ⟨lo, hlo⟩ : ∃ lo : List Value, lo = [.string Tl.i, .string Tl.nm, .float .f64 Tl.la, .float .f64 Tl.lo, .float .f64 Tl.el, .float .f32 Tl.mv, .slice Hl.r.a Hl.r.n Hl.r.c, .slice Hl.s.a Hl.s.n Hl.s.c, .slice Hl.c.a Hl.c.n Hl.c.c, .slice Hl.h.a Hl.h.n Hl.h.c, .pointer Dl, .slice Hl.p.a Hl.p.n Hl.p.c, .slice Hl.t.a Hl.t.n Hl.t.c, .slice Hl.q.a Hl.q.n Hl.q.c] := ⟨_, rfl⟩
  obtain ⟨up, hup⟩ : ∃ up : List Value, up = [.string Tu.i, .string Tu.nm, .float .f64 Tu.la, .float .f64 Tu.lo, .float .f64 Tu.el, .float .f32 Tu.mv, .slice Hu.r.a Hu.r.n Hu.r.c, .slice Hu.s.a Hu.s.n Hu.s.c, .slice Hu.c.a Hu.c.n Hu.c.c, .slice Hu.h.a Hu.h.n Hu.h.c, .pointer Du, .slice Hu.p.a Hu.p.n Hu.p.c, .slice Hu.t.a Hu.t.n Hu.t.c, .slice Hu.q.a Hu.q.n Hu.q.c] := ⟨_, rfl⟩
  obtain ⟨re, hre⟩ : ∃ re : List Value, re = [.string ⟨#[]⟩, .string ⟨#[]⟩, .float .f64 0, .float .f64 0, .float .f64 0, .float .f32 0, .slice none 0 0, .slice none 0 0, .slice none 0 0, .slice none 0 0, .pointer none, .slice none 0 0, .slice none 0 0, .slice none 0 0] := ⟨_, rfl⟩
  obtain ⟨ou, hou⟩ : ∃ ou : List Value, ou = [.string Tu.i, .string Tu.nm, .float .f64 Tu.la, .float .f64 Tu.lo, .float .f64 Tu.el, .float .f32 Tu.mv, .slice none 0 0, .slice none 0 0, .slice none 0 0, .slice none 0 0, .pointer Du, .slice none 0 0, .slice none 0 0, .slice none 0 0] := ⟨_, rfl⟩
  have HMW : Hid (MW w wa lo up re ou) := hidMk (by rw [hwa, hlo, hup, hre, hou]; exact mw_start w _ _ _ _)
  have HLO6 : Hid (lo[6]? = some (.slice Hl.r.a Hl.r.n Hl.r.c)) := hidMk (by rw [hlo]; rfl)
  have HUP6 : Hid (up[6]? = some (.slice Hu.r.a Hu.r.n Hu.r.c)) := hidMk (by rw [hup]; rfl)
  have HOX6 : Hid (ou[6]? = some (.slice none 0 0)) := hidMk (by rw [hou]; rfl)
  have HOU6 : Hid (ou.set 6 (.slice none 0 0) = ou) := hidMk (by rw [hou]; rfl)
  have HLO7 : Hid (lo[7]? = some (.slice Hl.s.a Hl.s.n Hl.s.c)) := hidMk (by rw [hlo]; rfl)
  have HUP7 : Hid (up[7]? = some (.slice Hu.s.a Hu.s.n Hu.s.c)) := hidMk (by rw [hup]; rfl)
  have HOX7 : Hid (ou[7]? = some (.slice none 0 0)) := hidMk (by rw [hou]; rfl)
  have HOU7 : Hid (ou.set 7 (.slice none 0 0) = ou) := hidMk (by rw [hou]; rfl)
  have HLO8 : Hid (lo[8]? = some (.slice Hl.c.a Hl.c.n Hl.c.c)) := hidMk (by rw [hlo]; rfl)
  have HUP8 : Hid (up[8]? = some (.slice Hu.c.a Hu.c.n Hu.c.c)) := hidMk (by rw [hup]; rfl)
  have HOX8 : Hid (ou[8]? = some (.slice none 0 0)) := hidMk (by rw [hou]; rfl)
  have HOU8 : Hid (ou.set 8 (.slice none 0 0) = ou) := hidMk (by rw [hou]; rfl)
  have HLO9 : Hid (lo[9]? = some (.slice Hl.h.a Hl.h.n Hl.h.c)) := hidMk (by rw [hlo]; rfl)
  have HUP9 : Hid (up[9]? = some (.slice Hu.h.a Hu.h.n Hu.h.c)) := hidMk (by rw [hup]; rfl)
  have HOX9 : Hid (ou[9]? = some (.slice none 0 0)) := hidMk (by rw [hou]; rfl)
  have HOU9 : Hid (ou.set 9 (.slice none 0 0) = ou) := hidMk (by rw [hou]; rfl)
  have HLO11 : Hid (lo[11]? = some (.slice Hl.p.a Hl.p.n Hl.p.c)) := hidMk (by rw [hlo]; rfl)
  have HUP11 : Hid (up[11]? = some (.slice Hu.p.a Hu.p.n Hu.p.c)) := hidMk (by rw [hup]; rfl)
  have HOX11 : Hid (ou[11]? = some (.slice none 0 0)) := hidMk (by rw [hou]; rfl)
  have HOU11 : Hid (ou.set 11 (.slice none 0 0) = ou) := hidMk (by rw [hou]; rfl)
  have HLO12 : Hid (lo[12]? = some (.slice Hl.t.a Hl.t.n Hl.t.c)) := hidMk (by rw [hlo]; rfl)
  have HUP12 : Hid (up[12]? = some (.slice Hu.t.a Hu.t.n Hu.t.c)) := hidMk (by rw [hup]; rfl)
  have HOX12 : Hid (ou[12]? = some (.slice none 0 0)) := hidMk (by rw [hou]; rfl)
  have HOU12 : Hid (ou.set 12 (.slice none 0 0) = ou) := hidMk (by rw [hou]; rfl)
  have HLO13 : Hid (lo[13]? = some (.slice Hl.q.a Hl.q.n Hl.q.c)) := hidMk (by rw [hlo]; rfl)
  have HUP13 : Hid (up[13]? = some (.slice Hu.q.a Hu.q.n Hu.q.c)) := hidMk (by rw [hup]; rfl)
  have HOX13 : Hid (ou[13]? = some (.slice none 0 0)) := hidMk (by rw [hou]; rfl)
  have HOU13 : Hid (ou.set 13 (.slice none 0 0) = ou) := hidMk (by rw [hou]; rfl)
  have HLO := hidMk hlo
  have HUP := hidMk hup
  have HRE := hidMk hre
  have HOU := hidMk hou
  clear hwa hlo hup hre hou
  have HBr : Hid (Below wa.heap.size wa wa) := hidMk (Below.refl _ _)
  go_upto_block 0 with fail
  go_cut [7] from 14 to 30 (fun _ wd => ∃ v : Sl, MW w wd lo up re (ou.set 6 (.slice v.a v.n v.c)) ∧ Chg wa wd (w.heap.size + 1 + 1 + 1) 0 0 ∧ wd.ownsRow wa.heap.size 68 12 (.slice v.a v.n v.c) v.n ((Ll.r.filter fun x => !goneR d x).flatMap Rw.z))
  case first =>
    have hOw : w.heap.size + 3 < wa.heap.size := lt_of_heap HMW.out.bou
    have HM0 : Hid (MW w wa lo up re (ou.set 6 (.slice none 0 0))) := hidMk (by rw [HOU6.out]; exact HMW.out)
    go_wp2_with fail
    go_loopw [7] (fun i wr => ∃ (k : Nat) (v : Sl), i = .int .i64 k ∧ k ≤ Hl.r.n ∧ v.n ≤ k ∧ MW w wr lo up re (ou.set 6 (.slice v.a v.n v.c)) ∧ Chg wa wr (w.heap.size + 1 + 1 + 1) 0 0 ∧ wr.ownsRow wa.heap.size 68 12 (.slice v.a v.n v.c) v.n (((Ll.r.take k).filter fun x => !goneR d x).flatMap Rw.z)) (fun i _ => Hl.r.n - (intOf i).toNat)
    case atStart => exact ⟨0, ⟨none, 0, 0⟩, rfl, by omega, Nat.le_refl _, HM0.out, Chg.refl _ _ _ _, by simpa using owns_nil _ _ _ _⟩
    case round =>
      obtain ⟨k, v, rfl, hk, hvk, hmw, hch, hown⟩ := hrel
      have HMR := hidMk hmw
      have HCH := hidMk hch
      have HOW := hidMk hown
      have cL : wr.cell? ⟨w.heap.size, 6, none⟩ = some (.slice Hl.r.a Hl.r.n Hl.r.c) := (cell_of_row _ _ 6 _ _ (0, 0) hmw.blo).trans (List.getElem?_toArray.trans HLO6.out)
      have lL := lt_of_heap hmw.blo
      have hws := hmw.below.size
      have hsn : Hl.r.n ≤ 1048576 := HML.out.r
      clear hmw hch hown
      by_cases hlt : k < Hl.r.n
      · have k0 : (0 : Int) ≤ (k : Int) := by omega
        have k1 : (k : Int) < (Hl.r.n : Int) := by omega
        obtain ⟨b0, o0, ha0, hc0⟩ := HVL.out.rr (by have := HVL.out.lr; omega)
        obtain ⟨y, hy⟩ : ∃ y, Ll.r[k]? = some y := ⟨Ll.r[k]'(by have := HVL.out.lr; omega), by simp⟩
        have R0 := hidMk (rangeAt_below (hc0 k y hy) HMR.out.below (Nat.le_refl _))
        have HTK : Hid (Ll.r.take (k + 1) = Ll.r.take k ++ [y]) := hidMk (by rw [List.take_add_one, hy]; rfl)
        have HGO := hidMk (runwayGoes_any Du d y wr (HD.out.below HMR.out.below) HOK.out)
        obtain ⟨b, hb⟩ : ∃ b, b = goneR d y := ⟨_, rfl⟩
        have HBB := hidMk hb
        rw [← hb] at HGO
        obtain ⟨yy, hyy⟩ : ∃ yy, yy = y := ⟨_, rfl⟩
        have HYY := hidMk hyy
        rw [← hyy] at HTK HBB
        clear hc0 hy hb hyy
        rw [ha0] at cL
        clear ha0
        obtain ⟨x1, x2, x3, x4, x5, x6, x7, x8, x9, x10, x11, x12⟩ := y
        simp only [Rw.z] at R0 HGO
        go_wp2_with (first | (refine wpList_load_mid rfl 68 _ rfl b0 (o0 + k * 12) rfl _ _ R0.out Try.underlying68 rfl info68 ?_))
        refine HGO.out.mono ?_
        rintro _ w2 ⟨rfl, hb2⟩
        have HB2 := hidMk hb2
        have HM2 := hidMk (HMR.out.below' hb2)
        have R2 := hidMk (rangeAt_below R0.out hb2 (Nat.le_refl _))
        have cL2 := cell_below cL hb2
        have HC2 := hidMk (HCH.out.trans (Below.chg hb2 _ _ _))
        have HO2 := hidMk (owns_below HOW.out hb2)
        have hs2 := hb2.size
        clear hb2 cL
        cases b
        · have HBY : Hid (Below w2.heap.size w2 (w2.drew.alloc (.cells #[.int .u8 x1, .int .u8 x2, .int .u8 x3, .int .u8 x4, .int .u16 x5, .float .f64 x6, .float .f64 x7, .float .f64 x8, .float .f32 x9, .float .f32 x10, .float .f32 x11, .float .f32 x12] 68))) := hidMk ((Below.refl _ w2).drew.alloc (by simp) _)
          obtain ⟨v', w4, hap, q1, q2, q3, q4, q5⟩ := app_any Rw.z Rw.z_len Rw.z_one Try.underlying24 infM68 (by omega) (by omega) (w2.drew.alloc (.cells #[.int .u8 x1, .int .u8 x2, .int .u8 x3, .int .u8 x4, .int .u16 x5, .float .f64 x6, .float .f64 x7, .float .f64 x8, .float .f32 x9, .float .f32 x10, .float .f32 x11, .float .f32 x12] 68)) wa.heap.size (.slice v.a v.n v.c) v.n ((Ll.r.take k).filter fun x => !goneR d x) (owns_below HO2.out HBY.out) (some ⟨w2.heap.size, 0, none⟩) 1 1 [yy] rfl (arow_one Rw.z (by rw [HYY.out]; exact heap_alloc_new w2.drew _)) (fun h => by cases h) (by omega) (by simp; have := HC2.out.size; omega) 24
          have HAP := hidMk hap
          obtain ⟨nwa, nwc, rfl, hvc⟩ := owns_slice q1
          have HQ1 := hidMk q1
          have HCG : Hid (Chg wa (w4.setCell ⟨(w.heap.size + 1 + 1 + 1), 6, none⟩ (.slice nwa (v.n + 1) nwc)) (w.heap.size + 1 + 1 + 1) 0 0) := hidMk (chg_app (HC2.out.trans (Below.chg HBY.out _ _ _)) q2 (fun g hg => .inl (HO2.out.lt g hg).1))
          have HO4 : Hid (w4.heap[(w.heap.size + 1 + 1 + 1)]? = some (.cells (ou.set 6 (.slice v.a v.n v.c)).toArray 33 (0, 0))) := hidMk ((q2.block (w.heap.size + 1 + 1 + 1) (by have := lt_of_heap HM2.out.bou; simp; omega) (fun e => by have := (HO2.out.lt (w.heap.size + 1 + 1 + 1) e.symm).1; omega)).trans ((HBY.out.block (w.heap.size + 1 + 1 + 1) (lt_of_heap HM2.out.bou)).trans HM2.out.bou))
          have HM5 : Hid (MW w (w4.setCell ⟨(w.heap.size + 1 + 1 + 1), 6, none⟩ (.slice nwa (v.n + 1) nwc)) lo up re (ou.set 6 (.slice nwa (v.n + 1) nwc))) := hidMk (HMW.out.chg HCG.out (.inl rfl) (by rw [heap_setCell_same w4 (w.heap.size + 1 + 1 + 1) 6 _ 33 _ HO4.out]; simp))
          have HQ5 : Hid ((w4.setCell ⟨(w.heap.size + 1 + 1 + 1), 6, none⟩ (.slice nwa (v.n + 1) nwc)).ownsRow wa.heap.size 68 12 (.slice nwa (v.n + 1) nwc) (v.n + 1) (((Ll.r.take (k + 1)).filter fun x => !goneR d x).flatMap Rw.z)) := hidMk (by
            have e2 : ((Ll.r.take (k + 1)).filter fun x => !goneR d x) = ((Ll.r.take k).filter fun x => !goneR d x) ++ [yy] := by
              rw [HTK.out, List.filter_append, List.filter_cons_of_pos (by rw [← HBB.out]; rfl)]; simp
            rw [e2]
            exact owns_set HQ1.out (fun g hg => by have := (HQ1.out.lt g hg).1; omega))
          have cO2 : w2.cell? ⟨(w.heap.size + 1 + 1 + 1), 6, none⟩ = some (.slice v.a v.n v.c) := (cell_of_row _ _ 6 _ _ (0, 0) HM2.out.bou).trans (List.getElem?_toArray.trans (by rw [List.getElem?_set_self (by have := (List.getElem?_eq_some_iff.1 HOX6.out).1; exact this)]))
          have cO4 : w4.cell? ⟨(w.heap.size + 1 + 1 + 1), 6, none⟩ = some (.slice v.a v.n v.c) := (cell_of_row _ _ 6 _ _ (0, 0) HO4.out).trans (List.getElem?_toArray.trans (by rw [List.getElem?_set_self (by have := (List.getElem?_eq_some_iff.1 HOX6.out).1; exact this)]))
          have gO4 : w4.frozen? ⟨(w.heap.size + 1 + 1 + 1), 6, none⟩ = false := frozen_of_row _ _ _ _ _ HO4.out
          have lO2 := lt_of_heap HM2.out.bou
          have lO4 := lt_of_heap HO4.out
          have lB0 : b0 < w2.heap.size := World.block_lt_of_cell? _ _ (R2.out 0 _ rfl)
          have lL2 : w.heap.size < w2.heap.size := by omega
          have e0 : w2.cell? ⟨b0, o0 + k * 12, none⟩ = some (.int .u8 x1) := R2.out 0 _ rfl
          have e1 : w2.cell? ⟨b0, o0 + k * 12 + 1, none⟩ = some (.int .u8 x2) := R2.out 1 _ rfl
          have e2 : w2.cell? ⟨b0, o0 + k * 12 + 2, none⟩ = some (.int .u8 x3) := R2.out 2 _ rfl
          have e3 : w2.cell? ⟨b0, o0 + k * 12 + 3, none⟩ = some (.int .u8 x4) := R2.out 3 _ rfl
          have e4 : w2.cell? ⟨b0, o0 + k * 12 + 4, none⟩ = some (.int .u16 x5) := R2.out 4 _ rfl
          have e5 : w2.cell? ⟨b0, o0 + k * 12 + 5, none⟩ = some (.float .f64 x6) := R2.out 5 _ rfl
          have e6 : w2.cell? ⟨b0, o0 + k * 12 + 6, none⟩ = some (.float .f64 x7) := R2.out 6 _ rfl
          have e7 : w2.cell? ⟨b0, o0 + k * 12 + 7, none⟩ = some (.float .f64 x8) := R2.out 7 _ rfl
          have e8 : w2.cell? ⟨b0, o0 + k * 12 + 8, none⟩ = some (.float .f32 x9) := R2.out 8 _ rfl
          have e9 : w2.cell? ⟨b0, o0 + k * 12 + 9, none⟩ = some (.float .f32 x10) := R2.out 9 _ rfl
          have e10 : w2.cell? ⟨b0, o0 + k * 12 + 10, none⟩ = some (.float .f32 x11) := R2.out 10 _ rfl
          have e11 : w2.cell? ⟨b0, o0 + k * 12 + 11, none⟩ = some (.float .f32 x12) := R2.out 11 _ rfl
          clear hap q1 q2 q3 q4 q5
          go_wp2_with fail
          go_region_law (refine step_append_run rfl (.tmp 47) (.tmp 53) 24 rfl _ _ (by simp [Act.eval]) (by simp [Act.eval]) _ _ HAP.out ?_)
          all_goals
            go_wp2_with fail
            go_light
            exact ⟨⟨k + 1, ⟨nwa, v.n + 1, nwc⟩, by go_num, by omega, by simp only; omega, HM5.out, HCG.out, HQ5.out⟩, by simp [intOf]; omega⟩
        · go_wp2_with fail
          go_light
          refine ⟨⟨k + 1, v, by go_num, by omega, by omega, HM2.out, HC2.out, ?_⟩, by simp [intOf]; omega⟩
          have e2 : ((Ll.r.take (k + 1)).filter fun x => !goneR d x) = (Ll.r.take k).filter fun x => !goneR d x := by
            rw [HTK.out, List.filter_append, List.filter_cons_of_neg (by rw [← HBB.out]; simp)]; simp
          rw [e2]
          exact HO2.out
      · have hkn : k = Hl.r.n := by omega
        go_wp2_with fail
        go_meet
        case rel =>
          have h2 := HOW.out
          rw [List.take_of_length_le (by have := HVL.out.lr; omega)] at h2
          exact ⟨v, HMR.out, HCH.out, h2⟩
  case rest =>
    rename World => wr1
    obtain ⟨v1, hmw, hch, hown⟩ := hcut
    have HM1 := hidMk hmw
    have HC1 := hidMk hch
    have HO1 := hidMk hown
    clear hmw hch hown
    have LEN1 : v1.n ≤ 1048576 + 1048576 := (by have h1 := (owns_arow Rw.z Rw.z_len (by omega) HO1.out).2; have h2 := List.length_filter_le (fun x => !goneR d x) Ll.r; have h3 := HVL.out.lr; have h4 := HML.out.r; omega)
    have hOw : w.heap.size + 3 < wa.heap.size := lt_of_heap HMW.out.bou
    have lO1 := lt_of_heap HM1.out.bou
    obtain ⟨v', w4, hap, q1, q2, q3, q4, q5⟩ := app_any Rw.z Rw.z_len Rw.z_one Try.underlying24 infM68 (by omega) (by omega) wr1 wa.heap.size (.slice v1.a v1.n v1.c) v1.n (Ll.r.filter fun x => !goneR d x) HO1.out Hu.r.a Hu.r.n Hu.r.c Lu.r HVU.out.lr (HVU.out.rr.below HM1.out.below) (nil_len HVU.out.lr HVU.out.rr) (by have := HMU.out.r; omega) (by have := HC1.out.size; omega) 24
    have HAP := hidMk hap
    obtain ⟨nwa, nwc, rfl, hvc⟩ := owns_slice q1
    have HQ1 := hidMk q1
    have HBK := hidMk (blk_or q4)
    have HCG : Hid (Chg wa (w4.setCell ⟨(w.heap.size + 1 + 1 + 1), 6, none⟩ (.slice nwa (v1.n + Hu.r.n) nwc)) (w.heap.size + 1 + 1 + 1) 0 0) := hidMk (chg_app HC1.out q2 (fun g hg => .inl (HO1.out.lt g hg).1))
    have HO4 : Hid (w4.heap[(w.heap.size + 1 + 1 + 1)]? = some (.cells (ou.set 6 (.slice v1.a v1.n v1.c)).toArray 33 (0, 0))) := hidMk ((q2.block (w.heap.size + 1 + 1 + 1) (lt_of_heap HM1.out.bou) (fun e => by have := (HO1.out.lt (w.heap.size + 1 + 1 + 1) e.symm).1; omega)).trans HM1.out.bou)
    have HM5 : Hid (MW w (w4.setCell ⟨(w.heap.size + 1 + 1 + 1), 6, none⟩ (.slice nwa (v1.n + Hu.r.n) nwc)) lo up re (ou.set 6 (.slice nwa (v1.n + Hu.r.n) nwc))) := hidMk (HMW.out.chg HCG.out (.inl rfl) (by rw [heap_setCell_same w4 (w.heap.size + 1 + 1 + 1) 6 _ 33 _ HO4.out]; simp))
    have HQ5 : Hid ((w4.setCell ⟨(w.heap.size + 1 + 1 + 1), 6, none⟩ (.slice nwa (v1.n + Hu.r.n) nwc)).ownsRow wa.heap.size 68 12 (.slice nwa (v1.n + Hu.r.n) nwc) (v1.n + Hu.r.n) (((Ll.r.filter fun x => !goneR d x) ++ Lu.r).flatMap Rw.z)) := hidMk (owns_set HQ1.out (fun g hg => by have := (HQ1.out.lt g hg).1; omega))
    have cO1 : wr1.cell? ⟨(w.heap.size + 1 + 1 + 1), 6, none⟩ = some (.slice v1.a v1.n v1.c) := (cell_of_row _ _ 6 _ _ (0, 0) HM1.out.bou).trans (List.getElem?_toArray.trans (by rw [List.getElem?_set_self (by have := (List.getElem?_eq_some_iff.1 HOX6.out).1; exact this)]))
    have cO4 : w4.cell? ⟨(w.heap.size + 1 + 1 + 1), 6, none⟩ = some (.slice v1.a v1.n v1.c) := (cell_of_row _ _ 6 _ _ (0, 0) HO4.out).trans (List.getElem?_toArray.trans (by rw [List.getElem?_set_self (by have := (List.getElem?_eq_some_iff.1 HOX6.out).1; exact this)]))
    have gO4 : w4.frozen? ⟨(w.heap.size + 1 + 1 + 1), 6, none⟩ = false := frozen_of_row _ _ _ _ _ HO4.out
    have cS : wr1.cell? ⟨w.heap.size + 1, 6, none⟩ = some (.slice Hu.r.a Hu.r.n Hu.r.c) := (cell_of_row _ _ 6 _ _ (0, 0) HM1.out.bup).trans (List.getElem?_toArray.trans HUP6.out)
    have lO4 := lt_of_heap HO4.out
    have lS := lt_of_heap HM1.out.bup
    clear hap q1 q2 q3 q4 q5
    go_upto_region 8 with fail
    go_cut [] from 56 to 61 (fun wd => ∃ v : Sl, MW w wd lo up re (ou.set 6 (.slice v.a v.n v.c)) ∧ Chg wa wd (w.heap.size + 1 + 1 + 1) 0 0 ∧ wd.ownsRow wa.heap.size 68 12 (.slice v.a v.n v.c) v.n (((Ll.r.filter fun x => !goneR d x) ++ Lu.r).flatMap Rw.z) ∧ True)
    case first =>
      go_wp2_with (first | (refine wpList_append_run rfl _ _ 24 rfl _ _ rfl rfl _ _ HAP.out ?_))
      go_meet
      case rel => exact ⟨⟨nwa, v1.n + Hu.r.n, nwc⟩, HM5.out, HCG.out, HQ5.out, trivial⟩
    case rest =>
      rename World => wr2
      obtain ⟨vr, hmw, hch, hown, hloc⟩ := hcut
      obtain ⟨our, hou2⟩ : ∃ our, our = ou.set 6 (.slice vr.a vr.n vr.c) := ⟨_, rfl⟩
      rw [← hou2] at hmw
      rw [HOU.out] at hou2
      simp only [List.set_cons_succ, List.set_cons_zero] at hou2
      clear HBK HM1 HC1 HO1 HAP HQ1 HCG HO4 HM5 HQ5 cO1 cO4 gO4 cS lO1 lO4 lS LEN1 hvc HBr
      have HWr : Hid (wr2.ownsRow (w.heap.size + 4) 68 12 (.slice vr.a vr.n vr.c) vr.n _) := hidMk (owns_base (by omega) hown)
      clear HMW hOw
      have HMW := hidMk hmw
      clear HOU
      have HOU := hidMk hou2
      clear hmw hch hown hloc
      have HOX7' : Hid (our[7]? = some (.slice none 0 0)) := hidMk (by rw [HOU.out]; rfl)
      have HOU7' : Hid (our.set 7 (.slice none 0 0) = our) := hidMk (by rw [HOU.out]; rfl)
      clear HOX7 HOU7
      have HOX7 := HOX7'
      have HOU7 := HOU7'
      clear HOX7' HOU7'
      have HOX8' : Hid (our[8]? = some (.slice none 0 0)) := hidMk (by rw [HOU.out]; rfl)
      have HOU8' : Hid (our.set 8 (.slice none 0 0) = our) := hidMk (by rw [HOU.out]; rfl)
      clear HOX8 HOU8
      have HOX8 := HOX8'
      have HOU8 := HOU8'
      clear HOX8' HOU8'
      have HOX9' : Hid (our[9]? = some (.slice none 0 0)) := hidMk (by rw [HOU.out]; rfl)
      have HOU9' : Hid (our.set 9 (.slice none 0 0) = our) := hidMk (by rw [HOU.out]; rfl)
      clear HOX9 HOU9
      have HOX9 := HOX9'
      have HOU9 := HOU9'
      clear HOX9' HOU9'
      have HOX11' : Hid (our[11]? = some (.slice none 0 0)) := hidMk (by rw [HOU.out]; rfl)
      have HOU11' : Hid (our.set 11 (.slice none 0 0) = our) := hidMk (by rw [HOU.out]; rfl)
      clear HOX11 HOU11
      have HOX11 := HOX11'
      have HOU11 := HOU11'
      clear HOX11' HOU11'
      have HOX12' : Hid (our[12]? = some (.slice none 0 0)) := hidMk (by rw [HOU.out]; rfl)
      have HOU12' : Hid (our.set 12 (.slice none 0 0) = our) := hidMk (by rw [HOU.out]; rfl)
      clear HOX12 HOU12
      have HOX12 := HOX12'
      have HOU12 := HOU12'
      clear HOX12' HOU12'
      have HOX13' : Hid (our[13]? = some (.slice none 0 0)) := hidMk (by rw [HOU.out]; rfl)
      have HOU13' : Hid (our.set 13 (.slice none 0 0) = our) := hidMk (by rw [HOU.out]; rfl)
      clear HOX13 HOU13
      have HOX13 := HOX13'
      have HOU13 := HOU13'
      clear HOX13' HOU13'
      have HBs : Hid (Below wr2.heap.size wr2 wr2) := hidMk (Below.refl _ _)
      go_upto_block 2 with fail
      go_cut [8] from 56 to 61 (fun _ wd => ∃ v : Sl, MW w wd lo up re (our.set 7 (.slice v.a v.n v.c)) ∧ Chg wr2 wd (w.heap.size + 1 + 1 + 1) 0 0 ∧ wd.ownsRow wr2.heap.size 84 7 (.slice v.a v.n v.c) v.n ((Ll.s.filter fun x => !goneS d x).flatMap St.z))
      case first =>
        have hOw : w.heap.size + 3 < wr2.heap.size := lt_of_heap HMW.out.bou
        have HM0 : Hid (MW w wr2 lo up re (our.set 7 (.slice none 0 0))) := hidMk (by rw [HOU7.out]; exact HMW.out)
        go_wp2_with fail
        go_loopw [8] (fun i wr => ∃ (k : Nat) (v : Sl), i = .int .i64 k ∧ k ≤ Hl.s.n ∧ v.n ≤ k ∧ MW w wr lo up re (our.set 7 (.slice v.a v.n v.c)) ∧ Chg wr2 wr (w.heap.size + 1 + 1 + 1) 0 0 ∧ wr.ownsRow wr2.heap.size 84 7 (.slice v.a v.n v.c) v.n (((Ll.s.take k).filter fun x => !goneS d x).flatMap St.z)) (fun i _ => Hl.s.n - (intOf i).toNat)
        case atStart => exact ⟨0, ⟨none, 0, 0⟩, rfl, by omega, Nat.le_refl _, HM0.out, Chg.refl _ _ _ _, by simpa using owns_nil _ _ _ _⟩
        case round =>
          obtain ⟨k, v, rfl, hk, hvk, hmw, hch, hown⟩ := hrel
          have HMR := hidMk hmw
          have HCH := hidMk hch
          have HOW := hidMk hown
          have cL : wr.cell? ⟨w.heap.size, 7, none⟩ = some (.slice Hl.s.a Hl.s.n Hl.s.c) := (cell_of_row _ _ 7 _ _ (0, 0) hmw.blo).trans (List.getElem?_toArray.trans HLO7.out)
          have lL := lt_of_heap hmw.blo
          have hws := hmw.below.size
          have hsn : Hl.s.n ≤ 1048576 := HML.out.s
          clear hmw hch hown
          by_cases hlt : k < Hl.s.n
          · have k0 : (0 : Int) ≤ (k : Int) := by omega
            have k1 : (k : Int) < (Hl.s.n : Int) := by omega
            obtain ⟨b0, o0, ha0, hc0⟩ := HVL.out.rs (by have := HVL.out.ls; omega)
            obtain ⟨y, hy⟩ : ∃ y, Ll.s[k]? = some y := ⟨Ll.s[k]'(by have := HVL.out.ls; omega), by simp⟩
            have R0 := hidMk (rangeAt_below (hc0 k y hy) HMR.out.below (Nat.le_refl _))
            have HTK : Hid (Ll.s.take (k + 1) = Ll.s.take k ++ [y]) := hidMk (by rw [List.take_add_one, hy]; rfl)
            have HGO := hidMk (startGoes_any Du d y wr (HD.out.below HMR.out.below) HOK.out)
            obtain ⟨b, hb⟩ : ∃ b, b = goneS d y := ⟨_, rfl⟩
            have HBB := hidMk hb
            rw [← hb] at HGO
            obtain ⟨yy, hyy⟩ : ∃ yy, yy = y := ⟨_, rfl⟩
            have HYY := hidMk hyy
            rw [← hyy] at HTK HBB
            clear hc0 hy hb hyy
            rw [ha0] at cL
            clear ha0
            obtain ⟨x1, x2, x3, x4, x5, x6, x7⟩ := y
            simp only [St.z] at R0 HGO
            go_wp2_with (first | (refine wpList_load_mid rfl 84 _ rfl b0 (o0 + k * 7) rfl _ _ R0.out Try.underlying84 rfl info84 ?_))
            refine HGO.out.mono ?_
            rintro _ w2 ⟨rfl, hb2⟩
            have HB2 := hidMk hb2
            have HM2 := hidMk (HMR.out.below' hb2)
            have R2 := hidMk (rangeAt_below R0.out hb2 (Nat.le_refl _))
            have cL2 := cell_below cL hb2
            have HC2 := hidMk (HCH.out.trans (Below.chg hb2 _ _ _))
            have HO2 := hidMk (owns_below HOW.out hb2)
            have hs2 := hb2.size
            clear hb2 cL
            cases b
            · have HBY : Hid (Below w2.heap.size w2 (w2.drew.alloc (.cells #[.int .u8 x1, .int .u8 x2, .int .u8 x3, .float .f64 x4, .float .f64 x5, .float .f64 x6, .float .f32 x7] 84))) := hidMk ((Below.refl _ w2).drew.alloc (by simp) _)
              obtain ⟨v', w4, hap, q1, q2, q3, q4, q5⟩ := app_any St.z St.z_len St.z_one Try.underlying25 infM84 (by omega) (by omega) (w2.drew.alloc (.cells #[.int .u8 x1, .int .u8 x2, .int .u8 x3, .float .f64 x4, .float .f64 x5, .float .f64 x6, .float .f32 x7] 84)) wr2.heap.size (.slice v.a v.n v.c) v.n ((Ll.s.take k).filter fun x => !goneS d x) (owns_below HO2.out HBY.out) (some ⟨w2.heap.size, 0, none⟩) 1 1 [yy] rfl (arow_one St.z (by rw [HYY.out]; exact heap_alloc_new w2.drew _)) (fun h => by cases h) (by omega) (by simp; have := HC2.out.size; omega) 25
              have HAP := hidMk hap
              obtain ⟨nwa, nwc, rfl, hvc⟩ := owns_slice q1
              have HQ1 := hidMk q1
              have HCG : Hid (Chg wr2 (w4.setCell ⟨(w.heap.size + 1 + 1 + 1), 7, none⟩ (.slice nwa (v.n + 1) nwc)) (w.heap.size + 1 + 1 + 1) 0 0) := hidMk (chg_app (HC2.out.trans (Below.chg HBY.out _ _ _)) q2 (fun g hg => .inl (HO2.out.lt g hg).1))
              have HO4 : Hid (w4.heap[(w.heap.size + 1 + 1 + 1)]? = some (.cells (our.set 7 (.slice v.a v.n v.c)).toArray 33 (0, 0))) := hidMk ((q2.block (w.heap.size + 1 + 1 + 1) (by have := lt_of_heap HM2.out.bou; simp; omega) (fun e => by have := (HO2.out.lt (w.heap.size + 1 + 1 + 1) e.symm).1; omega)).trans ((HBY.out.block (w.heap.size + 1 + 1 + 1) (lt_of_heap HM2.out.bou)).trans HM2.out.bou))
              have HM5 : Hid (MW w (w4.setCell ⟨(w.heap.size + 1 + 1 + 1), 7, none⟩ (.slice nwa (v.n + 1) nwc)) lo up re (our.set 7 (.slice nwa (v.n + 1) nwc))) := hidMk (HMW.out.chg HCG.out (.inl rfl) (by rw [heap_setCell_same w4 (w.heap.size + 1 + 1 + 1) 7 _ 33 _ HO4.out]; simp))
              have HQ5 : Hid ((w4.setCell ⟨(w.heap.size + 1 + 1 + 1), 7, none⟩ (.slice nwa (v.n + 1) nwc)).ownsRow wr2.heap.size 84 7 (.slice nwa (v.n + 1) nwc) (v.n + 1) (((Ll.s.take (k + 1)).filter fun x => !goneS d x).flatMap St.z)) := hidMk (by
                have e2 : ((Ll.s.take (k + 1)).filter fun x => !goneS d x) = ((Ll.s.take k).filter fun x => !goneS d x) ++ [yy] := by
                  rw [HTK.out, List.filter_append, List.filter_cons_of_pos (by rw [← HBB.out]; rfl)]; simp
                rw [e2]
                exact owns_set HQ1.out (fun g hg => by have := (HQ1.out.lt g hg).1; omega))
              have cO2 : w2.cell? ⟨(w.heap.size + 1 + 1 + 1), 7, none⟩ = some (.slice v.a v.n v.c) := (cell_of_row _ _ 7 _ _ (0, 0) HM2.out.bou).trans (List.getElem?_toArray.trans (by rw [List.getElem?_set_self (by have := (List.getElem?_eq_some_iff.1 HOX7.out).1; exact this)]))
              have cO4 : w4.cell? ⟨(w.heap.size + 1 + 1 + 1), 7, none⟩ = some (.slice v.a v.n v.c) := (cell_of_row _ _ 7 _ _ (0, 0) HO4.out).trans (List.getElem?_toArray.trans (by rw [List.getElem?_set_self (by have := (List.getElem?_eq_some_iff.1 HOX7.out).1; exact this)]))
              have gO4 : w4.frozen? ⟨(w.heap.size + 1 + 1 + 1), 7, none⟩ = false := frozen_of_row _ _ _ _ _ HO4.out
              have lO2 := lt_of_heap HM2.out.bou
              have lO4 := lt_of_heap HO4.out
              have lB0 : b0 < w2.heap.size := World.block_lt_of_cell? _ _ (R2.out 0 _ rfl)
              have lL2 : w.heap.size < w2.heap.size := by omega
              have e0 : w2.cell? ⟨b0, o0 + k * 7, none⟩ = some (.int .u8 x1) := R2.out 0 _ rfl
              have e1 : w2.cell? ⟨b0, o0 + k * 7 + 1, none⟩ = some (.int .u8 x2) := R2.out 1 _ rfl
              have e2 : w2.cell? ⟨b0, o0 + k * 7 + 2, none⟩ = some (.int .u8 x3) := R2.out 2 _ rfl
              have e3 : w2.cell? ⟨b0, o0 + k * 7 + 3, none⟩ = some (.float .f64 x4) := R2.out 3 _ rfl
              have e4 : w2.cell? ⟨b0, o0 + k * 7 + 4, none⟩ = some (.float .f64 x5) := R2.out 4 _ rfl
              have e5 : w2.cell? ⟨b0, o0 + k * 7 + 5, none⟩ = some (.float .f64 x6) := R2.out 5 _ rfl
              have e6 : w2.cell? ⟨b0, o0 + k * 7 + 6, none⟩ = some (.float .f32 x7) := R2.out 6 _ rfl
              clear hap q1 q2 q3 q4 q5
              go_wp2_with fail
              go_region_law (refine step_append_run rfl (.tmp 78) (.tmp 84) 25 rfl _ _ (by simp [Act.eval]) (by simp [Act.eval]) _ _ HAP.out ?_)
              all_goals
                go_wp2_with fail
                go_light
                exact ⟨⟨k + 1, ⟨nwa, v.n + 1, nwc⟩, by go_num, by omega, by simp only; omega, HM5.out, HCG.out, HQ5.out⟩, by simp [intOf]; omega⟩
            · go_wp2_with fail
              go_light
              refine ⟨⟨k + 1, v, by go_num, by omega, by omega, HM2.out, HC2.out, ?_⟩, by simp [intOf]; omega⟩
              have e2 : ((Ll.s.take (k + 1)).filter fun x => !goneS d x) = (Ll.s.take k).filter fun x => !goneS d x := by
                rw [HTK.out, List.filter_append, List.filter_cons_of_neg (by rw [← HBB.out]; simp)]; simp
              rw [e2]
              exact HO2.out
          · have hkn : k = Hl.s.n := by omega
            go_wp2_with fail
            go_meet
            case rel =>
              have h2 := HOW.out
              rw [List.take_of_length_le (by have := HVL.out.ls; omega)] at h2
              exact ⟨v, HMR.out, HCH.out, h2⟩
      case rest =>
        rename World => ws1
        obtain ⟨v1, hmw, hch, hown⟩ := hcut
        have HM1 := hidMk hmw
        have HC1 := hidMk hch
        have HO1 := hidMk hown
        clear hmw hch hown
        have LEN1 : v1.n ≤ 1048576 + 1048576 := (by have h1 := (owns_arow St.z St.z_len (by omega) HO1.out).2; have h2 := List.length_filter_le (fun x => !goneS d x) Ll.s; have h3 := HVL.out.ls; have h4 := HML.out.s; omega)
        have hOw : w.heap.size + 3 < wr2.heap.size := lt_of_heap HMW.out.bou
        have lO1 := lt_of_heap HM1.out.bou
        obtain ⟨v', w4, hap, q1, q2, q3, q4, q5⟩ := app_any St.z St.z_len St.z_one Try.underlying25 infM84 (by omega) (by omega) ws1 wr2.heap.size (.slice v1.a v1.n v1.c) v1.n (Ll.s.filter fun x => !goneS d x) HO1.out Hu.s.a Hu.s.n Hu.s.c Lu.s HVU.out.ls (HVU.out.rs.below HM1.out.below) (nil_len HVU.out.ls HVU.out.rs) (by have := HMU.out.s; omega) (by have := HC1.out.size; omega) 25
        have HAP := hidMk hap
        obtain ⟨nwa, nwc, rfl, hvc⟩ := owns_slice q1
        have HQ1 := hidMk q1
        have HBK := hidMk (blk_or q4)
        have HCG : Hid (Chg wr2 (w4.setCell ⟨(w.heap.size + 1 + 1 + 1), 7, none⟩ (.slice nwa (v1.n + Hu.s.n) nwc)) (w.heap.size + 1 + 1 + 1) 0 0) := hidMk (chg_app HC1.out q2 (fun g hg => .inl (HO1.out.lt g hg).1))
        have HO4 : Hid (w4.heap[(w.heap.size + 1 + 1 + 1)]? = some (.cells (our.set 7 (.slice v1.a v1.n v1.c)).toArray 33 (0, 0))) := hidMk ((q2.block (w.heap.size + 1 + 1 + 1) (lt_of_heap HM1.out.bou) (fun e => by have := (HO1.out.lt (w.heap.size + 1 + 1 + 1) e.symm).1; omega)).trans HM1.out.bou)
        have HM5 : Hid (MW w (w4.setCell ⟨(w.heap.size + 1 + 1 + 1), 7, none⟩ (.slice nwa (v1.n + Hu.s.n) nwc)) lo up re (our.set 7 (.slice nwa (v1.n + Hu.s.n) nwc))) := hidMk (HMW.out.chg HCG.out (.inl rfl) (by rw [heap_setCell_same w4 (w.heap.size + 1 + 1 + 1) 7 _ 33 _ HO4.out]; simp))
        have HQ5 : Hid ((w4.setCell ⟨(w.heap.size + 1 + 1 + 1), 7, none⟩ (.slice nwa (v1.n + Hu.s.n) nwc)).ownsRow wr2.heap.size 84 7 (.slice nwa (v1.n + Hu.s.n) nwc) (v1.n + Hu.s.n) (((Ll.s.filter fun x => !goneS d x) ++ Lu.s).flatMap St.z)) := hidMk (owns_set HQ1.out (fun g hg => by have := (HQ1.out.lt g hg).1; omega))
        have cO1 : ws1.cell? ⟨(w.heap.size + 1 + 1 + 1), 7, none⟩ = some (.slice v1.a v1.n v1.c) := (cell_of_row _ _ 7 _ _ (0, 0) HM1.out.bou).trans (List.getElem?_toArray.trans (by rw [List.getElem?_set_self (by have := (List.getElem?_eq_some_iff.1 HOX7.out).1; exact this)]))
        have cO4 : w4.cell? ⟨(w.heap.size + 1 + 1 + 1), 7, none⟩ = some (.slice v1.a v1.n v1.c) := (cell_of_row _ _ 7 _ _ (0, 0) HO4.out).trans (List.getElem?_toArray.trans (by rw [List.getElem?_set_self (by have := (List.getElem?_eq_some_iff.1 HOX7.out).1; exact this)]))
        have gO4 : w4.frozen? ⟨(w.heap.size + 1 + 1 + 1), 7, none⟩ = false := frozen_of_row _ _ _ _ _ HO4.out
        have cS : ws1.cell? ⟨w.heap.size + 1, 7, none⟩ = some (.slice Hu.s.a Hu.s.n Hu.s.c) := (cell_of_row _ _ 7 _ _ (0, 0) HM1.out.bup).trans (List.getElem?_toArray.trans HUP7.out)
        have lO4 := lt_of_heap HO4.out
        have lS := lt_of_heap HM1.out.bup
        clear hap q1 q2 q3 q4 q5
        go_upto_region 14 with fail
        go_cut [] from 87 to 92 (fun wd => ∃ v : Sl, MW w wd lo up re (our.set 7 (.slice v.a v.n v.c)) ∧ Chg wr2 wd (w.heap.size + 1 + 1 + 1) 0 0 ∧ wd.ownsRow wr2.heap.size 84 7 (.slice v.a v.n v.c) v.n (((Ll.s.filter fun x => !goneS d x) ++ Lu.s).flatMap St.z) ∧ True)
        case first =>
          go_wp2_with (first | (refine wpList_append_run rfl _ _ 25 rfl _ _ rfl rfl _ _ HAP.out ?_))
          go_meet
          case rel => exact ⟨⟨nwa, v1.n + Hu.s.n, nwc⟩, HM5.out, HCG.out, HQ5.out, trivial⟩
        case rest =>
          rename World => ws2
          obtain ⟨vs, hmw, hch, hown, hloc⟩ := hcut
          obtain ⟨ous, hou2⟩ : ∃ ous, ous = our.set 7 (.slice vs.a vs.n vs.c) := ⟨_, rfl⟩
          rw [← hou2] at hmw
          rw [HOU.out] at hou2
          simp only [List.set_cons_succ, List.set_cons_zero] at hou2
          clear HBK HM1 HC1 HO1 HAP HQ1 HCG HO4 HM5 HQ5 cO1 cO4 gO4 cS lO1 lO4 lS LEN1 hvc HBs
          have HN := hidMk (owns_chg HWr.out hch (fun g hg => by have := (HWr.out.lt g hg); omega))
          clear HWr
          have HWr := HN
          clear HN
          have HWs : Hid (ws2.ownsRow (w.heap.size + 4) 84 7 (.slice vs.a vs.n vs.c) vs.n _) := hidMk (owns_base (by omega) hown)
          clear HMW hOw
          have HMW := hidMk hmw
          clear HOU
          have HOU := hidMk hou2
          clear hmw hch hown hloc
          have HOX8' : Hid (ous[8]? = some (.slice none 0 0)) := hidMk (by rw [HOU.out]; rfl)
          have HOU8' : Hid (ous.set 8 (.slice none 0 0) = ous) := hidMk (by rw [HOU.out]; rfl)
          clear HOX8 HOU8
          have HOX8 := HOX8'
          have HOU8 := HOU8'
          clear HOX8' HOU8'
          have HOX9' : Hid (ous[9]? = some (.slice none 0 0)) := hidMk (by rw [HOU.out]; rfl)
          have HOU9' : Hid (ous.set 9 (.slice none 0 0) = ous) := hidMk (by rw [HOU.out]; rfl)
          clear HOX9 HOU9
          have HOX9 := HOX9'
          have HOU9 := HOU9'
          clear HOX9' HOU9'
          have HOX11' : Hid (ous[11]? = some (.slice none 0 0)) := hidMk (by rw [HOU.out]; rfl)
          have HOU11' : Hid (ous.set 11 (.slice none 0 0) = ous) := hidMk (by rw [HOU.out]; rfl)
          clear HOX11 HOU11
          have HOX11 := HOX11'
          have HOU11 := HOU11'
          clear HOX11' HOU11'
          have HOX12' : Hid (ous[12]? = some (.slice none 0 0)) := hidMk (by rw [HOU.out]; rfl)
          have HOU12' : Hid (ous.set 12 (.slice none 0 0) = ous) := hidMk (by rw [HOU.out]; rfl)
          clear HOX12 HOU12
          have HOX12 := HOX12'
          have HOU12 := HOU12'
          clear HOX12' HOU12'
          have HOX13' : Hid (ous[13]? = some (.slice none 0 0)) := hidMk (by rw [HOU.out]; rfl)
          have HOU13' : Hid (ous.set 13 (.slice none 0 0) = ous) := hidMk (by rw [HOU.out]; rfl)
          clear HOX13 HOU13
          have HOX13 := HOX13'
          have HOU13 := HOU13'
          clear HOX13' HOU13'
          have HBc : Hid (Below ws2.heap.size ws2 ws2) := hidMk (Below.refl _ _)
          go_upto_block 4 with fail
          go_cut [9] from 87 to 92 (fun _ wd => ∃ v : Sl, MW w wd lo up re (ous.set 8 (.slice v.a v.n v.c)) ∧ Chg ws2 wd (w.heap.size + 1 + 1 + 1) 0 0 ∧ wd.ownsRow ws2.heap.size 53 3 (.slice v.a v.n v.c) v.n ((Ll.c.filter fun x => !goneC d x).flatMap Cm.z))
          case first =>
            have hOw : w.heap.size + 3 < ws2.heap.size := lt_of_heap HMW.out.bou
            have HM0 : Hid (MW w ws2 lo up re (ous.set 8 (.slice none 0 0))) := hidMk (by rw [HOU8.out]; exact HMW.out)
            go_wp2_with fail
            go_loopw [9] (fun i wr => ∃ (k : Nat) (v : Sl), i = .int .i64 k ∧ k ≤ Hl.c.n ∧ v.n ≤ k ∧ MW w wr lo up re (ous.set 8 (.slice v.a v.n v.c)) ∧ Chg ws2 wr (w.heap.size + 1 + 1 + 1) 0 0 ∧ wr.ownsRow ws2.heap.size 53 3 (.slice v.a v.n v.c) v.n (((Ll.c.take k).filter fun x => !goneC d x).flatMap Cm.z)) (fun i _ => Hl.c.n - (intOf i).toNat)
            case atStart => exact ⟨0, ⟨none, 0, 0⟩, rfl, by omega, Nat.le_refl _, HM0.out, Chg.refl _ _ _ _, by simpa using owns_nil _ _ _ _⟩
            case round =>
              obtain ⟨k, v, rfl, hk, hvk, hmw, hch, hown⟩ := hrel
              have HMR := hidMk hmw
              have HCH := hidMk hch
              have HOW := hidMk hown
              have cL : wr.cell? ⟨w.heap.size, 8, none⟩ = some (.slice Hl.c.a Hl.c.n Hl.c.c) := (cell_of_row _ _ 8 _ _ (0, 0) hmw.blo).trans (List.getElem?_toArray.trans HLO8.out)
              have lL := lt_of_heap hmw.blo
              have hws := hmw.below.size
              have hsn : Hl.c.n ≤ 1048576 := HML.out.c
              clear hmw hch hown
              by_cases hlt : k < Hl.c.n
              · have k0 : (0 : Int) ≤ (k : Int) := by omega
                have k1 : (k : Int) < (Hl.c.n : Int) := by omega
                obtain ⟨b0, o0, ha0, hc0⟩ := HVL.out.rc (by have := HVL.out.lc; omega)
                obtain ⟨y, hy⟩ : ∃ y, Ll.c[k]? = some y := ⟨Ll.c[k]'(by have := HVL.out.lc; omega), by simp⟩
                have R0 := hidMk (rangeAt_below (hc0 k y hy) HMR.out.below (Nat.le_refl _))
                have HTK : Hid (Ll.c.take (k + 1) = Ll.c.take k ++ [y]) := hidMk (by rw [List.take_add_one, hy]; rfl)
                have HGO := hidMk (comGoes_any Du d y wr (HD.out.below HMR.out.below) HOK.out)
                obtain ⟨b, hb⟩ : ∃ b, b = goneC d y := ⟨_, rfl⟩
                have HBB := hidMk hb
                rw [← hb] at HGO
                obtain ⟨yy, hyy⟩ : ∃ yy, yy = y := ⟨_, rfl⟩
                have HYY := hidMk hyy
                rw [← hyy] at HTK HBB
                clear hc0 hy hb hyy
                rw [ha0] at cL
                clear ha0
                obtain ⟨x1, x2, x3⟩ := y
                simp only [Cm.z] at R0 HGO
                go_wp2_with (first | (refine wpList_load_mid rfl 53 _ rfl b0 (o0 + k * 3) rfl _ _ R0.out Try.underlying53 rfl info53 ?_))
                refine HGO.out.mono ?_
                rintro _ w2 ⟨rfl, hb2⟩
                have HB2 := hidMk hb2
                have HM2 := hidMk (HMR.out.below' hb2)
                have R2 := hidMk (rangeAt_below R0.out hb2 (Nat.le_refl _))
                have cL2 := cell_below cL hb2
                have HC2 := hidMk (HCH.out.trans (Below.chg hb2 _ _ _))
                have HO2 := hidMk (owns_below HOW.out hb2)
                have hs2 := hb2.size
                clear hb2 cL
                cases b
                · have HBY : Hid (Below w2.heap.size w2 (w2.drew.alloc (.cells #[.int .u16 x1, .int .u32 x2, .string x3] 53))) := hidMk ((Below.refl _ w2).drew.alloc (by simp) _)
                  obtain ⟨v', w4, hap, q1, q2, q3, q4, q5⟩ := app_any Cm.z Cm.z_len Cm.z_one Try.underlying26 infM53 (by omega) (by omega) (w2.drew.alloc (.cells #[.int .u16 x1, .int .u32 x2, .string x3] 53)) ws2.heap.size (.slice v.a v.n v.c) v.n ((Ll.c.take k).filter fun x => !goneC d x) (owns_below HO2.out HBY.out) (some ⟨w2.heap.size, 0, none⟩) 1 1 [yy] rfl (arow_one Cm.z (by rw [HYY.out]; exact heap_alloc_new w2.drew _)) (fun h => by cases h) (by omega) (by simp; have := HC2.out.size; omega) 26
                  have HAP := hidMk hap
                  obtain ⟨nwa, nwc, rfl, hvc⟩ := owns_slice q1
                  have HQ1 := hidMk q1
                  have HCG : Hid (Chg ws2 (w4.setCell ⟨(w.heap.size + 1 + 1 + 1), 8, none⟩ (.slice nwa (v.n + 1) nwc)) (w.heap.size + 1 + 1 + 1) 0 0) := hidMk (chg_app (HC2.out.trans (Below.chg HBY.out _ _ _)) q2 (fun g hg => .inl (HO2.out.lt g hg).1))
                  have HO4 : Hid (w4.heap[(w.heap.size + 1 + 1 + 1)]? = some (.cells (ous.set 8 (.slice v.a v.n v.c)).toArray 33 (0, 0))) := hidMk ((q2.block (w.heap.size + 1 + 1 + 1) (by have := lt_of_heap HM2.out.bou; simp; omega) (fun e => by have := (HO2.out.lt (w.heap.size + 1 + 1 + 1) e.symm).1; omega)).trans ((HBY.out.block (w.heap.size + 1 + 1 + 1) (lt_of_heap HM2.out.bou)).trans HM2.out.bou))
                  have HM5 : Hid (MW w (w4.setCell ⟨(w.heap.size + 1 + 1 + 1), 8, none⟩ (.slice nwa (v.n + 1) nwc)) lo up re (ous.set 8 (.slice nwa (v.n + 1) nwc))) := hidMk (HMW.out.chg HCG.out (.inl rfl) (by rw [heap_setCell_same w4 (w.heap.size + 1 + 1 + 1) 8 _ 33 _ HO4.out]; simp))
                  have HQ5 : Hid ((w4.setCell ⟨(w.heap.size + 1 + 1 + 1), 8, none⟩ (.slice nwa (v.n + 1) nwc)).ownsRow ws2.heap.size 53 3 (.slice nwa (v.n + 1) nwc) (v.n + 1) (((Ll.c.take (k + 1)).filter fun x => !goneC d x).flatMap Cm.z)) := hidMk (by
                    have e2 : ((Ll.c.take (k + 1)).filter fun x => !goneC d x) = ((Ll.c.take k).filter fun x => !goneC d x) ++ [yy] := by
                      rw [HTK.out, List.filter_append, List.filter_cons_of_pos (by rw [← HBB.out]; rfl)]; simp
                    rw [e2]
                    exact owns_set HQ1.out (fun g hg => by have := (HQ1.out.lt g hg).1; omega))
                  have cO2 : w2.cell? ⟨(w.heap.size + 1 + 1 + 1), 8, none⟩ = some (.slice v.a v.n v.c) := (cell_of_row _ _ 8 _ _ (0, 0) HM2.out.bou).trans (List.getElem?_toArray.trans (by rw [List.getElem?_set_self (by have := (List.getElem?_eq_some_iff.1 HOX8.out).1; exact this)]))
                  have cO4 : w4.cell? ⟨(w.heap.size + 1 + 1 + 1), 8, none⟩ = some (.slice v.a v.n v.c) := (cell_of_row _ _ 8 _ _ (0, 0) HO4.out).trans (List.getElem?_toArray.trans (by rw [List.getElem?_set_self (by have := (List.getElem?_eq_some_iff.1 HOX8.out).1; exact this)]))
                  have gO4 : w4.frozen? ⟨(w.heap.size + 1 + 1 + 1), 8, none⟩ = false := frozen_of_row _ _ _ _ _ HO4.out
                  have lO2 := lt_of_heap HM2.out.bou
                  have lO4 := lt_of_heap HO4.out
                  have lB0 : b0 < w2.heap.size := World.block_lt_of_cell? _ _ (R2.out 0 _ rfl)
                  have lL2 : w.heap.size < w2.heap.size := by omega
                  have e0 : w2.cell? ⟨b0, o0 + k * 3, none⟩ = some (.int .u16 x1) := R2.out 0 _ rfl
                  have e1 : w2.cell? ⟨b0, o0 + k * 3 + 1, none⟩ = some (.int .u32 x2) := R2.out 1 _ rfl
                  have e2 : w2.cell? ⟨b0, o0 + k * 3 + 2, none⟩ = some (.string x3) := R2.out 2 _ rfl
                  clear hap q1 q2 q3 q4 q5
                  go_wp2_with fail
                  go_region_law (refine step_append_run rfl (.tmp 109) (.tmp 115) 26 rfl _ _ (by simp [Act.eval]) (by simp [Act.eval]) _ _ HAP.out ?_)
                  all_goals
                    go_wp2_with fail
                    go_light
                    exact ⟨⟨k + 1, ⟨nwa, v.n + 1, nwc⟩, by go_num, by omega, by simp only; omega, HM5.out, HCG.out, HQ5.out⟩, by simp [intOf]; omega⟩
                · go_wp2_with fail
                  go_light
                  refine ⟨⟨k + 1, v, by go_num, by omega, by omega, HM2.out, HC2.out, ?_⟩, by simp [intOf]; omega⟩
                  have e2 : ((Ll.c.take (k + 1)).filter fun x => !goneC d x) = (Ll.c.take k).filter fun x => !goneC d x := by
                    rw [HTK.out, List.filter_append, List.filter_cons_of_neg (by rw [← HBB.out]; simp)]; simp
                  rw [e2]
                  exact HO2.out
              · have hkn : k = Hl.c.n := by omega
                go_wp2_with fail
                go_meet
                case rel =>
                  have h2 := HOW.out
                  rw [List.take_of_length_le (by have := HVL.out.lc; omega)] at h2
                  exact ⟨v, HMR.out, HCH.out, h2⟩
          case rest =>
            rename World => wc1
            obtain ⟨v1, hmw, hch, hown⟩ := hcut
            have HM1 := hidMk hmw
            have HC1 := hidMk hch
            have HO1 := hidMk hown
            clear hmw hch hown
            have LEN1 : v1.n ≤ 1048576 + 1048576 := (by have h1 := (owns_arow Cm.z Cm.z_len (by omega) HO1.out).2; have h2 := List.length_filter_le (fun x => !goneC d x) Ll.c; have h3 := HVL.out.lc; have h4 := HML.out.c; omega)
            have hOw : w.heap.size + 3 < ws2.heap.size := lt_of_heap HMW.out.bou
            have lO1 := lt_of_heap HM1.out.bou
            obtain ⟨v', w4, hap, q1, q2, q3, q4, q5⟩ := app_any Cm.z Cm.z_len Cm.z_one Try.underlying26 infM53 (by omega) (by omega) wc1 ws2.heap.size (.slice v1.a v1.n v1.c) v1.n (Ll.c.filter fun x => !goneC d x) HO1.out Hu.c.a Hu.c.n Hu.c.c Lu.c HVU.out.lc (HVU.out.rc.below HM1.out.below) (nil_len HVU.out.lc HVU.out.rc) (by have := HMU.out.c; omega) (by have := HC1.out.size; omega) 26
            have HAP := hidMk hap
            obtain ⟨nwa, nwc, rfl, hvc⟩ := owns_slice q1
            have HQ1 := hidMk q1
            have HBK := hidMk (blk_or q4)
            have HCG : Hid (Chg ws2 (w4.setCell ⟨(w.heap.size + 1 + 1 + 1), 8, none⟩ (.slice nwa (v1.n + Hu.c.n) nwc)) (w.heap.size + 1 + 1 + 1) 0 0) := hidMk (chg_app HC1.out q2 (fun g hg => .inl (HO1.out.lt g hg).1))
            have HO4 : Hid (w4.heap[(w.heap.size + 1 + 1 + 1)]? = some (.cells (ous.set 8 (.slice v1.a v1.n v1.c)).toArray 33 (0, 0))) := hidMk ((q2.block (w.heap.size + 1 + 1 + 1) (lt_of_heap HM1.out.bou) (fun e => by have := (HO1.out.lt (w.heap.size + 1 + 1 + 1) e.symm).1; omega)).trans HM1.out.bou)
            have HM5 : Hid (MW w (w4.setCell ⟨(w.heap.size + 1 + 1 + 1), 8, none⟩ (.slice nwa (v1.n + Hu.c.n) nwc)) lo up re (ous.set 8 (.slice nwa (v1.n + Hu.c.n) nwc))) := hidMk (HMW.out.chg HCG.out (.inl rfl) (by rw [heap_setCell_same w4 (w.heap.size + 1 + 1 + 1) 8 _ 33 _ HO4.out]; simp))
            have HQ5 : Hid ((w4.setCell ⟨(w.heap.size + 1 + 1 + 1), 8, none⟩ (.slice nwa (v1.n + Hu.c.n) nwc)).ownsRow ws2.heap.size 53 3 (.slice nwa (v1.n + Hu.c.n) nwc) (v1.n + Hu.c.n) (((Ll.c.filter fun x => !goneC d x) ++ Lu.c).flatMap Cm.z)) := hidMk (owns_set HQ1.out (fun g hg => by have := (HQ1.out.lt g hg).1; omega))
            have cO1 : wc1.cell? ⟨(w.heap.size + 1 + 1 + 1), 8, none⟩ = some (.slice v1.a v1.n v1.c) := (cell_of_row _ _ 8 _ _ (0, 0) HM1.out.bou).trans (List.getElem?_toArray.trans (by rw [List.getElem?_set_self (by have := (List.getElem?_eq_some_iff.1 HOX8.out).1; exact this)]))
            have cO4 : w4.cell? ⟨(w.heap.size + 1 + 1 + 1), 8, none⟩ = some (.slice v1.a v1.n v1.c) := (cell_of_row _ _ 8 _ _ (0, 0) HO4.out).trans (List.getElem?_toArray.trans (by rw [List.getElem?_set_self (by have := (List.getElem?_eq_some_iff.1 HOX8.out).1; exact this)]))
            have gO4 : w4.frozen? ⟨(w.heap.size + 1 + 1 + 1), 8, none⟩ = false := frozen_of_row _ _ _ _ _ HO4.out
            have cS : wc1.cell? ⟨w.heap.size + 1, 8, none⟩ = some (.slice Hu.c.a Hu.c.n Hu.c.c) := (cell_of_row _ _ 8 _ _ (0, 0) HM1.out.bup).trans (List.getElem?_toArray.trans HUP8.out)
            have lO4 := lt_of_heap HO4.out
            have lS := lt_of_heap HM1.out.bup
            clear hap q1 q2 q3 q4 q5
            go_upto_region 20 with fail
            go_cut [] from 118 to 123 (fun wd => ∃ v : Sl, MW w wd lo up re (ous.set 8 (.slice v.a v.n v.c)) ∧ Chg ws2 wd (w.heap.size + 1 + 1 + 1) 0 0 ∧ wd.ownsRow ws2.heap.size 53 3 (.slice v.a v.n v.c) v.n (((Ll.c.filter fun x => !goneC d x) ++ Lu.c).flatMap Cm.z) ∧ True)
            case first =>
              go_wp2_with (first | (refine wpList_append_run rfl _ _ 26 rfl _ _ rfl rfl _ _ HAP.out ?_))
              go_meet
              case rel => exact ⟨⟨nwa, v1.n + Hu.c.n, nwc⟩, HM5.out, HCG.out, HQ5.out, trivial⟩
            case rest =>
              rename World => wc2
              obtain ⟨vc, hmw, hch, hown, hloc⟩ := hcut
              obtain ⟨ouc, hou2⟩ : ∃ ouc, ouc = ous.set 8 (.slice vc.a vc.n vc.c) := ⟨_, rfl⟩
              rw [← hou2] at hmw
              rw [HOU.out] at hou2
              simp only [List.set_cons_succ, List.set_cons_zero] at hou2
              clear HBK HM1 HC1 HO1 HAP HQ1 HCG HO4 HM5 HQ5 cO1 cO4 gO4 cS lO1 lO4 lS LEN1 hvc HBc
              have HN := hidMk (owns_chg HWr.out hch (fun g hg => by have := (HWr.out.lt g hg); omega))
              clear HWr
              have HWr := HN
              clear HN
              have HN := hidMk (owns_chg HWs.out hch (fun g hg => by have := (HWs.out.lt g hg); omega))
              clear HWs
              have HWs := HN
              clear HN
              have HWc : Hid (wc2.ownsRow (w.heap.size + 4) 53 3 (.slice vc.a vc.n vc.c) vc.n _) := hidMk (owns_base (by omega) hown)
              clear HMW hOw
              have HMW := hidMk hmw
              clear HOU
              have HOU := hidMk hou2
              clear hmw hch hown hloc
              have HOX9' : Hid (ouc[9]? = some (.slice none 0 0)) := hidMk (by rw [HOU.out]; rfl)
              have HOU9' : Hid (ouc.set 9 (.slice none 0 0) = ouc) := hidMk (by rw [HOU.out]; rfl)
              clear HOX9 HOU9
              have HOX9 := HOX9'
              have HOU9 := HOU9'
              clear HOX9' HOU9'
              have HOX11' : Hid (ouc[11]? = some (.slice none 0 0)) := hidMk (by rw [HOU.out]; rfl)
              have HOU11' : Hid (ouc.set 11 (.slice none 0 0) = ouc) := hidMk (by rw [HOU.out]; rfl)
              clear HOX11 HOU11
              have HOX11 := HOX11'
              have HOU11 := HOU11'
              clear HOX11' HOU11'
              have HOX12' : Hid (ouc[12]? = some (.slice none 0 0)) := hidMk (by rw [HOU.out]; rfl)
              have HOU12' : Hid (ouc.set 12 (.slice none 0 0) = ouc) := hidMk (by rw [HOU.out]; rfl)
              clear HOX12 HOU12
              have HOX12 := HOX12'
              have HOU12 := HOU12'
              clear HOX12' HOU12'
              have HOX13' : Hid (ouc[13]? = some (.slice none 0 0)) := hidMk (by rw [HOU.out]; rfl)
              have HOU13' : Hid (ouc.set 13 (.slice none 0 0) = ouc) := hidMk (by rw [HOU.out]; rfl)
              clear HOX13 HOU13
              have HOX13 := HOX13'
              have HOU13 := HOU13'
              clear HOX13' HOU13'
              obtain ⟨v1, hv1⟩ : ∃ v1 : Sl, v1 = ⟨none, 0, 0⟩ := ⟨_, rfl⟩
              have HMn : Hid (MW w wc2 lo up re (ouc.set 9 (.slice v1.a v1.n v1.c))) := hidMk (by rw [hv1]; simp only; rw [HOU9.out]; exact HMW.out)
              have HOn : Hid (wc2.ownsRow wc2.heap.size 93 14 (.slice v1.a v1.n v1.c) v1.n (([] : List Hp).flatMap Hp.z)) := hidMk (by rw [hv1]; exact owns_nil _ _ _ _)
              have HVn : Hid (v1.n = 0) := hidMk (by rw [hv1])
              clear hv1
              go_wp2_with fail
              refine (kindGoes_any Du d 16 wc2 (HD.out.below HMW.out.below) (by decide)).mono ?_
              rintro _ wz ⟨rfl, hwz⟩
              have hwz2 := hwz.symm
              subst hwz2
              clear hwz
              go_upto_if 126 with fail
              go_cut [] from 118 to 126 (fun wd => ∃ v : Sl, MW w wd lo up re (ouc.set 9 (.slice v.a v.n v.c)) ∧ Chg wc2 wd (w.heap.size + 1 + 1 + 1) 0 0 ∧ wd.ownsRow wc2.heap.size 93 14 (.slice v.a v.n v.c) v.n ((off (goes d 16) Ll.h).flatMap Hp.z))
              case first =>
                obtain ⟨b, hb⟩ : ∃ b, b = goes d 16 := ⟨_, rfl⟩
                have HG : Hid (goes d 16 = b) := hidMk hb.symm
                rw [← hb]
                clear hb
                cases b
                · have hmw := HMn.out
                  have hch := Chg.refl wc2 (w.heap.size + 1 + 1 + 1) 0 0
                  have hown := HOn.out
                  have HM1 := hidMk hmw
                  have HC1 := hidMk hch
                  have HO1 := hidMk hown
                  clear hmw hch hown
                  have LEN1 : v1.n ≤ 1048576 + 1048576 := (by have := HVn.out; omega)
                  have hOw : w.heap.size + 3 < wc2.heap.size := lt_of_heap HMW.out.bou
                  have lO1 := lt_of_heap HM1.out.bou
                  obtain ⟨v', w4, hap, q1, q2, q3, q4, q5⟩ := app_any Hp.z Hp.z_len Hp.z_one Try.underlying27 infM93 (by omega) (by omega) wc2 wc2.heap.size (.slice v1.a v1.n v1.c) v1.n ([] : List Hp) HO1.out Hl.h.a Hl.h.n Hl.h.c Ll.h HVL.out.lh (HVL.out.rh.below HM1.out.below) (nil_len HVL.out.lh HVL.out.rh) (by have := HML.out.h; omega) (Nat.le_refl _) 27
                  have HAP := hidMk hap
                  obtain ⟨nwa, nwc, rfl, hvc⟩ := owns_slice q1
                  have HQ1 := hidMk q1
                  have HBK := hidMk (blk_or q4)
                  have HCG : Hid (Chg wc2 (w4.setCell ⟨(w.heap.size + 1 + 1 + 1), 9, none⟩ (.slice nwa (v1.n + Hl.h.n) nwc)) (w.heap.size + 1 + 1 + 1) 0 0) := hidMk (chg_app HC1.out q2 (fun g hg => .inl (HO1.out.lt g hg).1))
                  have HO4 : Hid (w4.heap[(w.heap.size + 1 + 1 + 1)]? = some (.cells (ouc.set 9 (.slice v1.a v1.n v1.c)).toArray 33 (0, 0))) := hidMk ((q2.block (w.heap.size + 1 + 1 + 1) (lt_of_heap HM1.out.bou) (fun e => by have := (HO1.out.lt (w.heap.size + 1 + 1 + 1) e.symm).1; omega)).trans HM1.out.bou)
                  have HM5 : Hid (MW w (w4.setCell ⟨(w.heap.size + 1 + 1 + 1), 9, none⟩ (.slice nwa (v1.n + Hl.h.n) nwc)) lo up re (ouc.set 9 (.slice nwa (v1.n + Hl.h.n) nwc))) := hidMk (HMW.out.chg HCG.out (.inl rfl) (by rw [heap_setCell_same w4 (w.heap.size + 1 + 1 + 1) 9 _ 33 _ HO4.out]; simp))
                  have HQ5 : Hid ((w4.setCell ⟨(w.heap.size + 1 + 1 + 1), 9, none⟩ (.slice nwa (v1.n + Hl.h.n) nwc)).ownsRow wc2.heap.size 93 14 (.slice nwa (v1.n + Hl.h.n) nwc) (v1.n + Hl.h.n) ((([] : List Hp) ++ Ll.h).flatMap Hp.z)) := hidMk (owns_set HQ1.out (fun g hg => by have := (HQ1.out.lt g hg).1; omega))
                  have cO1 : wc2.cell? ⟨(w.heap.size + 1 + 1 + 1), 9, none⟩ = some (.slice v1.a v1.n v1.c) := (cell_of_row _ _ 9 _ _ (0, 0) HM1.out.bou).trans (List.getElem?_toArray.trans (by rw [List.getElem?_set_self (by have := (List.getElem?_eq_some_iff.1 HOX9.out).1; exact this)]))
                  have cO4 : w4.cell? ⟨(w.heap.size + 1 + 1 + 1), 9, none⟩ = some (.slice v1.a v1.n v1.c) := (cell_of_row _ _ 9 _ _ (0, 0) HO4.out).trans (List.getElem?_toArray.trans (by rw [List.getElem?_set_self (by have := (List.getElem?_eq_some_iff.1 HOX9.out).1; exact this)]))
                  have gO4 : w4.frozen? ⟨(w.heap.size + 1 + 1 + 1), 9, none⟩ = false := frozen_of_row _ _ _ _ _ HO4.out
                  have cS : wc2.cell? ⟨w.heap.size, 9, none⟩ = some (.slice Hl.h.a Hl.h.n Hl.h.c) := (cell_of_row _ _ 9 _ _ (0, 0) HM1.out.blo).trans (List.getElem?_toArray.trans HLO9.out)
                  have lO4 := lt_of_heap HO4.out
                  have lS := lt_of_heap HM1.out.blo
                  clear hap q1 q2 q3 q4 q5
                  go_wp2_with (first | (refine wpList_append_run rfl _ _ 27 rfl _ _ rfl rfl _ _ HAP.out ?_))
                  go_meet
                  case rel => exact ⟨⟨nwa, v1.n + Hl.h.n, nwc⟩, HM5.out, HCG.out, by rw [HG.out, off_false]; have h5 := HQ5.out; rw [List.nil_append] at h5; exact h5⟩
                · go_wp2_with fail
                  go_meet
                  case rel => exact ⟨v1, HMn.out, Chg.refl _ _ _ _, by rw [HG.out, off_true]; exact HOn.out⟩
              case rest =>
                rename World => wh1
                obtain ⟨v2, hmw, hch, hown⟩ := hcut
                clear HMn HOn HVn
                have HM1 := hidMk hmw
                have HC1 := hidMk hch
                have HO1 := hidMk hown
                clear hmw hch hown
                have LEN1 : v2.n ≤ 1048576 + 1048576 := (by have h1 := (owns_arow Hp.z Hp.z_len (by omega) HO1.out).2; have h2 := off_len (goes d 16) Ll.h; have h3 := HVL.out.lh; have h4 := HML.out.h; omega)
                have hOw : w.heap.size + 3 < wc2.heap.size := lt_of_heap HMW.out.bou
                have lO1 := lt_of_heap HM1.out.bou
                obtain ⟨v', w4, hap, q1, q2, q3, q4, q5⟩ := app_any Hp.z Hp.z_len Hp.z_one Try.underlying27 infM93 (by omega) (by omega) wh1 wc2.heap.size (.slice v2.a v2.n v2.c) v2.n (off (goes d 16) Ll.h) HO1.out Hu.h.a Hu.h.n Hu.h.c Lu.h HVU.out.lh (HVU.out.rh.below HM1.out.below) (nil_len HVU.out.lh HVU.out.rh) (by have := HMU.out.h; omega) (by have := HC1.out.size; omega) 27
                have HAP := hidMk hap
                obtain ⟨nwa, nwc, rfl, hvc⟩ := owns_slice q1
                have HQ1 := hidMk q1
                have HBK := hidMk (blk_or q4)
                have HCG : Hid (Chg wc2 (w4.setCell ⟨(w.heap.size + 1 + 1 + 1), 9, none⟩ (.slice nwa (v2.n + Hu.h.n) nwc)) (w.heap.size + 1 + 1 + 1) 0 0) := hidMk (chg_app HC1.out q2 (fun g hg => .inl (HO1.out.lt g hg).1))
                have HO4 : Hid (w4.heap[(w.heap.size + 1 + 1 + 1)]? = some (.cells (ouc.set 9 (.slice v2.a v2.n v2.c)).toArray 33 (0, 0))) := hidMk ((q2.block (w.heap.size + 1 + 1 + 1) (lt_of_heap HM1.out.bou) (fun e => by have := (HO1.out.lt (w.heap.size + 1 + 1 + 1) e.symm).1; omega)).trans HM1.out.bou)
                have HM5 : Hid (MW w (w4.setCell ⟨(w.heap.size + 1 + 1 + 1), 9, none⟩ (.slice nwa (v2.n + Hu.h.n) nwc)) lo up re (ouc.set 9 (.slice nwa (v2.n + Hu.h.n) nwc))) := hidMk (HMW.out.chg HCG.out (.inl rfl) (by rw [heap_setCell_same w4 (w.heap.size + 1 + 1 + 1) 9 _ 33 _ HO4.out]; simp))
                have HQ5 : Hid ((w4.setCell ⟨(w.heap.size + 1 + 1 + 1), 9, none⟩ (.slice nwa (v2.n + Hu.h.n) nwc)).ownsRow wc2.heap.size 93 14 (.slice nwa (v2.n + Hu.h.n) nwc) (v2.n + Hu.h.n) (((off (goes d 16) Ll.h) ++ Lu.h).flatMap Hp.z)) := hidMk (owns_set HQ1.out (fun g hg => by have := (HQ1.out.lt g hg).1; omega))
                have cO1 : wh1.cell? ⟨(w.heap.size + 1 + 1 + 1), 9, none⟩ = some (.slice v2.a v2.n v2.c) := (cell_of_row _ _ 9 _ _ (0, 0) HM1.out.bou).trans (List.getElem?_toArray.trans (by rw [List.getElem?_set_self (by have := (List.getElem?_eq_some_iff.1 HOX9.out).1; exact this)]))
                have cO4 : w4.cell? ⟨(w.heap.size + 1 + 1 + 1), 9, none⟩ = some (.slice v2.a v2.n v2.c) := (cell_of_row _ _ 9 _ _ (0, 0) HO4.out).trans (List.getElem?_toArray.trans (by rw [List.getElem?_set_self (by have := (List.getElem?_eq_some_iff.1 HOX9.out).1; exact this)]))
                have gO4 : w4.frozen? ⟨(w.heap.size + 1 + 1 + 1), 9, none⟩ = false := frozen_of_row _ _ _ _ _ HO4.out
                have cS : wh1.cell? ⟨w.heap.size + 1, 9, none⟩ = some (.slice Hu.h.a Hu.h.n Hu.h.c) := (cell_of_row _ _ 9 _ _ (0, 0) HM1.out.bup).trans (List.getElem?_toArray.trans HUP9.out)
                have lO4 := lt_of_heap HO4.out
                have lS := lt_of_heap HM1.out.bup
                clear hap q1 q2 q3 q4 q5
                go_upto_region 23 with fail
                go_cut [] from 127 to 138 (fun wd => ∃ v : Sl, MW w wd lo up re (ouc.set 9 (.slice v.a v.n v.c)) ∧ Chg wc2 wd (w.heap.size + 1 + 1 + 1) 0 0 ∧ wd.ownsRow wc2.heap.size 93 14 (.slice v.a v.n v.c) v.n (((off (goes d 16) Ll.h) ++ Lu.h).flatMap Hp.z) ∧ True)
                case first =>
                  go_wp2_with (first | (refine wpList_append_run rfl _ _ 27 rfl _ _ rfl rfl _ _ HAP.out ?_))
                  go_meet
                  case rel => exact ⟨⟨nwa, v2.n + Hu.h.n, nwc⟩, HM5.out, HCG.out, HQ5.out, trivial⟩
                case rest =>
                  rename World => wh2
                  obtain ⟨vh, hmw, hch, hown, hloc⟩ := hcut
                  obtain ⟨ouh, hou2⟩ : ∃ ouh, ouh = ouc.set 9 (.slice vh.a vh.n vh.c) := ⟨_, rfl⟩
                  rw [← hou2] at hmw
                  rw [HOU.out] at hou2
                  simp only [List.set_cons_succ, List.set_cons_zero] at hou2
                  clear HBK HM1 HC1 HO1 HAP HQ1 HCG HO4 HM5 HQ5 cO1 cO4 gO4 cS lO1 lO4 lS LEN1 hvc v1
                  have HN := hidMk (owns_chg HWr.out hch (fun g hg => by have := (HWr.out.lt g hg); omega))
                  clear HWr
                  have HWr := HN
                  clear HN
                  have HN := hidMk (owns_chg HWs.out hch (fun g hg => by have := (HWs.out.lt g hg); omega))
                  clear HWs
                  have HWs := HN
                  clear HN
                  have HN := hidMk (owns_chg HWc.out hch (fun g hg => by have := (HWc.out.lt g hg); omega))
                  clear HWc
                  have HWc := HN
                  clear HN
                  have HWh : Hid (wh2.ownsRow (w.heap.size + 4) 93 14 (.slice vh.a vh.n vh.c) vh.n _) := hidMk (owns_base (by omega) hown)
                  clear HMW hOw
                  have HMW := hidMk hmw
                  clear HOU
                  have HOU := hidMk hou2
                  clear hmw hch hown hloc
                  have HOX11' : Hid (ouh[11]? = some (.slice none 0 0)) := hidMk (by rw [HOU.out]; rfl)
                  have HOU11' : Hid (ouh.set 11 (.slice none 0 0) = ouh) := hidMk (by rw [HOU.out]; rfl)
                  clear HOX11 HOU11
                  have HOX11 := HOX11'
                  have HOU11 := HOU11'
                  clear HOX11' HOU11'
                  have HOX12' : Hid (ouh[12]? = some (.slice none 0 0)) := hidMk (by rw [HOU.out]; rfl)
                  have HOU12' : Hid (ouh.set 12 (.slice none 0 0) = ouh) := hidMk (by rw [HOU.out]; rfl)
                  clear HOX12 HOU12
                  have HOX12 := HOX12'
                  have HOU12 := HOU12'
                  clear HOX12' HOU12'
                  have HOX13' : Hid (ouh[13]? = some (.slice none 0 0)) := hidMk (by rw [HOU.out]; rfl)
                  have HOU13' : Hid (ouh.set 13 (.slice none 0 0) = ouh) := hidMk (by rw [HOU.out]; rfl)
                  clear HOX13 HOU13
                  have HOX13 := HOX13'
                  have HOU13 := HOU13'
                  clear HOX13' HOU13'
                  obtain ⟨n1, hn1⟩ : ∃ n1 : Sl, n1 = ⟨none, 0, 0⟩ := ⟨_, rfl⟩
                  have HN1 := hidMk hn1
                  have HV1 : Hid (n1.n = 0) := hidMk (by rw [hn1])
                  clear hn1
                  go_wp2_with fail
                  refine (kindGoes_any Du d 128 wh2 (HD.out.below HMW.out.below) (by decide)).mono ?_
                  rintro _ wz ⟨rfl, hwz⟩
                  have hwz2 := hwz.symm
                  subst hwz2
                  clear hwz
                  go_upto_if 141 with fail
                  go_cut [10, 11] from 127 to 141 (fun a b wd => a = .int .i64 ((off (goes d 128) Ll.t).length : Nat) ∧ b = .int .i64 ((off (goes d 128) Ll.x).length : Nat) ∧ ∃ (t p q : Sl) (zt zp : Nat), MW w wd lo up re (((ouh.set 12 (.slice t.a t.n t.c)).set 11 (.slice p.a p.n p.c)).set 13 (.slice q.a q.n q.c)) ∧ Chg wh2 wd (w.heap.size + 1 + 1 + 1) 0 0 ∧ wh2.heap.size ≤ zt ∧ zt ≤ zp ∧ zp ≤ wd.heap.size ∧
                    wd.ownsRow wh2.heap.size 121 5 (.slice t.a t.n t.c) t.n ((off (goes d 128) Ll.t).flatMap Tp.z) ∧ (∀ g, (Value.slice t.a t.n t.c).ownBlock = some g → g < zt) ∧
                    wd.ownsRow zt 61 10 (.slice p.a p.n p.c) p.n ((off (goes d 128) pl).flatMap Pk.z) ∧ (∀ g, (Value.slice p.a p.n p.c).ownBlock = some g → g < zp) ∧
                    wd.ownsRow zp 65 8 (.slice q.a q.n q.c) q.n ((off (goes d 128) Ll.q).flatMap Pa.z))
                  case first =>
                    obtain ⟨b, hb⟩ : ∃ b, b = goes d 128 := ⟨_, rfl⟩
                    have HG : Hid (goes d 128 = b) := hidMk hb.symm
                    rw [← hb]
                    clear hb
                    have HNL : Hid (n1.a = none ∧ n1.n = 0 ∧ n1.c = 0) := hidMk (by rw [HN1.out]; exact ⟨rfl, rfl, rfl⟩)
                    cases b
                    · have hmwt : MW w wh2 lo up re ((ouh).set 12 (.slice n1.a n1.n n1.c)) := by
                        have e1 : (ouh).set 12 (.slice n1.a n1.n n1.c) = ouh := by rw [HN1.out, HOU.out]; rfl
                        rw [e1]
                        exact HMW.out
                      have hcht : Chg wh2 wh2 (w.heap.size + 1 + 1 + 1) 0 0 := (Chg.refl wh2 (w.heap.size + 1 + 1 + 1) 0 0)
                      have hownt : wh2.ownsRow wh2.heap.size 121 5 (.slice n1.a n1.n n1.c) n1.n (([] : List Tp).flatMap Tp.z) := by rw [HN1.out]; exact owns_nil _ _ _ _
                      have HOXxt : Hid ((ouh)[12]? = some (.slice none 0 0)) := hidMk (by rw [HOU.out]; rfl)
                      have HM1t := hidMk hmwt
                      have HC1t := hidMk hcht
                      have HO1t := hidMk hownt
                      clear hmwt hcht hownt
                      have LEN1t : n1.n ≤ 1048576 + 1048576 := (by have := HV1.out; omega)
                      have hOwt : w.heap.size + 3 < wh2.heap.size := lt_of_heap HMW.out.bou
                      have lO1t := lt_of_heap HM1t.out.bou
                      obtain ⟨v't, w4t, hap, q1, q2, q3, q4, q5⟩ := app_any Tp.z Tp.z_len Tp.z_one Try.underlying30 infM121 (by omega) (by omega) wh2 wh2.heap.size (.slice n1.a n1.n n1.c) n1.n ([] : List Tp) HO1t.out Hl.t.a Hl.t.n Hl.t.c Ll.t HVL.out.lt (HVL.out.rt.below HM1t.out.below) (nil_len HVL.out.lt HVL.out.rt) (by have := HML.out.t; omega) (Nat.le_refl _) 30
                      have HAPt := hidMk hap
                      obtain ⟨nwat, nwct, rfl, hvct⟩ := owns_slice q1
                      have HQ1t := hidMk q1
                      have HBKt := hidMk (blk_or q4)
                      have HCGt : Hid (Chg wh2 (w4t.setCell ⟨(w.heap.size + 1 + 1 + 1), 12, none⟩ (.slice nwat (n1.n + Hl.t.n) nwct)) (w.heap.size + 1 + 1 + 1) 0 0) := hidMk (chg_app HC1t.out q2 (fun g hg => .inl (by have h1 := (HO1t.out.lt g hg).1; have h2 := HC1t.out.size; omega)))
                      have HCTt : Hid (Chg wh2 (w4t.setCell ⟨(w.heap.size + 1 + 1 + 1), 12, none⟩ (.slice nwat (n1.n + Hl.t.n) nwct)) (w.heap.size + 1 + 1 + 1) 0 0) := hidMk (chg_app (Chg.refl _ _ _ _) q2 (fun g hg => .inl (HO1t.out.lt g hg).1))
                      have HO4t : Hid (w4t.heap[(w.heap.size + 1 + 1 + 1)]? = some (.cells ((ouh).set 12 (.slice n1.a n1.n n1.c)).toArray 33 (0, 0))) := hidMk ((q2.block (w.heap.size + 1 + 1 + 1) (lt_of_heap HM1t.out.bou) (fun e => by have := (HO1t.out.lt (w.heap.size + 1 + 1 + 1) e.symm).1; omega)).trans HM1t.out.bou)
                      have HM5t : Hid (MW w (w4t.setCell ⟨(w.heap.size + 1 + 1 + 1), 12, none⟩ (.slice nwat (n1.n + Hl.t.n) nwct)) lo up re ((ouh).set 12 (.slice nwat (n1.n + Hl.t.n) nwct))) := hidMk (HMW.out.chg HCGt.out (.inl rfl) (by rw [heap_setCell_same w4t (w.heap.size + 1 + 1 + 1) 12 _ 33 _ HO4t.out]; simp))
                      have HQ5t : Hid ((w4t.setCell ⟨(w.heap.size + 1 + 1 + 1), 12, none⟩ (.slice nwat (n1.n + Hl.t.n) nwct)).ownsRow wh2.heap.size 121 5 (.slice nwat (n1.n + Hl.t.n) nwct) (n1.n + Hl.t.n) ((([] : List Tp) ++ Ll.t).flatMap Tp.z)) := hidMk (owns_set HQ1t.out (fun g hg => by have := (HQ1t.out.lt g hg).1; omega))
                      have cO1t : wh2.cell? ⟨(w.heap.size + 1 + 1 + 1), 12, none⟩ = some (.slice n1.a n1.n n1.c) := (cell_of_row _ _ 12 _ _ (0, 0) HM1t.out.bou).trans (List.getElem?_toArray.trans (by rw [List.getElem?_set_self (by have := (List.getElem?_eq_some_iff.1 HOXxt.out).1; exact this)]))
                      have cO4t : w4t.cell? ⟨(w.heap.size + 1 + 1 + 1), 12, none⟩ = some (.slice n1.a n1.n n1.c) := (cell_of_row _ _ 12 _ _ (0, 0) HO4t.out).trans (List.getElem?_toArray.trans (by rw [List.getElem?_set_self (by have := (List.getElem?_eq_some_iff.1 HOXxt.out).1; exact this)]))
                      have gO4t : w4t.frozen? ⟨(w.heap.size + 1 + 1 + 1), 12, none⟩ = false := frozen_of_row _ _ _ _ _ HO4t.out
                      have cSt : wh2.cell? ⟨w.heap.size, 12, none⟩ = some (.slice Hl.t.a Hl.t.n Hl.t.c) := (cell_of_row _ _ 12 _ _ (0, 0) HM1t.out.blo).trans (List.getElem?_toArray.trans HLO12.out)
                      have lO4t := lt_of_heap HO4t.out
                      have lSt := lt_of_heap HM1t.out.blo
                      clear hap q1 q2 q3 q4 q5
                      have hmwp : MW w (w4t.setCell ⟨(w.heap.size + 1 + 1 + 1), 12, none⟩ (.slice nwat (n1.n + Hl.t.n) nwct)) lo up re (((ouh).set 12 (.slice nwat (n1.n + Hl.t.n) nwct)).set 11 (.slice n1.a n1.n n1.c)) := by
                        have e1 : ((ouh).set 12 (.slice nwat (n1.n + Hl.t.n) nwct)).set 11 (.slice n1.a n1.n n1.c) = (ouh).set 12 (.slice nwat (n1.n + Hl.t.n) nwct) := by rw [HN1.out, HOU.out]; rfl
                        rw [e1]
                        exact HM5t.out
                      have hchp : Chg wh2 (w4t.setCell ⟨(w.heap.size + 1 + 1 + 1), 12, none⟩ (.slice nwat (n1.n + Hl.t.n) nwct)) (w.heap.size + 1 + 1 + 1) 0 0 := HCGt.out
                      have hownp : (w4t.setCell ⟨(w.heap.size + 1 + 1 + 1), 12, none⟩ (.slice nwat (n1.n + Hl.t.n) nwct)).ownsRow (w4t.setCell ⟨(w.heap.size + 1 + 1 + 1), 12, none⟩ (.slice nwat (n1.n + Hl.t.n) nwct)).heap.size 61 10 (.slice n1.a n1.n n1.c) n1.n (([] : List Pk).flatMap Pk.z) := by rw [HN1.out]; exact owns_nil _ _ _ _
                      have HOXxp : Hid (((ouh).set 12 (.slice nwat (n1.n + Hl.t.n) nwct))[11]? = some (.slice none 0 0)) := hidMk (by rw [HOU.out]; rfl)
                      have HM1p := hidMk hmwp
                      have HC1p := hidMk hchp
                      have HO1p := hidMk hownp
                      clear hmwp hchp hownp
                      have LEN1p : n1.n ≤ 1048576 + 1048576 := (by have := HV1.out; omega)
                      have hOwp : w.heap.size + 3 < wh2.heap.size := lt_of_heap HMW.out.bou
                      have lO1p := lt_of_heap HM1p.out.bou
                      obtain ⟨v'p, w4p, hap, q1, q2, q3, q4, q5⟩ := app_any Pk.z Pk.z_len Pk.z_one Try.underlying29 infM61 (by omega) (by omega) (w4t.setCell ⟨(w.heap.size + 1 + 1 + 1), 12, none⟩ (.slice nwat (n1.n + Hl.t.n) nwct)) (w4t.setCell ⟨(w.heap.size + 1 + 1 + 1), 12, none⟩ (.slice nwat (n1.n + Hl.t.n) nwct)).heap.size (.slice n1.a n1.n n1.c) n1.n ([] : List Pk) HO1p.out Hl.p.a Hl.p.n Hl.p.c pl HVL.out.lp (HVL.out.rp.below HM1p.out.below) (nil_len HVL.out.lp HVL.out.rp) (by have := HML.out.p; omega) (Nat.le_refl _) 29
                      have HAPp := hidMk hap
                      obtain ⟨nwap, nwcp, rfl, hvcp⟩ := owns_slice q1
                      have HQ1p := hidMk q1
                      have HBKp := hidMk (blk_or q4)
                      have HCGp : Hid (Chg wh2 (w4p.setCell ⟨(w.heap.size + 1 + 1 + 1), 11, none⟩ (.slice nwap (n1.n + Hl.p.n) nwcp)) (w.heap.size + 1 + 1 + 1) 0 0) := hidMk (chg_app HC1p.out q2 (fun g hg => .inl (by have h1 := (HO1p.out.lt g hg).1; have h2 := HC1p.out.size; omega)))
                      have HCTp : Hid (Chg (w4t.setCell ⟨(w.heap.size + 1 + 1 + 1), 12, none⟩ (.slice nwat (n1.n + Hl.t.n) nwct)) (w4p.setCell ⟨(w.heap.size + 1 + 1 + 1), 11, none⟩ (.slice nwap (n1.n + Hl.p.n) nwcp)) (w.heap.size + 1 + 1 + 1) 0 0) := hidMk (chg_app (Chg.refl _ _ _ _) q2 (fun g hg => .inl (HO1p.out.lt g hg).1))
                      have HO4p : Hid (w4p.heap[(w.heap.size + 1 + 1 + 1)]? = some (.cells (((ouh).set 12 (.slice nwat (n1.n + Hl.t.n) nwct)).set 11 (.slice n1.a n1.n n1.c)).toArray 33 (0, 0))) := hidMk ((q2.block (w.heap.size + 1 + 1 + 1) (lt_of_heap HM1p.out.bou) (fun e => by have := (HO1p.out.lt (w.heap.size + 1 + 1 + 1) e.symm).1; omega)).trans HM1p.out.bou)
                      have HM5p : Hid (MW w (w4p.setCell ⟨(w.heap.size + 1 + 1 + 1), 11, none⟩ (.slice nwap (n1.n + Hl.p.n) nwcp)) lo up re (((ouh).set 12 (.slice nwat (n1.n + Hl.t.n) nwct)).set 11 (.slice nwap (n1.n + Hl.p.n) nwcp))) := hidMk (HMW.out.chg HCGp.out (.inl rfl) (by rw [heap_setCell_same w4p (w.heap.size + 1 + 1 + 1) 11 _ 33 _ HO4p.out]; simp))
                      have HQ5p : Hid ((w4p.setCell ⟨(w.heap.size + 1 + 1 + 1), 11, none⟩ (.slice nwap (n1.n + Hl.p.n) nwcp)).ownsRow (w4t.setCell ⟨(w.heap.size + 1 + 1 + 1), 12, none⟩ (.slice nwat (n1.n + Hl.t.n) nwct)).heap.size 61 10 (.slice nwap (n1.n + Hl.p.n) nwcp) (n1.n + Hl.p.n) ((([] : List Pk) ++ pl).flatMap Pk.z)) := hidMk (owns_set HQ1p.out (fun g hg => by have := (HQ1p.out.lt g hg).1; omega))
                      have cO1p : (w4t.setCell ⟨(w.heap.size + 1 + 1 + 1), 12, none⟩ (.slice nwat (n1.n + Hl.t.n) nwct)).cell? ⟨(w.heap.size + 1 + 1 + 1), 11, none⟩ = some (.slice n1.a n1.n n1.c) := (cell_of_row _ _ 11 _ _ (0, 0) HM1p.out.bou).trans (List.getElem?_toArray.trans (by rw [List.getElem?_set_self (by have := (List.getElem?_eq_some_iff.1 HOXxp.out).1; exact this)]))
                      have cO4p : w4p.cell? ⟨(w.heap.size + 1 + 1 + 1), 11, none⟩ = some (.slice n1.a n1.n n1.c) := (cell_of_row _ _ 11 _ _ (0, 0) HO4p.out).trans (List.getElem?_toArray.trans (by rw [List.getElem?_set_self (by have := (List.getElem?_eq_some_iff.1 HOXxp.out).1; exact this)]))
                      have gO4p : w4p.frozen? ⟨(w.heap.size + 1 + 1 + 1), 11, none⟩ = false := frozen_of_row _ _ _ _ _ HO4p.out
                      have cSp : (w4t.setCell ⟨(w.heap.size + 1 + 1 + 1), 12, none⟩ (.slice nwat (n1.n + Hl.t.n) nwct)).cell? ⟨w.heap.size, 11, none⟩ = some (.slice Hl.p.a Hl.p.n Hl.p.c) := (cell_of_row _ _ 11 _ _ (0, 0) HM1p.out.blo).trans (List.getElem?_toArray.trans HLO11.out)
                      have lO4p := lt_of_heap HO4p.out
                      have lSp := lt_of_heap HM1p.out.blo
                      clear hap q1 q2 q3 q4 q5
                      have hmwq : MW w (w4p.setCell ⟨(w.heap.size + 1 + 1 + 1), 11, none⟩ (.slice nwap (n1.n + Hl.p.n) nwcp)) lo up re ((((ouh).set 12 (.slice nwat (n1.n + Hl.t.n) nwct)).set 11 (.slice nwap (n1.n + Hl.p.n) nwcp)).set 13 (.slice n1.a n1.n n1.c)) := by
                        have e1 : (((ouh).set 12 (.slice nwat (n1.n + Hl.t.n) nwct)).set 11 (.slice nwap (n1.n + Hl.p.n) nwcp)).set 13 (.slice n1.a n1.n n1.c) = ((ouh).set 12 (.slice nwat (n1.n + Hl.t.n) nwct)).set 11 (.slice nwap (n1.n + Hl.p.n) nwcp) := by rw [HN1.out, HOU.out]; rfl
                        rw [e1]
                        exact HM5p.out
                      have hchq : Chg wh2 (w4p.setCell ⟨(w.heap.size + 1 + 1 + 1), 11, none⟩ (.slice nwap (n1.n + Hl.p.n) nwcp)) (w.heap.size + 1 + 1 + 1) 0 0 := HCGp.out
                      have hownq : (w4p.setCell ⟨(w.heap.size + 1 + 1 + 1), 11, none⟩ (.slice nwap (n1.n + Hl.p.n) nwcp)).ownsRow (w4p.setCell ⟨(w.heap.size + 1 + 1 + 1), 11, none⟩ (.slice nwap (n1.n + Hl.p.n) nwcp)).heap.size 65 8 (.slice n1.a n1.n n1.c) n1.n (([] : List Pa).flatMap Pa.z) := by rw [HN1.out]; exact owns_nil _ _ _ _
                      have HOXxq : Hid ((((ouh).set 12 (.slice nwat (n1.n + Hl.t.n) nwct)).set 11 (.slice nwap (n1.n + Hl.p.n) nwcp))[13]? = some (.slice none 0 0)) := hidMk (by rw [HOU.out]; rfl)
                      have HM1q := hidMk hmwq
                      have HC1q := hidMk hchq
                      have HO1q := hidMk hownq
                      clear hmwq hchq hownq
                      have LEN1q : n1.n ≤ 1048576 + 1048576 := (by have := HV1.out; omega)
                      have hOwq : w.heap.size + 3 < wh2.heap.size := lt_of_heap HMW.out.bou
                      have lO1q := lt_of_heap HM1q.out.bou
                      obtain ⟨v'q, w4q, hap, q1, q2, q3, q4, q5⟩ := app_any Pa.z Pa.z_len Pa.z_one Try.underlying31 infM65 (by omega) (by omega) (w4p.setCell ⟨(w.heap.size + 1 + 1 + 1), 11, none⟩ (.slice nwap (n1.n + Hl.p.n) nwcp)) (w4p.setCell ⟨(w.heap.size + 1 + 1 + 1), 11, none⟩ (.slice nwap (n1.n + Hl.p.n) nwcp)).heap.size (.slice n1.a n1.n n1.c) n1.n ([] : List Pa) HO1q.out Hl.q.a Hl.q.n Hl.q.c Ll.q HVL.out.lq (HVL.out.rq.below HM1q.out.below) (nil_len HVL.out.lq HVL.out.rq) (by have := HML.out.q; omega) (Nat.le_refl _) 31
                      have HAPq := hidMk hap
                      obtain ⟨nwaq, nwcq, rfl, hvcq⟩ := owns_slice q1
                      have HQ1q := hidMk q1
                      have HBKq := hidMk (blk_or q4)
                      have HCGq : Hid (Chg wh2 (w4q.setCell ⟨(w.heap.size + 1 + 1 + 1), 13, none⟩ (.slice nwaq (n1.n + Hl.q.n) nwcq)) (w.heap.size + 1 + 1 + 1) 0 0) := hidMk (chg_app HC1q.out q2 (fun g hg => .inl (by have h1 := (HO1q.out.lt g hg).1; have h2 := HC1q.out.size; omega)))
                      have HCTq : Hid (Chg (w4p.setCell ⟨(w.heap.size + 1 + 1 + 1), 11, none⟩ (.slice nwap (n1.n + Hl.p.n) nwcp)) (w4q.setCell ⟨(w.heap.size + 1 + 1 + 1), 13, none⟩ (.slice nwaq (n1.n + Hl.q.n) nwcq)) (w.heap.size + 1 + 1 + 1) 0 0) := hidMk (chg_app (Chg.refl _ _ _ _) q2 (fun g hg => .inl (HO1q.out.lt g hg).1))
                      have HO4q : Hid (w4q.heap[(w.heap.size + 1 + 1 + 1)]? = some (.cells ((((ouh).set 12 (.slice nwat (n1.n + Hl.t.n) nwct)).set 11 (.slice nwap (n1.n + Hl.p.n) nwcp)).set 13 (.slice n1.a n1.n n1.c)).toArray 33 (0, 0))) := hidMk ((q2.block (w.heap.size + 1 + 1 + 1) (lt_of_heap HM1q.out.bou) (fun e => by have := (HO1q.out.lt (w.heap.size + 1 + 1 + 1) e.symm).1; omega)).trans HM1q.out.bou)
                      have HM5q : Hid (MW w (w4q.setCell ⟨(w.heap.size + 1 + 1 + 1), 13, none⟩ (.slice nwaq (n1.n + Hl.q.n) nwcq)) lo up re ((((ouh).set 12 (.slice nwat (n1.n + Hl.t.n) nwct)).set 11 (.slice nwap (n1.n + Hl.p.n) nwcp)).set 13 (.slice nwaq (n1.n + Hl.q.n) nwcq))) := hidMk (HMW.out.chg HCGq.out (.inl rfl) (by rw [heap_setCell_same w4q (w.heap.size + 1 + 1 + 1) 13 _ 33 _ HO4q.out]; simp))
                      have HQ5q : Hid ((w4q.setCell ⟨(w.heap.size + 1 + 1 + 1), 13, none⟩ (.slice nwaq (n1.n + Hl.q.n) nwcq)).ownsRow (w4p.setCell ⟨(w.heap.size + 1 + 1 + 1), 11, none⟩ (.slice nwap (n1.n + Hl.p.n) nwcp)).heap.size 65 8 (.slice nwaq (n1.n + Hl.q.n) nwcq) (n1.n + Hl.q.n) ((([] : List Pa) ++ Ll.q).flatMap Pa.z)) := hidMk (owns_set HQ1q.out (fun g hg => by have := (HQ1q.out.lt g hg).1; omega))
                      have cO1q : (w4p.setCell ⟨(w.heap.size + 1 + 1 + 1), 11, none⟩ (.slice nwap (n1.n + Hl.p.n) nwcp)).cell? ⟨(w.heap.size + 1 + 1 + 1), 13, none⟩ = some (.slice n1.a n1.n n1.c) := (cell_of_row _ _ 13 _ _ (0, 0) HM1q.out.bou).trans (List.getElem?_toArray.trans (by rw [List.getElem?_set_self (by have := (List.getElem?_eq_some_iff.1 HOXxq.out).1; exact this)]))
                      have cO4q : w4q.cell? ⟨(w.heap.size + 1 + 1 + 1), 13, none⟩ = some (.slice n1.a n1.n n1.c) := (cell_of_row _ _ 13 _ _ (0, 0) HO4q.out).trans (List.getElem?_toArray.trans (by rw [List.getElem?_set_self (by have := (List.getElem?_eq_some_iff.1 HOXxq.out).1; exact this)]))
                      have gO4q : w4q.frozen? ⟨(w.heap.size + 1 + 1 + 1), 13, none⟩ = false := frozen_of_row _ _ _ _ _ HO4q.out
                      have cSq : (w4p.setCell ⟨(w.heap.size + 1 + 1 + 1), 11, none⟩ (.slice nwap (n1.n + Hl.p.n) nwcp)).cell? ⟨w.heap.size, 13, none⟩ = some (.slice Hl.q.a Hl.q.n Hl.q.c) := (cell_of_row _ _ 13 _ _ (0, 0) HM1q.out.blo).trans (List.getElem?_toArray.trans HLO13.out)
                      have lO4q := lt_of_heap HO4q.out
                      have lSq := lt_of_heap HM1q.out.blo
                      clear hap q1 q2 q3 q4 q5
                      have cT5 : (w4q.setCell ⟨(w.heap.size + 1 + 1 + 1), 13, none⟩ (.slice nwaq (n1.n + Hl.q.n) nwcq)).cell? ⟨w.heap.size, 12, none⟩ = some (.slice Hl.t.a Hl.t.n Hl.t.c) := (cell_of_row _ _ 12 _ _ (0, 0) HM5q.out.blo).trans (List.getElem?_toArray.trans HLO12.out)
                      have cP5 : (w4q.setCell ⟨(w.heap.size + 1 + 1 + 1), 13, none⟩ (.slice nwaq (n1.n + Hl.q.n) nwcq)).cell? ⟨w.heap.size, 11, none⟩ = some (.slice Hl.p.a Hl.p.n Hl.p.c) := (cell_of_row _ _ 11 _ _ (0, 0) HM5q.out.blo).trans (List.getElem?_toArray.trans HLO11.out)
                      have lX5 : w.heap.size < (w4q.setCell ⟨(w.heap.size + 1 + 1 + 1), 13, none⟩ (.slice nwaq (n1.n + Hl.q.n) nwcq)).heap.size := lt_of_heap HM5q.out.blo
                      go_wp2_with (first | (refine wpList_append_run rfl _ _ 30 rfl _ _ rfl rfl _ _ HAPt.out ?_) | (refine wpList_append_run rfl _ _ 29 rfl _ _ rfl rfl _ _ HAPp.out ?_) | (refine wpList_append_run rfl _ _ 31 rfl _ _ rfl rfl _ _ HAPq.out ?_))
                      go_meet
                      case rel =>
                        have ht := HQ5t.out
                        have hp := HQ5p.out
                        have hq := HQ5q.out
                        rw [List.nil_append] at ht hp hq
                        have hOt := hOwt
                        have hOp := lO1p
                        refine ⟨by rw [HG.out, off_false, HVL.out.lt], by rw [HG.out, off_false, ← HVL.out.px.length, HVL.out.lp], ⟨nwat, n1.n + Hl.t.n, nwct⟩, ⟨nwap, n1.n + Hl.p.n, nwcp⟩, ⟨nwaq, n1.n + Hl.q.n, nwcq⟩, _, _, HM5q.out, HCGq.out, HCGt.out.size, HCTp.out.size, HCTq.out.size, ?_, fun g hg => (HQ5t.out.lt g hg).2, ?_, fun g hg => (HQ5p.out.lt g hg).2, ?_⟩
                        · rw [HG.out, off_false]
                          exact owns_chg (owns_chg ht HCTp.out (fun g hg => ⟨by have := (ht.lt g hg).1; omega, .inr (Nat.zero_le _)⟩)) HCTq.out (fun g hg => ⟨by have := (ht.lt g hg).1; omega, .inr (Nat.zero_le _)⟩)
                        · rw [HG.out, off_false]
                          exact owns_chg hp HCTq.out (fun g hg => ⟨by have := (hp.lt g hg).1; omega, .inr (Nat.zero_le _)⟩)
                        · rw [HG.out, off_false]
                          exact hq
                    · go_wp2_with fail
                      go_meet
                      case rel =>
                        have e1 : (((ouh.set 12 (.slice n1.a n1.n n1.c)).set 11 (.slice n1.a n1.n n1.c)).set 13 (.slice n1.a n1.n n1.c)) = ouh := by rw [HN1.out, HOU.out]; rfl
                        have eb : ∀ g, (Value.slice n1.a n1.n n1.c).ownBlock = some g → False := fun g hg => by rw [HNL.out.1] at hg; cases hg
                        have en : (Value.slice n1.a n1.n n1.c) = .slice none 0 0 := by rw [HN1.out]
                        refine ⟨by rw [HG.out, off_true]; rfl, by rw [HG.out, off_true]; rfl, n1, n1, n1, wh2.heap.size, wh2.heap.size, by rw [e1]; exact HMW.out, Chg.refl _ _ _ _, Nat.le_refl _, Nat.le_refl _, Nat.le_refl _, ?_, fun g hg => (eb g hg).elim, ?_, fun g hg => (eb g hg).elim, ?_⟩
                        · rw [HG.out, off_true, en, HNL.out.2.1]; exact owns_nil _ _ _ _
                        · rw [HG.out, off_true, en, HNL.out.2.1]; exact owns_nil _ _ _ _
                        · rw [HG.out, off_true, en, HNL.out.2.1]; exact owns_nil _ _ _ _
                  case rest =>
                    rename World => wn
                    obtain ⟨rfl, rfl, t1, p1, q1, zt, zp, hmw, hch, hzt, hzp, hzn, hwt, hlt, hwp, hlp, hwq⟩ := hcut
                    have hOF : w.heap.size + 3 < wh2.heap.size := lt_of_heap HMW.out.bou
                    obtain ⟨oun, houn⟩ : ∃ oun, oun = (((ouh.set 12 (.slice t1.a t1.n t1.c)).set 11 (.slice p1.a p1.n p1.c)).set 13 (.slice q1.a q1.n q1.c)) := ⟨_, rfl⟩
                    rw [← houn] at hmw
                    rw [HOU.out] at houn
                    simp only [List.set_cons_succ, List.set_cons_zero] at houn
                    have HN := hidMk (owns_chg HWr.out hch (fun g hg => ⟨by have := (HWr.out.lt g hg).1; omega, .inr (Nat.zero_le _)⟩))
                    have HZr : Hid (∀ g, (Value.slice vr.a vr.n vr.c).ownBlock = some g → g < wh2.heap.size) := hidMk (fun g hg => (HWr.out.lt g hg).2)
                    clear HWr
                    have HWr := HN
                    clear HN
                    have HN := hidMk (owns_chg HWs.out hch (fun g hg => ⟨by have := (HWs.out.lt g hg).1; omega, .inr (Nat.zero_le _)⟩))
                    have HZs : Hid (∀ g, (Value.slice vs.a vs.n vs.c).ownBlock = some g → g < wh2.heap.size) := hidMk (fun g hg => (HWs.out.lt g hg).2)
                    clear HWs
                    have HWs := HN
                    clear HN
                    have HN := hidMk (owns_chg HWc.out hch (fun g hg => ⟨by have := (HWc.out.lt g hg).1; omega, .inr (Nat.zero_le _)⟩))
                    have HZc : Hid (∀ g, (Value.slice vc.a vc.n vc.c).ownBlock = some g → g < wh2.heap.size) := hidMk (fun g hg => (HWc.out.lt g hg).2)
                    clear HWc
                    have HWc := HN
                    clear HN
                    have HN := hidMk (owns_chg HWh.out hch (fun g hg => ⟨by have := (HWh.out.lt g hg).1; omega, .inr (Nat.zero_le _)⟩))
                    have HZh : Hid (∀ g, (Value.slice vh.a vh.n vh.c).ownBlock = some g → g < wh2.heap.size) := hidMk (fun g hg => (HWh.out.lt g hg).2)
                    clear HWh
                    have HWh := HN
                    clear HN
                    clear HMW HOU
                    have HMW := hidMk hmw
                    have HOU := hidMk houn
                    have HWt := hidMk hwt
                    have HWp := hidMk hwp
                    have HWq := hidMk hwq
                    have HLT := hidMk hlt
                    have HLP := hidMk hlp
                    have HLQ : Hid (∀ g, (Value.slice q1.a q1.n q1.c).ownBlock = some g → g < wn.heap.size) := hidMk (fun g hg => (hwq.lt g hg).2)
                    have hzn2 : zp ≤ wn.heap.size := hzn
                    clear hmw hch houn hwt hwp hwq hlt hlp HN1 HV1 n1
                    have hmw : MW w wn lo up re (oun.set 12 (.slice t1.a t1.n t1.c)) := by
                      have e1 : oun.set 12 (.slice t1.a t1.n t1.c) = oun := by rw [HOU.out]; rfl
                      rw [e1]
                      exact HMW.out
                    have hch : Chg wn wn (w.heap.size + 1 + 1 + 1) wh2.heap.size zt := Chg.refl _ _ _ _
                    have hown := HWt.out
                    have HOX12x : Hid (oun[12]? = some (.slice t1.a t1.n t1.c)) := hidMk (by rw [HOU.out]; rfl)
                    have HM1 := hidMk hmw
                    have HC1 := hidMk hch
                    have HO1 := hidMk hown
                    clear hmw hch hown
                    have LEN1 : t1.n ≤ 1048576 + 1048576 := (by have h1 := (owns_arow Tp.z Tp.z_len (by omega) HO1.out).2; have h2 := off_len (goes d 128) Ll.t; have h3 := HVL.out.lt; have h4 := HML.out.t; omega)
                    have hOw : w.heap.size + 3 < wn.heap.size := lt_of_heap HMW.out.bou
                    have lO1 := lt_of_heap HM1.out.bou
                    obtain ⟨v', w4, hap, q1, q2, q3, q4, q5⟩ := app_any Tp.z Tp.z_len Tp.z_one Try.underlying30 infM121 (by omega) (by omega) wn wh2.heap.size (.slice t1.a t1.n t1.c) t1.n (off (goes d 128) Ll.t) HO1.out Hu.t.a Hu.t.n Hu.t.c Lu.t HVU.out.lt (HVU.out.rt.below HM1.out.below) (nil_len HVU.out.lt HVU.out.rt) (by have := HMU.out.t; omega) (by omega) 30
                    have HAP := hidMk hap
                    obtain ⟨nwa, nwc, rfl, hvc⟩ := owns_slice q1
                    have HQ1 := hidMk q1
                    have HBK := hidMk (blk_or q4)
                    have HCG : Hid (Chg wn (w4.setCell ⟨(w.heap.size + 1 + 1 + 1), 12, none⟩ (.slice nwa (t1.n + Hu.t.n) nwc)) (w.heap.size + 1 + 1 + 1) wh2.heap.size zt) := hidMk (chg_app HC1.out q2 (fun g hg => .inr ⟨(HO1.out.lt g hg).1, HLT.out g hg⟩))
                    have HO4 : Hid (w4.heap[(w.heap.size + 1 + 1 + 1)]? = some (.cells (oun.set 12 (.slice t1.a t1.n t1.c)).toArray 33 (0, 0))) := hidMk ((q2.block (w.heap.size + 1 + 1 + 1) (lt_of_heap HM1.out.bou) (fun e => by have := (HO1.out.lt (w.heap.size + 1 + 1 + 1) e.symm).1; omega)).trans HM1.out.bou)
                    have HM5 : Hid (MW w (w4.setCell ⟨(w.heap.size + 1 + 1 + 1), 12, none⟩ (.slice nwa (t1.n + Hu.t.n) nwc)) lo up re (oun.set 12 (.slice nwa (t1.n + Hu.t.n) nwc))) := hidMk (HMW.out.chg HCG.out (.inr (by omega)) (by rw [heap_setCell_same w4 (w.heap.size + 1 + 1 + 1) 12 _ 33 _ HO4.out]; simp))
                    have HQ5 : Hid ((w4.setCell ⟨(w.heap.size + 1 + 1 + 1), 12, none⟩ (.slice nwa (t1.n + Hu.t.n) nwc)).ownsRow wh2.heap.size 121 5 (.slice nwa (t1.n + Hu.t.n) nwc) (t1.n + Hu.t.n) (((off (goes d 128) Ll.t) ++ Lu.t).flatMap Tp.z)) := hidMk (owns_set HQ1.out (fun g hg => by have := (HQ1.out.lt g hg).1; omega))
                    have cO1 : wn.cell? ⟨(w.heap.size + 1 + 1 + 1), 12, none⟩ = some (.slice t1.a t1.n t1.c) := (cell_of_row _ _ 12 _ _ (0, 0) HM1.out.bou).trans (List.getElem?_toArray.trans (by rw [List.getElem?_set_self (by have := (List.getElem?_eq_some_iff.1 HOX12x.out).1; exact this)]))
                    have cO4 : w4.cell? ⟨(w.heap.size + 1 + 1 + 1), 12, none⟩ = some (.slice t1.a t1.n t1.c) := (cell_of_row _ _ 12 _ _ (0, 0) HO4.out).trans (List.getElem?_toArray.trans (by rw [List.getElem?_set_self (by have := (List.getElem?_eq_some_iff.1 HOX12x.out).1; exact this)]))
                    have gO4 : w4.frozen? ⟨(w.heap.size + 1 + 1 + 1), 12, none⟩ = false := frozen_of_row _ _ _ _ _ HO4.out
                    have cS : wn.cell? ⟨w.heap.size + 1, 12, none⟩ = some (.slice Hu.t.a Hu.t.n Hu.t.c) := (cell_of_row _ _ 12 _ _ (0, 0) HM1.out.bup).trans (List.getElem?_toArray.trans HUP12.out)
                    have lO4 := lt_of_heap HO4.out
                    have lS := lt_of_heap HM1.out.bup
                    clear hap q1 q2 q3 q4 q5
                    go_upto_region 32 with fail
                    go_cut [] from 142 to 171 (fun wd => ∃ v : Sl, MW w wd lo up re (oun.set 12 (.slice v.a v.n v.c)) ∧ Chg wn wd (w.heap.size + 1 + 1 + 1) wh2.heap.size zt ∧ wd.ownsRow wh2.heap.size 121 5 (.slice v.a v.n v.c) v.n (((off (goes d 128) Ll.t) ++ Lu.t).flatMap Tp.z) ∧ (∀ g, (Value.slice v.a v.n v.c).ownBlock = some g → g < zt ∨ wn.heap.size ≤ g))
                    case first =>
                      go_wp2_with (first | (refine wpList_append_run rfl _ _ 30 rfl _ _ rfl rfl _ _ HAP.out ?_))
                      go_meet
                      case rel => exact ⟨⟨nwa, t1.n + Hu.t.n, nwc⟩, HM5.out, HCG.out, HQ5.out, (fun g hg => by rcases HBK.out with h | h; (exact .inl (HLT.out g (by rw [← h]; exact hg))); (rw [h] at hg; injection hg with hg; exact .inr (by omega)))⟩
                    case rest =>
                      rename World => wt9
                      obtain ⟨vt, hmw, hch, hown, hloc⟩ := hcut
                      obtain ⟨out, hou2⟩ : ∃ out, out = oun.set 12 (.slice vt.a vt.n vt.c) := ⟨_, rfl⟩
                      rw [← hou2] at hmw
                      rw [HOU.out] at hou2
                      simp only [List.set_cons_succ, List.set_cons_zero] at hou2
                      clear HBK HM1 HC1 HO1 HAP HQ1 HCG HO4 HM5 HQ5 cO1 cO4 gO4 cS lO1 lO4 lS LEN1 hvc hOw HOX12x
                      have hcs := hch.size
                      have HN := hidMk (owns_chg HWr.out hch (fun g hg => by have h1 := HZr.out g hg; have h2 := (HWr.out.lt g hg).1; omega))
                      clear HWr
                      have HWr := HN
                      clear HN
                      have HN := hidMk (owns_chg HWs.out hch (fun g hg => by have h1 := HZs.out g hg; have h2 := (HWs.out.lt g hg).1; omega))
                      clear HWs
                      have HWs := HN
                      clear HN
                      have HN := hidMk (owns_chg HWc.out hch (fun g hg => by have h1 := HZc.out g hg; have h2 := (HWc.out.lt g hg).1; omega))
                      clear HWc
                      have HWc := HN
                      clear HN
                      have HN := hidMk (owns_chg HWh.out hch (fun g hg => by have h1 := HZh.out g hg; have h2 := (HWh.out.lt g hg).1; omega))
                      clear HWh
                      have HWh := HN
                      clear HN
                      have HN := hidMk (owns_chg HWp.out hch (fun g hg => by have h2 := (HWp.out.lt g hg); have h3 := HLP.out g hg; omega))
                      clear HWp
                      have HWp := HN
                      clear HN
                      have HN := hidMk (owns_chg HWq.out hch (fun g hg => by have h2 := (HWq.out.lt g hg); omega))
                      clear HWq
                      have HWq := HN
                      clear HN
                      clear HWt HMW HOU
                      have HWt := hidMk hown
                      have HMW := hidMk hmw
                      have HOU := hidMk hou2
                      have HLTn := hidMk hloc
                      clear hmw hch hown hloc hou2
                      have hmw : MW w wt9 lo up re (out.set 11 (.slice p1.a p1.n p1.c)) := by
                        have e1 : out.set 11 (.slice p1.a p1.n p1.c) = out := by rw [HOU.out]; rfl
                        rw [e1]
                        exact HMW.out
                      have hch : Chg wt9 wt9 (w.heap.size + 1 + 1 + 1) zt zp := Chg.refl _ _ _ _
                      have hown := HWp.out
                      have HOX11x : Hid (out[11]? = some (.slice p1.a p1.n p1.c)) := hidMk (by rw [HOU.out]; rfl)
                      have HM1 := hidMk hmw
                      have HC1 := hidMk hch
                      have HO1 := hidMk hown
                      clear hmw hch hown
                      have LEN1 : p1.n ≤ 1048576 + 1048576 := (by have h1 := (owns_arow Pk.z Pk.z_len (by omega) HO1.out).2; have h2 := off_len (goes d 128) pl; have h3 := HVL.out.lp; have h4 := HML.out.p; omega)
                      have hOw : w.heap.size + 3 < wt9.heap.size := lt_of_heap HMW.out.bou
                      have lO1 := lt_of_heap HM1.out.bou
                      obtain ⟨v', w4, hap, q1, q2, q3, q4, q5⟩ := app_any Pk.z Pk.z_len Pk.z_one Try.underlying29 infM61 (by omega) (by omega) wt9 zt (.slice p1.a p1.n p1.c) p1.n (off (goes d 128) pl) HO1.out Hu.p.a Hu.p.n Hu.p.c pu HVU.out.lp (HVU.out.rp.below HM1.out.below) (nil_len HVU.out.lp HVU.out.rp) (by have := HMU.out.p; omega) (by omega) 29
                      have HAP := hidMk hap
                      obtain ⟨nwa, nwc, rfl, hvc⟩ := owns_slice q1
                      have HQ1 := hidMk q1
                      have HBK := hidMk (blk_or q4)
                      have HCG : Hid (Chg wt9 (w4.setCell ⟨(w.heap.size + 1 + 1 + 1), 11, none⟩ (.slice nwa (p1.n + Hu.p.n) nwc)) (w.heap.size + 1 + 1 + 1) zt zp) := hidMk (chg_app HC1.out q2 (fun g hg => .inr ⟨(HO1.out.lt g hg).1, HLP.out g hg⟩))
                      have HO4 : Hid (w4.heap[(w.heap.size + 1 + 1 + 1)]? = some (.cells (out.set 11 (.slice p1.a p1.n p1.c)).toArray 33 (0, 0))) := hidMk ((q2.block (w.heap.size + 1 + 1 + 1) (lt_of_heap HM1.out.bou) (fun e => by have := (HO1.out.lt (w.heap.size + 1 + 1 + 1) e.symm).1; omega)).trans HM1.out.bou)
                      have HM5 : Hid (MW w (w4.setCell ⟨(w.heap.size + 1 + 1 + 1), 11, none⟩ (.slice nwa (p1.n + Hu.p.n) nwc)) lo up re (out.set 11 (.slice nwa (p1.n + Hu.p.n) nwc))) := hidMk (HMW.out.chg HCG.out (.inr (by omega)) (by rw [heap_setCell_same w4 (w.heap.size + 1 + 1 + 1) 11 _ 33 _ HO4.out]; simp))
                      have HQ5 : Hid ((w4.setCell ⟨(w.heap.size + 1 + 1 + 1), 11, none⟩ (.slice nwa (p1.n + Hu.p.n) nwc)).ownsRow zt 61 10 (.slice nwa (p1.n + Hu.p.n) nwc) (p1.n + Hu.p.n) (((off (goes d 128) pl) ++ pu).flatMap Pk.z)) := hidMk (owns_set HQ1.out (fun g hg => by have := (HQ1.out.lt g hg).1; omega))
                      have cO1 : wt9.cell? ⟨(w.heap.size + 1 + 1 + 1), 11, none⟩ = some (.slice p1.a p1.n p1.c) := (cell_of_row _ _ 11 _ _ (0, 0) HM1.out.bou).trans (List.getElem?_toArray.trans (by rw [List.getElem?_set_self (by have := (List.getElem?_eq_some_iff.1 HOX11x.out).1; exact this)]))
                      have cO4 : w4.cell? ⟨(w.heap.size + 1 + 1 + 1), 11, none⟩ = some (.slice p1.a p1.n p1.c) := (cell_of_row _ _ 11 _ _ (0, 0) HO4.out).trans (List.getElem?_toArray.trans (by rw [List.getElem?_set_self (by have := (List.getElem?_eq_some_iff.1 HOX11x.out).1; exact this)]))
                      have gO4 : w4.frozen? ⟨(w.heap.size + 1 + 1 + 1), 11, none⟩ = false := frozen_of_row _ _ _ _ _ HO4.out
                      have cS : wt9.cell? ⟨w.heap.size + 1, 11, none⟩ = some (.slice Hu.p.a Hu.p.n Hu.p.c) := (cell_of_row _ _ 11 _ _ (0, 0) HM1.out.bup).trans (List.getElem?_toArray.trans HUP11.out)
                      have lO4 := lt_of_heap HO4.out
                      have lS := lt_of_heap HM1.out.bup
                      clear hap q1 q2 q3 q4 q5
                      go_upto_region 33 with fail
                      go_cut [] from 172 to 177 (fun wd => ∃ v : Sl, MW w wd lo up re (out.set 11 (.slice v.a v.n v.c)) ∧ Chg wt9 wd (w.heap.size + 1 + 1 + 1) zt zp ∧ wd.ownsRow zt 61 10 (.slice v.a v.n v.c) v.n (((off (goes d 128) pl) ++ pu).flatMap Pk.z) ∧ (∀ g, (Value.slice v.a v.n v.c).ownBlock = some g → g < zp ∨ wt9.heap.size ≤ g))
                      case first =>
                        go_wp2_with (first | (refine wpList_append_run rfl _ _ 29 rfl _ _ rfl rfl _ _ HAP.out ?_))
                        go_meet
                        case rel => exact ⟨⟨nwa, p1.n + Hu.p.n, nwc⟩, HM5.out, HCG.out, HQ5.out, (fun g hg => by rcases HBK.out with h | h; (exact .inl (HLP.out g (by rw [← h]; exact hg))); (rw [h] at hg; injection hg with hg; exact .inr (by omega)))⟩
                      case rest =>
                        rename World => wp9
                        obtain ⟨vp, hmw, hch, hown, hloc⟩ := hcut
                        obtain ⟨oup, hou2⟩ : ∃ oup, oup = out.set 11 (.slice vp.a vp.n vp.c) := ⟨_, rfl⟩
                        rw [← hou2] at hmw
                        rw [HOU.out] at hou2
                        simp only [List.set_cons_succ, List.set_cons_zero] at hou2
                        clear HBK HM1 HC1 HO1 HAP HQ1 HCG HO4 HM5 HQ5 cO1 cO4 gO4 cS lO1 lO4 lS LEN1 hvc hOw HOX11x
                        have hcs := hch.size
                        have HN := hidMk (owns_chg HWr.out hch (fun g hg => by have h1 := HZr.out g hg; have h2 := (HWr.out.lt g hg).1; omega))
                        clear HWr
                        have HWr := HN
                        clear HN
                        have HN := hidMk (owns_chg HWs.out hch (fun g hg => by have h1 := HZs.out g hg; have h2 := (HWs.out.lt g hg).1; omega))
                        clear HWs
                        have HWs := HN
                        clear HN
                        have HN := hidMk (owns_chg HWc.out hch (fun g hg => by have h1 := HZc.out g hg; have h2 := (HWc.out.lt g hg).1; omega))
                        clear HWc
                        have HWc := HN
                        clear HN
                        have HN := hidMk (owns_chg HWh.out hch (fun g hg => by have h1 := HZh.out g hg; have h2 := (HWh.out.lt g hg).1; omega))
                        clear HWh
                        have HWh := HN
                        clear HN
                        have HN := hidMk (owns_chg HWt.out hch (fun g hg => by have h2 := (HWt.out.lt g hg); have h3 := HLTn.out g hg; omega))
                        clear HWt
                        have HWt := HN
                        clear HN
                        have HN := hidMk (owns_chg HWq.out hch (fun g hg => by have h2 := (HWq.out.lt g hg); omega))
                        clear HWq
                        have HWq := HN
                        clear HN
                        clear HWp HMW HOU
                        have HWp := hidMk hown
                        have HMW := hidMk hmw
                        have HOU := hidMk hou2
                        have HLPn := hidMk hloc
                        clear hmw hch hown hloc hou2
                        obtain ⟨tn, htn⟩ : ∃ tn, tn = (off (goes d 128) Ll.t).length := ⟨_, rfl⟩
                        obtain ⟨pn, hpn⟩ : ∃ pn, pn = (off (goes d 128) Ll.x).length := ⟨_, rfl⟩
                        rw [← htn, ← hpn]
                        have HTN := hidMk htn
                        have HPN := hidMk hpn
                        clear htn hpn
                        have HM0 : Hid (MW w wp9 lo up re (oup.set 13 (.slice q1.a q1.n q1.c))) := hidMk (by
                          have e1 : oup.set 13 (.slice q1.a q1.n q1.c) = oup := by rw [HOU.out]; rfl
                          rw [e1]
                          exact HMW.out)
                        have HOXq : Hid (13 < oup.length) := hidMk (by rw [HOU.out]; simp)
                        have HQL : Hid (q1.n ≤ 1048576) := hidMk (by have h1 := (owns_arow Pa.z Pa.z_len (by omega) HWq.out).2; have h2 := off_len (goes d 128) Ll.q; have h3 := HVL.out.lq; have h4 := HML.out.q; omega)
                        have hOp : w.heap.size + 3 < zp := by omega
                        go_upto_block 6 with fail
                        go_cut [12, 13] from 172 to 177 (fun _ _ wd => ∃ v : Sl, MW w wd lo up re (oup.set 13 (.slice v.a v.n v.c)) ∧ Chg wp9 wd (w.heap.size + 1 + 1 + 1) zp wn.heap.size ∧ wd.ownsRow zp 65 8 (.slice v.a v.n v.c) v.n ((off (goes d 128) Ll.q ++ Lu.q.map (renum tn pn)).flatMap Pa.z))
                        case first =>
                          go_wp2_with fail
                          go_loopw [12] (fun i wr => ∃ (k : Nat) (v : Sl), i = .int .i64 k ∧ k ≤ Hu.q.n ∧ v.n ≤ 1048576 + k ∧ MW w wr lo up re (oup.set 13 (.slice v.a v.n v.c)) ∧ Chg wp9 wr (w.heap.size + 1 + 1 + 1) zp wn.heap.size ∧ wr.ownsRow zp 65 8 (.slice v.a v.n v.c) v.n ((off (goes d 128) Ll.q ++ (Lu.q.take k).map (renum tn pn)).flatMap Pa.z) ∧ ∀ g, (Value.slice v.a v.n v.c).ownBlock = some g → wp9.heap.size ≤ g ∨ (zp ≤ g ∧ g < wn.heap.size)) (fun i _ => Hu.q.n - (intOf i).toNat)
                          case atStart => exact ⟨0, q1, rfl, by omega, by have := HQL.out; omega, HM0.out, Chg.refl _ _ _ _, by simpa using HWq.out, fun g hg => .inr ⟨(HWq.out.lt g hg).1, HLQ.out g hg⟩⟩
                          case round =>
                            obtain ⟨k, v, rfl, hk, hvk, hmw, hch, hown, hloc⟩ := hrel
                            have HMR := hidMk hmw
                            have HCH := hidMk hch
                            have HOW := hidMk hown
                            have HLO' := hidMk hloc
                            have cU : wr.cell? ⟨w.heap.size + 1, 13, none⟩ = some (.slice Hu.q.a Hu.q.n Hu.q.c) := (cell_of_row _ _ 13 _ _ (0, 0) hmw.bup).trans (List.getElem?_toArray.trans HUP13.out)
                            have lU := lt_of_heap hmw.bup
                            have hws := hmw.below.size
                            have hsn : Hu.q.n ≤ 1048576 := HMU.out.q
                            clear hmw hch hown hloc
                            by_cases hlt : k < Hu.q.n
                            · have k0 : (0 : Int) ≤ (k : Int) := by omega
                              have k1 : (k : Int) < (Hu.q.n : Int) := by omega
                              obtain ⟨b0, o0, ha0, hc0⟩ := HVU.out.rq (by have := HVU.out.lq; omega)
                              obtain ⟨y, hy⟩ : ∃ y, Lu.q[k]? = some y := ⟨Lu.q[k]'(by have := HVU.out.lq; omega), by simp⟩
                              have R0 := hidMk (rangeAt_below (hc0 k y hy) HMR.out.below (Nat.le_refl _))
                              have HTK : Hid (Lu.q.take (k + 1) = Lu.q.take k ++ [y]) := hidMk (by rw [List.take_add_one, hy]; rfl)
                              clear hc0 hy
                              rw [ha0] at cU
                              clear ha0
                              obtain ⟨x1, x2, x3, x4, x5, x6, x7, x8⟩ := y
                              simp only [Pa.z] at R0
                              have cO : wr.cell? ⟨(w.heap.size + 1 + 1 + 1), 13, none⟩ = some (.slice v.a v.n v.c) := (cell_of_row _ _ 13 _ _ (0, 0) HMR.out.bou).trans (List.getElem?_toArray.trans (by rw [List.getElem?_set_self HOXq.out]))
                              have lO := lt_of_heap HMR.out.bou
                              by_cases h3 : x1 = 3
                              · subst h3
                                have EY : Hid (Pa.z (renum tn pn (⟨3, x2, x3, x4, x5, x6, x7, x8⟩ : Pa)) = [.int .u8 3, .int .i64 (wrap64 (x2 + tn)), .int .i64 (wrap64 (x3 + pn)), .int .u8 x4, .int .u8 x5, .string x6, .int .u16 x7, .float .f32 x8]) := hidMk (by simp [Pa.z, renum])
                                have HBY : Hid (Below wr.heap.size wr ((wr.alloc (.cells #[.int .u8 3, .int .i64 (wrap64 (x2 + tn)), .int .i64 (wrap64 (x3 + pn)), .int .u8 x4, .int .u8 x5, .string x6, .int .u16 x7, .float .f32 x8] 65)).alloc (.cells #[.int .u8 3, .int .i64 (wrap64 (x2 + tn)), .int .i64 (wrap64 (x3 + pn)), .int .u8 x4, .int .u8 x5, .string x6, .int .u16 x7, .float .f32 x8] 65))) := hidMk (((Below.refl _ wr).alloc (Nat.le_refl _) _).alloc (by simp) _)
                                have RY : Hid ((wr.alloc (.cells #[.int .u8 3, .int .i64 (wrap64 (x2 + tn)), .int .i64 (wrap64 (x3 + pn)), .int .u8 x4, .int .u8 x5, .string x6, .int .u16 x7, .float .f32 x8] 65)).rangeAt wr.heap.size 0 [.int .u8 3, .int .i64 (wrap64 (x2 + tn)), .int .i64 (wrap64 (x3 + pn)), .int .u8 x4, .int .u8 x5, .string x6, .int .u16 x7, .float .f32 x8]) := hidMk (fun j v hv => by rw [cell_of_row _ _ _ _ _ (0, 0) (heap_alloc_new wr _)]; simpa using hv)
                                obtain ⟨v', w4, hap, q1_, q2, q3, q4, q5⟩ := app_any Pa.z Pa.z_len Pa.z_one Try.underlying31 infM65 (by omega) (by omega) ((wr.alloc (.cells #[.int .u8 3, .int .i64 (wrap64 (x2 + tn)), .int .i64 (wrap64 (x3 + pn)), .int .u8 x4, .int .u8 x5, .string x6, .int .u16 x7, .float .f32 x8] 65)).alloc (.cells #[.int .u8 3, .int .i64 (wrap64 (x2 + tn)), .int .i64 (wrap64 (x3 + pn)), .int .u8 x4, .int .u8 x5, .string x6, .int .u16 x7, .float .f32 x8] 65)) zp (.slice v.a v.n v.c) v.n (off (goes d 128) Ll.q ++ (Lu.q.take k).map (renum tn pn)) (owns_below HOW.out HBY.out) (some ⟨wr.heap.size + 1, 0, none⟩) 1 1 [renum tn pn (⟨3, x2, x3, x4, x5, x6, x7, x8⟩ : Pa)] rfl (arow_one Pa.z (by rw [EY.out]; exact heap2 wr _ _)) (fun h => by cases h) (by omega) (by have := HCH.out.size; simp; omega) 31
                                have HAP := hidMk hap
                                obtain ⟨nwa, nwc, rfl, hvc⟩ := owns_slice q1_
                                have HQ1 := hidMk q1_
                                have HBK := hidMk (blk_or q4)
                                have HCG : Hid (Chg wp9 (w4.setCell ⟨(w.heap.size + 1 + 1 + 1), 13, none⟩ (.slice nwa (v.n + 1) nwc)) (w.heap.size + 1 + 1 + 1) zp wn.heap.size) := hidMk (chg_app (HCH.out.trans (Below.chg HBY.out _ _ _)) q2 HLO'.out)
                                have HO4 : Hid (w4.heap[(w.heap.size + 1 + 1 + 1)]? = some (.cells (oup.set 13 (.slice v.a v.n v.c)).toArray 33 (0, 0))) := hidMk ((q2.block (w.heap.size + 1 + 1 + 1) (by have := lt_of_heap HMR.out.bou; simp; omega) (fun e => by have := (HOW.out.lt (w.heap.size + 1 + 1 + 1) e.symm).1; omega)).trans ((HBY.out.block (w.heap.size + 1 + 1 + 1) (lt_of_heap HMR.out.bou)).trans HMR.out.bou))
                                have HM5 : Hid (MW w (w4.setCell ⟨(w.heap.size + 1 + 1 + 1), 13, none⟩ (.slice nwa (v.n + 1) nwc)) lo up re (oup.set 13 (.slice nwa (v.n + 1) nwc))) := hidMk (HMW.out.chg HCG.out (.inr (by omega)) (by rw [heap_setCell_same w4 (w.heap.size + 1 + 1 + 1) 13 _ 33 _ HO4.out]; simp))
                                have HQ5 : Hid ((w4.setCell ⟨(w.heap.size + 1 + 1 + 1), 13, none⟩ (.slice nwa (v.n + 1) nwc)).ownsRow zp 65 8 (.slice nwa (v.n + 1) nwc) (v.n + 1) ((off (goes d 128) Ll.q ++ (Lu.q.take (k + 1)).map (renum tn pn)).flatMap Pa.z)) := hidMk (by
                                  have e2 : off (goes d 128) Ll.q ++ (Lu.q.take (k + 1)).map (renum tn pn) = (off (goes d 128) Ll.q ++ (Lu.q.take k).map (renum tn pn)) ++ [renum tn pn (⟨3, x2, x3, x4, x5, x6, x7, x8⟩ : Pa)] := by rw [HTK.out]; simp
                                  rw [e2]
                                  exact owns_set HQ1.out (fun g hg => by have := (HQ1.out.lt g hg).1; omega))
                                have HL5 : Hid (∀ g, (Value.slice nwa (v.n + 1) nwc).ownBlock = some g → wp9.heap.size ≤ g ∨ (zp ≤ g ∧ g < wn.heap.size)) := hidMk (fun g hg => by
                                  rcases HBK.out with h | h
                                  · exact HLO'.out g (by rw [← h]; exact hg)
                                  · rw [h] at hg
                                    injection hg with hg
                                    have := HCH.out.size
                                    simp at hg
                                    exact .inl (by omega))
                                have cO4 : w4.cell? ⟨(w.heap.size + 1 + 1 + 1), 13, none⟩ = some (.slice v.a v.n v.c) := (cell_of_row _ _ 13 _ _ (0, 0) HO4.out).trans (List.getElem?_toArray.trans (by rw [List.getElem?_set_self HOXq.out]))
                                have gO4 : w4.frozen? ⟨(w.heap.size + 1 + 1 + 1), 13, none⟩ = false := frozen_of_row _ _ _ _ _ HO4.out
                                have lO4 := lt_of_heap HO4.out
                                clear hap q1_ q2 q3 q4 q5
                                go_wp2_with (first | (refine wpList_load_mid rfl 65 _ rfl b0 (o0 + k * 8) rfl _ _ R0.out Try.underlying65 rfl info65 ?_) | (refine wpList_store_new rfl 65 _ _ rfl _ _ _ rfl _ rfl (by simp) rfl info65 rfl rfl ?_) | (refine wpList_load_mid rfl 65 _ rfl wr.heap.size 0 rfl _ _ RY.out Try.underlying65 rfl info65 ?_) | (refine wpList_append_run rfl _ _ 31 rfl _ _ rfl rfl _ _ HAP.out ?_))
                                go_light
                                exact ⟨⟨k + 1, ⟨nwa, v.n + 1, nwc⟩, by go_num, by omega, by simp only; omega, HM5.out, HCG.out, HQ5.out, HL5.out⟩, by simp [intOf]; omega⟩

                              · 
                                have EY : Hid (Pa.z (renum tn pn (⟨x1, x2, x3, x4, x5, x6, x7, x8⟩ : Pa)) = [.int .u8 x1, .int .i64 (wrap64 (x2 + tn)), .int .i64 (wrap64 (x3 + tn)), .int .u8 x4, .int .u8 x5, .string x6, .int .u16 x7, .float .f32 x8]) := hidMk (by simp [Pa.z, renum, h3])
                                have HBY : Hid (Below wr.heap.size wr ((wr.alloc (.cells #[.int .u8 x1, .int .i64 (wrap64 (x2 + tn)), .int .i64 (wrap64 (x3 + tn)), .int .u8 x4, .int .u8 x5, .string x6, .int .u16 x7, .float .f32 x8] 65)).alloc (.cells #[.int .u8 x1, .int .i64 (wrap64 (x2 + tn)), .int .i64 (wrap64 (x3 + tn)), .int .u8 x4, .int .u8 x5, .string x6, .int .u16 x7, .float .f32 x8] 65))) := hidMk (((Below.refl _ wr).alloc (Nat.le_refl _) _).alloc (by simp) _)
                                have RY : Hid ((wr.alloc (.cells #[.int .u8 x1, .int .i64 (wrap64 (x2 + tn)), .int .i64 (wrap64 (x3 + tn)), .int .u8 x4, .int .u8 x5, .string x6, .int .u16 x7, .float .f32 x8] 65)).rangeAt wr.heap.size 0 [.int .u8 x1, .int .i64 (wrap64 (x2 + tn)), .int .i64 (wrap64 (x3 + tn)), .int .u8 x4, .int .u8 x5, .string x6, .int .u16 x7, .float .f32 x8]) := hidMk (fun j v hv => by rw [cell_of_row _ _ _ _ _ (0, 0) (heap_alloc_new wr _)]; simpa using hv)
                                obtain ⟨v', w4, hap, q1_, q2, q3, q4, q5⟩ := app_any Pa.z Pa.z_len Pa.z_one Try.underlying31 infM65 (by omega) (by omega) ((wr.alloc (.cells #[.int .u8 x1, .int .i64 (wrap64 (x2 + tn)), .int .i64 (wrap64 (x3 + tn)), .int .u8 x4, .int .u8 x5, .string x6, .int .u16 x7, .float .f32 x8] 65)).alloc (.cells #[.int .u8 x1, .int .i64 (wrap64 (x2 + tn)), .int .i64 (wrap64 (x3 + tn)), .int .u8 x4, .int .u8 x5, .string x6, .int .u16 x7, .float .f32 x8] 65)) zp (.slice v.a v.n v.c) v.n (off (goes d 128) Ll.q ++ (Lu.q.take k).map (renum tn pn)) (owns_below HOW.out HBY.out) (some ⟨wr.heap.size + 1, 0, none⟩) 1 1 [renum tn pn (⟨x1, x2, x3, x4, x5, x6, x7, x8⟩ : Pa)] rfl (arow_one Pa.z (by rw [EY.out]; exact heap2 wr _ _)) (fun h => by cases h) (by omega) (by have := HCH.out.size; simp; omega) 31
                                have HAP := hidMk hap
                                obtain ⟨nwa, nwc, rfl, hvc⟩ := owns_slice q1_
                                have HQ1 := hidMk q1_
                                have HBK := hidMk (blk_or q4)
                                have HCG : Hid (Chg wp9 (w4.setCell ⟨(w.heap.size + 1 + 1 + 1), 13, none⟩ (.slice nwa (v.n + 1) nwc)) (w.heap.size + 1 + 1 + 1) zp wn.heap.size) := hidMk (chg_app (HCH.out.trans (Below.chg HBY.out _ _ _)) q2 HLO'.out)
                                have HO4 : Hid (w4.heap[(w.heap.size + 1 + 1 + 1)]? = some (.cells (oup.set 13 (.slice v.a v.n v.c)).toArray 33 (0, 0))) := hidMk ((q2.block (w.heap.size + 1 + 1 + 1) (by have := lt_of_heap HMR.out.bou; simp; omega) (fun e => by have := (HOW.out.lt (w.heap.size + 1 + 1 + 1) e.symm).1; omega)).trans ((HBY.out.block (w.heap.size + 1 + 1 + 1) (lt_of_heap HMR.out.bou)).trans HMR.out.bou))
                                have HM5 : Hid (MW w (w4.setCell ⟨(w.heap.size + 1 + 1 + 1), 13, none⟩ (.slice nwa (v.n + 1) nwc)) lo up re (oup.set 13 (.slice nwa (v.n + 1) nwc))) := hidMk (HMW.out.chg HCG.out (.inr (by omega)) (by rw [heap_setCell_same w4 (w.heap.size + 1 + 1 + 1) 13 _ 33 _ HO4.out]; simp))
                                have HQ5 : Hid ((w4.setCell ⟨(w.heap.size + 1 + 1 + 1), 13, none⟩ (.slice nwa (v.n + 1) nwc)).ownsRow zp 65 8 (.slice nwa (v.n + 1) nwc) (v.n + 1) ((off (goes d 128) Ll.q ++ (Lu.q.take (k + 1)).map (renum tn pn)).flatMap Pa.z)) := hidMk (by
                                  have e2 : off (goes d 128) Ll.q ++ (Lu.q.take (k + 1)).map (renum tn pn) = (off (goes d 128) Ll.q ++ (Lu.q.take k).map (renum tn pn)) ++ [renum tn pn (⟨x1, x2, x3, x4, x5, x6, x7, x8⟩ : Pa)] := by rw [HTK.out]; simp
                                  rw [e2]
                                  exact owns_set HQ1.out (fun g hg => by have := (HQ1.out.lt g hg).1; omega))
                                have HL5 : Hid (∀ g, (Value.slice nwa (v.n + 1) nwc).ownBlock = some g → wp9.heap.size ≤ g ∨ (zp ≤ g ∧ g < wn.heap.size)) := hidMk (fun g hg => by
                                  rcases HBK.out with h | h
                                  · exact HLO'.out g (by rw [← h]; exact hg)
                                  · rw [h] at hg
                                    injection hg with hg
                                    have := HCH.out.size
                                    simp at hg
                                    exact .inl (by omega))
                                have cO4 : w4.cell? ⟨(w.heap.size + 1 + 1 + 1), 13, none⟩ = some (.slice v.a v.n v.c) := (cell_of_row _ _ 13 _ _ (0, 0) HO4.out).trans (List.getElem?_toArray.trans (by rw [List.getElem?_set_self HOXq.out]))
                                have gO4 : w4.frozen? ⟨(w.heap.size + 1 + 1 + 1), 13, none⟩ = false := frozen_of_row _ _ _ _ _ HO4.out
                                have lO4 := lt_of_heap HO4.out
                                clear hap q1_ q2 q3 q4 q5
                                go_wp2_with (first | (refine wpList_load_mid rfl 65 _ rfl b0 (o0 + k * 8) rfl _ _ R0.out Try.underlying65 rfl info65 ?_) | (refine wpList_store_new rfl 65 _ _ rfl _ _ _ rfl _ rfl (by simp) rfl info65 rfl rfl ?_) | (refine wpList_load_mid rfl 65 _ rfl wr.heap.size 0 rfl _ _ RY.out Try.underlying65 rfl info65 ?_) | (refine wpList_append_run rfl _ _ 31 rfl _ _ rfl rfl _ _ HAP.out ?_))
                                go_light
                                exact ⟨⟨k + 1, ⟨nwa, v.n + 1, nwc⟩, by go_num, by omega, by simp only; omega, HM5.out, HCG.out, HQ5.out, HL5.out⟩, by simp [intOf]; omega⟩

                            · have hkn : k = Hu.q.n := by omega
                              go_wp2_with fail
                              go_meet
                              case rel =>
                                have h2 := HOW.out
                                rw [List.take_of_length_le (by have := HVU.out.lq; omega)] at h2
                                exact ⟨v, HMR.out, HCH.out, h2⟩
                        case rest =>
                          rename World => wz
                          obtain ⟨vq, hmw, hch, hown⟩ := hcut
                          obtain ⟨oz, hoz⟩ : ∃ oz, oz = oup.set 13 (.slice vq.a vq.n vq.c) := ⟨_, rfl⟩
                          rw [← hoz] at hmw
                          rw [HOU.out] at hoz
                          simp only [List.set_cons_succ, List.set_cons_zero] at hoz
                          subst hoz
                          have HN := hidMk (owns_chg HWr.out hch (fun g hg => by have h1 := HZr.out g hg; have h2 := (HWr.out.lt g hg).1; omega))
                          clear HWr
                          have HWr := HN
                          clear HN
                          have HN := hidMk (owns_chg HWs.out hch (fun g hg => by have h1 := HZs.out g hg; have h2 := (HWs.out.lt g hg).1; omega))
                          clear HWs
                          have HWs := HN
                          clear HN
                          have HN := hidMk (owns_chg HWc.out hch (fun g hg => by have h1 := HZc.out g hg; have h2 := (HWc.out.lt g hg).1; omega))
                          clear HWc
                          have HWc := HN
                          clear HN
                          have HN := hidMk (owns_chg HWh.out hch (fun g hg => by have h1 := HZh.out g hg; have h2 := (HWh.out.lt g hg).1; omega))
                          clear HWh
                          have HWh := HN
                          clear HN
                          have HN := hidMk (owns_chg HWt.out hch (fun g hg => by have h2 := (HWt.out.lt g hg); have h3 := HLTn.out g hg; omega))
                          clear HWt
                          have HWt := HN
                          clear HN
                          have HN := hidMk (owns_chg HWp.out hch (fun g hg => by have h2 := (HWp.out.lt g hg); have h3 := HLPn.out g hg; omega))
                          clear HWp
                          have HWp := HN
                          clear HN
                          have HWq2 := hidMk hown
                          have HMZ := hidMk hmw
                          clear hmw hch hown HM0
                          have lO := lt_of_heap HMZ.out.bou
                          have HRA : Hid (wz.rangeAt (w.heap.size + 1 + 1 + 1) 0 [.string Tu.i, .string Tu.nm, .float .f64 Tu.la, .float .f64 Tu.lo, .float .f64 Tu.el, .float .f32 Tu.mv, .slice vr.a vr.n vr.c, .slice vs.a vs.n vs.c, .slice vc.a vc.n vc.c, .slice vh.a vh.n vh.c, .pointer Du, .slice vp.a vp.n vp.c, .slice vt.a vt.n vt.c, .slice vq.a vq.n vq.c]) := hidMk (fun j v hv => by rw [cell_of_row _ _ _ _ _ (0, 0) HMZ.out.bou]; simpa using hv)
                          have HTH : Hid (wz.there (w.heap.size + 1 + 1) 0 14) := hidMk (fun j hj => by
                            rw [cell_of_row _ _ _ _ _ (0, 0) HMZ.out.bre]
                            have hre := HRE.out
                            refine ⟨?_, frozen_of_row _ _ _ _ _ HMZ.out.bre⟩
                            rw [List.getElem?_toArray, List.getElem?_eq_getElem (by rw [hre]; simpa using hj)]; rfl)
                          have HREL : Hid (0 + ([.string Tu.i, .string Tu.nm, .float .f64 Tu.la, .float .f64 Tu.lo, .float .f64 Tu.el, .float .f32 Tu.mv, .slice vr.a vr.n vr.c, .slice vs.a vs.n vs.c, .slice vc.a vc.n vc.c, .slice vh.a vh.n vh.c, .pointer Du, .slice vp.a vp.n vp.c, .slice vt.a vt.n vt.c, .slice vq.a vq.n vq.c] : List Value).length ≤ re.length) := hidMk (by rw [HRE.out]; simp)
                          go_wp2_with (first | (refine wpList_load_mid rfl 33 _ rfl (w.heap.size + 1 + 1 + 1) 0 rfl _ _ HRA.out Try.underlying33 rfl zeroM33 ?_) | (refine wpList_store_list rfl 33 _ _ rfl (w.heap.size + 1 + 1) 0 _ rfl rfl HTH.out zeroM33 rfl ?_))
                          have hres := heap_setCells [.string Tu.i, .string Tu.nm, .float .f64 Tu.la, .float .f64 Tu.lo, .float .f64 Tu.el, .float .f32 Tu.mv, .slice vr.a vr.n vr.c, .slice vs.a vs.n vs.c, .slice vc.a vc.n vc.c, .slice vh.a vh.n vh.c, .pointer Du, .slice vp.a vp.n vp.c, .slice vt.a vt.n vt.c, .slice vq.a vq.n vq.c] 0 wz _ HMZ.out.bre HREL.out
                          have hput : putAt re 0 [.string Tu.i, .string Tu.nm, .float .f64 Tu.la, .float .f64 Tu.lo, .float .f64 Tu.el, .float .f32 Tu.mv, .slice vr.a vr.n vr.c, .slice vs.a vs.n vs.c, .slice vc.a vc.n vc.c, .slice vh.a vh.n vh.c, .pointer Du, .slice vp.a vp.n vp.c, .slice vt.a vt.n vt.c, .slice vq.a vq.n vq.c] = [.string Tu.i, .string Tu.nm, .float .f64 Tu.la, .float .f64 Tu.lo, .float .f64 Tu.el, .float .f32 Tu.mv, .slice vr.a vr.n vr.c, .slice vs.a vs.n vs.c, .slice vc.a vc.n vc.c, .slice vh.a vh.n vh.c, .pointer Du, .slice vp.a vp.n vp.c, .slice vt.a vt.n vt.c, .slice vq.a vq.n vq.c] := by rw [HRE.out]; rfl
                          rw [hput] at hres
                          refine bodyPost_ret (results_cell_row rfl _ _ (w.heap.size + 1 + 1) 33 _ (0, 0) _ rfl hres Try.underlying33 rfl zeroM33) rfl ⟨⟨vr, vs, vc, vh, vp, vt, vq⟩, off (goes d 128) pl ++ pu, rfl, ?_, ?_⟩
                          · exact below_setCells HMZ.out.below (by omega) (by have := HMZ.out.below.size; omega)
                          · have hbf := below_setCells (o := 0) (vs := [.string Tu.i, .string Tu.nm, .float .f64 Tu.la, .float .f64 Tu.lo, .float .f64 Tu.el, .float .f32 Tu.mv, .slice vr.a vr.n vr.c, .slice vs.a vs.n vs.c, .slice vc.a vc.n vc.c, .slice vh.a vh.n vh.c, .pointer Du, .slice vp.a vp.n vp.c, .slice vt.a vt.n vt.c, .slice vq.a vq.n vq.c]) (g := w.heap.size + 1 + 1) HMZ.out.below (by omega) (by have := HMZ.out.below.size; omega)
                            have hk : ∀ b, w.heap.size + 4 ≤ b → b < wz.heap.size → (wz.setCells (w.heap.size + 1 + 1) 0 [.string Tu.i, .string Tu.nm, .float .f64 Tu.la, .float .f64 Tu.lo, .float .f64 Tu.el, .float .f32 Tu.mv, .slice vr.a vr.n vr.c, .slice vs.a vs.n vs.c, .slice vc.a vc.n vc.c, .slice vh.a vh.n vh.c, .pointer Du, .slice vp.a vp.n vp.c, .slice vt.a vt.n vt.c, .slice vq.a vq.n vq.c]).heap[b]? = wz.heap[b]? := fun b hb hlt => heap_setCells_far (by omega) hlt
                            have gr := owns_arow Rw.z Rw.z_len (by omega) (owns_kept HWr.out hk)
                            have gs := owns_arow St.z St.z_len (by omega) (owns_kept HWs.out hk)
                            have gc := owns_arow Cm.z Cm.z_len (by omega) (owns_kept HWc.out hk)
                            have gh := owns_arow Hp.z Hp.z_len (by omega) (owns_kept HWh.out hk)
                            have gt := owns_arow Tp.z Tp.z_len (by omega) (owns_kept (owns_base (by omega) HWt.out) hk)
                            have gp := owns_arow Pk.z Pk.z_len (by omega) (owns_kept (owns_base (by omega) HWp.out) hk)
                            have gq := owns_arow Pa.z Pa.z_len (by omega) (owns_kept (owns_base (by omega) HWq2.out) hk)
                            rw [filter_goneR] at gr
                            rw [filter_goneS] at gs
                            rw [filter_goneC] at gc
                            rw [HTN.out, HPN.out] at gq
                            exact ⟨gr.2, gs.2, gc.2, gh.2, gp.2, gt.2, gq.2, gr.1, gs.1, gc.1, gh.1, gp.1, gt.1, gq.1, (off_pk (HVL.out.px.below hbf)).append (HVU.out.px.below hbf)⟩
end Go.Proofs.Qxb6619005a
