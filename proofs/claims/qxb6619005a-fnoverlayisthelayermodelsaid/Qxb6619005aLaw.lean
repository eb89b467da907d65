import Derived.Test.Qxb6619005aLawP
import Derived.Test.Qxb6619005aMod
import Derived.Test.Qxb6619005aFrA
import Derived.Test.Qxb6619005aEqAir
import Derived.Test.Qxb6619005aZzB
namespace Go.Proofs.Qxb6619005a
open Go.RowKit

theorem zeroL45 : (Try.prog.info? 45).map (·.size) = some 14 := by kernel_rfl
/-- The two boxes hold the arguments, and what was there is as it was. -/
structure LS (w w' : World) (A B : List Value) : Prop where
  below : Below w.heap.size w w'
  ra : w'.rangeAt w.heap.size 0 A
  rb : w'.rangeAt (w.heap.size + 1) 0 B
theorem LS.next {w w1 w2 : World} {A B : List Value} (h : LS w w1 A B) (hb : Below w1.heap.size w1 w2) : LS w w2 A B :=
  ⟨h.below.trans (hb.mono h.below.size), rangeAt_below h.ra hb (Nat.le_refl _), rangeAt_below h.rb hb (Nat.le_refl _)⟩
theorem ls_start (w : World) (A B : List Value) : LS w ((w.alloc (.cells A.toArray 33)).alloc (.cells B.toArray 33)) A B where
  below := ((Below.refl _ w).alloc (Nat.le_refl _) _).alloc (by simp) _
  ra := fun j v hv => by rw [cell_of_row _ _ _ _ _ (0, 0) ((Below.heap_alloc _ _ _ (by simp)).trans (heap_alloc_new w _))]; simpa using hv
  rb := fun j v hv => by rw [cell_of_row _ _ _ _ _ (0, 0) (heap2 w _ _)]; simpa using hv
theorem ls_cells {w w' : World} {Tl Tu : Top} {Hl Hu : Heads} {Dl Du : Option Addr} (h : LS w w' (cellsOf Tl Hl Dl) (cellsOf Tu Hu Du)) : w'.cell? ⟨w.heap.size, 0, none⟩ = some (.string Tl.i) ∧ w'.cell? ⟨w.heap.size, 1, none⟩ = some (.string Tl.nm) ∧ w'.cell? ⟨w.heap.size, 2, none⟩ = some (.float .f64 Tl.la) ∧ w'.cell? ⟨w.heap.size, 3, none⟩ = some (.float .f64 Tl.lo) ∧ w'.cell? ⟨w.heap.size, 4, none⟩ = some (.float .f64 Tl.el) ∧ w'.cell? ⟨w.heap.size, 5, none⟩ = some (.float .f32 Tl.mv) ∧ w'.cell? ⟨w.heap.size, 6, none⟩ = some (.slice Hl.r.a Hl.r.n Hl.r.c) ∧ w'.cell? ⟨w.heap.size, 7, none⟩ = some (.slice Hl.s.a Hl.s.n Hl.s.c) ∧ w'.cell? ⟨w.heap.size, 8, none⟩ = some (.slice Hl.c.a Hl.c.n Hl.c.c) ∧ w'.cell? ⟨w.heap.size, 9, none⟩ = some (.slice Hl.h.a Hl.h.n Hl.h.c) ∧ w'.cell? ⟨w.heap.size, 10, none⟩ = some (.pointer Dl) ∧ w'.cell? ⟨w.heap.size, 11, none⟩ = some (.slice Hl.p.a Hl.p.n Hl.p.c) ∧ w'.cell? ⟨w.heap.size, 12, none⟩ = some (.slice Hl.t.a Hl.t.n Hl.t.c) ∧ w'.cell? ⟨w.heap.size, 13, none⟩ = some (.slice Hl.q.a Hl.q.n Hl.q.c) ∧ w'.cell? ⟨w.heap.size + 1, 0, none⟩ = some (.string Tu.i) ∧ w'.cell? ⟨w.heap.size + 1, 1, none⟩ = some (.string Tu.nm) ∧ w'.cell? ⟨w.heap.size + 1, 2, none⟩ = some (.float .f64 Tu.la) ∧ w'.cell? ⟨w.heap.size + 1, 3, none⟩ = some (.float .f64 Tu.lo) ∧ w'.cell? ⟨w.heap.size + 1, 4, none⟩ = some (.float .f64 Tu.el) ∧ w'.cell? ⟨w.heap.size + 1, 5, none⟩ = some (.float .f32 Tu.mv) ∧ w'.cell? ⟨w.heap.size + 1, 6, none⟩ = some (.slice Hu.r.a Hu.r.n Hu.r.c) ∧ w'.cell? ⟨w.heap.size + 1, 7, none⟩ = some (.slice Hu.s.a Hu.s.n Hu.s.c) ∧ w'.cell? ⟨w.heap.size + 1, 8, none⟩ = some (.slice Hu.c.a Hu.c.n Hu.c.c) ∧ w'.cell? ⟨w.heap.size + 1, 9, none⟩ = some (.slice Hu.h.a Hu.h.n Hu.h.c) ∧ w'.cell? ⟨w.heap.size + 1, 10, none⟩ = some (.pointer Du) ∧ w'.cell? ⟨w.heap.size + 1, 11, none⟩ = some (.slice Hu.p.a Hu.p.n Hu.p.c) ∧ w'.cell? ⟨w.heap.size + 1, 12, none⟩ = some (.slice Hu.t.a Hu.t.n Hu.t.c) ∧ w'.cell? ⟨w.heap.size + 1, 13, none⟩ = some (.slice Hu.q.a Hu.q.n Hu.q.c) :=
  ⟨h.ra 0 _ rfl, h.ra 1 _ rfl, h.ra 2 _ rfl, h.ra 3 _ rfl, h.ra 4 _ rfl, h.ra 5 _ rfl, h.ra 6 _ rfl, h.ra 7 _ rfl, h.ra 8 _ rfl, h.ra 9 _ rfl, h.ra 10 _ rfl, h.ra 11 _ rfl, h.ra 12 _ rfl, h.ra 13 _ rfl, h.rb 0 _ rfl, h.rb 1 _ rfl, h.rb 2 _ rfl, h.rb 3 _ rfl, h.rb 4 _ rfl, h.rb 5 _ rfl, h.rb 6 _ rfl, h.rb 7 _ rfl, h.rb 8 _ rfl, h.rb 9 _ rfl, h.rb 10 _ rfl, h.rb 11 _ rfl, h.rb 12 _ rfl, h.rb 13 _ rfl⟩
def Both (Hl Hu : Heads) (Ll Lu : Lists) (dl du : Option DelV) : Prop := BytesOk 131072 Hl Ll dl ∧ BytesOk 131072 Hu Lu du
theorem range_new (w : World) (A : List Value) (t : TypeId) : (w.alloc (.cells A.toArray t)).rangeAt w.heap.size 0 A := fun j v hv => by
  rw [cell_of_row _ _ _ _ _ (0, 0) (heap_alloc_new w _)]; simpa using hv

set_option maxRecDepth 100000 in
set_option maxHeartbeats 8000000 in
theorem law (Tl Tu : Top) (Hl Hu : Heads) (Dl Du : Option Addr) (Ll Lu : Lists) (pl pu : List Pk) (dl du : Option DelV) (w : World) (hvl : View Rw.z 12 w Hl Ll pl) (hvu : View Rw.z 12 w Hu Lu pu) (hdl : DelIs w Dl dl) (hdu : DelIs w Du du)
    (hnl : NilFine Hl) (hnu : NilFine Hu) (hkl : NilOk w Dl) (hku : NilOk w Du) (hrg : Rg Lu) :
    Calls Try.prog 3 #[.agg (cellsOf Tl Hl Dl).toArray, .agg (cellsOf Tu Hu Du).toArray] w fun e w' => e = .returned (.bool true) ∧ Below w.heap.size w w' := by
  have HVL := hidMk hvl
  have HVU := hidMk hvu
  have HDL := hidMk hdl
  have HDU := hidMk hdu
  have HNL := hidMk hnl
  have HNU := hidMk hnu
  have HKL := hidMk hkl
  have HKU := hidMk hku
  have HRG := hidMk hrg
  clear hvl hvu hdl hdu hnl hnu hkl hku hrg
  have S0 := hidMk (ls_start w (cellsOf Tl Hl Dl) (cellsOf Tu Hu Du))
  go_enter Try.func3, Try.ntmps3
  go_wp2_with (first | (refine wpList_load_mid rfl 33 _ rfl (w.heap.size) 0 rfl _ _ S0.out.ra Try.underlying33 rfl zeroM33 ?_) | (refine wpList_load_mid rfl 33 _ rfl (w.heap.size + 1) 0 rfl _ _ S0.out.rb Try.underlying33 rfl zeroM33 ?_))
  refine (zzBytes Tl Tu Hl Hu Dl Du Ll Lu pl pu dl du _ (HVL.out.below S0.out.below) (HVU.out.below S0.out.below) (HDL.out.below S0.out.below) (HDU.out.below S0.out.below)).mono ?_
  rintro _ w1 ⟨b, rfl, hb1⟩
  have S1 := hidMk (S0.out.next hb1)
  clear hb1 S0
  cases b
  · go_wp2_with fail
    go_ret
    exact ⟨rfl, S1.out.below⟩
  go_upto_region 3 with fail
  have S2 := hidMk (S1.out.next ((Below.refl _ w1).drew))
  go_cut [16] from 12 to 15 (fun a wd => ∃ r : Nat, a = .bool (decide ((1048576 : Int) < (r : Int))) ∧ LS w wd (cellsOf Tl Hl Dl) (cellsOf Tu Hu Du) ∧ (r ≤ 1048576 → Both Hl Hu Ll Lu dl du))
  case first =>
    refine wp_region_held_drew (S := fun w' => LS w w' (cellsOf Tl Hl Dl) (cellsOf Tu Hu Du)) (by kernel_rfl) S2.out (fun _ => ?_)
    refine wpAnyH_take (i := 0) (v := .agg (cellsOf Tl Hl Dl).toArray) rfl (by kernel_rfl) (by kernel_rfl) (by kernel_rfl) (fun _ _ _ h => h) (yieldsIf_load_mid (by rfl) 33 _ rfl w.heap.size 0 rfl (cellsOf Tl Hl Dl) _ (fun _ h => h.ra) Try.underlying33 rfl zeroM33) S2.out ?_
    refine wpAnyH_take (i := 2) (v := .agg (cellsOf Tu Hu Du).toArray) rfl (by kernel_rfl) (by kernel_rfl) (by kernel_rfl) (fun _ _ _ h => h) (yieldsIf_load_mid (by rfl) 33 _ rfl (w.heap.size + 1) 0 rfl (cellsOf Tu Hu Du) _ (fun _ h => h.rb) Try.underlying33 rfl zeroM33) S2.out ?_
    refine wpAnyH_ready (rs := [1]) (by kernel_rfl) (by simp) ?_
    refine AllReadyH.cons rfl (fun K hK => ?_) AllReadyH.nil
    go_simp
    refine (airportBytes 0 Tl Hl Dl Ll pl dl _ (HVL.out.below S2.out.below) (HDL.out.below S2.out.below)).mono ?_
    rintro _ w4 ⟨r1, rfl, hb4, hr1⟩
    have S4 := hidMk (S2.out.next hb4)
    have HR1 := hidMk hr1
    clear hb4 hr1
    refine hK.out _ _ S4.out (fun _ => ?_)
    clear hK K
    refine wpAnyH_ready (rs := [3]) (by kernel_rfl) (by simp) ?_
    refine AllReadyH.cons rfl (fun K hK => ?_) AllReadyH.nil
    go_simp
    refine (airportBytes r1 Tu Hu Du Lu pu du _ (HVU.out.below S4.out.below) (HDU.out.below S4.out.below)).mono ?_
    rintro _ w5 ⟨r2, rfl, hb5, hr2⟩
    have S5 := hidMk (S4.out.next hb5)
    have HR2 := hidMk hr2
    clear hb5 hr2
    refine hK.out _ _ S5.out (fun _ => ?_)
    clear hK K
    refine wpAnyH_ready (rs := [4]) (by kernel_rfl) (by simp) ?_
    refine AllReadyH.cons rfl (fun K hK => ?_) AllReadyH.nil
    go_simp
    refine hK.out _ _ S5.out (fun _ => ?_)
    clear hK K
    refine wpAnyH_done (by kernel_rfl) ?_ _
    all_goals
      go_wp2_with fail
      go_meet
      case rel => exact ⟨r2, rfl, S5.out, fun h => ⟨(HR1.out (HR2.out h).1).2, (HR2.out h).2⟩⟩
  case rest =>
    rename World => w6
    obtain ⟨r, rfl, hS6, hB⟩ := hcut
    have S6 := hidMk hS6
    have HB := hidMk hB
    clear hS6 hB S1 S2
    rcases Nat.lt_or_ge 1048576 r with hr | hr
    · have hd : decide ((1048576 : Int) < (r : Int)) = true := by simp; omega
      go_wp2_with fail
      go_ret
      exact ⟨rfl, S6.out.below⟩
    have hd : decide ((1048576 : Int) < (r : Int)) = false := by simp; omega
    obtain ⟨hl, hu⟩ := HB.out hr
    have BL := hidMk hl
    have BU := hidMk hu
    clear hl hu HB
    go_wp2_with (first | (refine wpList_load_mid rfl 33 _ rfl (w.heap.size) 0 rfl _ _ S6.out.ra Try.underlying33 rfl zeroM33 ?_))
    refine (toAirport Tl Hl Dl Ll pl dl _ (HVL.out.below S6.out.below) (BL.out.fine HNL.out) (HDL.out.below S6.out.below) (delOk_of HDL.out HKL.out BL.out.del S6.out.below)).mono ?_
    rintro _ w7 ⟨Ha, Da, pa, rfl, hb7, ho7, hd7⟩
    have B78 := hidMk ((Below.refl w7.heap.size w7).alloc (Nat.le_refl _) (.cells (cellsOf Tl Ha Da).toArray 45))
    have S8 := hidMk ((S6.out.next hb7).next B78.out)
    have O8 := hidMk (ho7.below B78.out)
    have N8 : Hid (w6.heap.size ≤ w7.heap.size) := hidMk hb7.size
    have R8 := hidMk (range_new w7 (cellsOf Tl Ha Da) 45)
    clear hb7 ho7 hd7 B78
    go_wp2_with (first | (refine wpList_store_new rfl 45 _ _ rfl _ _ _ rfl _ rfl (by simp) rfl zeroL45 rfl rfl ?_) | (refine wpList_load_mid rfl 33 _ rfl (w.heap.size + 1) 0 rfl _ _ S8.out.rb Try.underlying33 rfl zeroM33 ?_))
    obtain ⟨w8, hw8⟩ : ∃ w8, w8 = w7.alloc (.cells (cellsOf Tl Ha Da).toArray 45) := ⟨_, rfl⟩
    have N78 : w7.heap.size < w8.heap.size := by rw [hw8]; simp
    rw [← hw8] at S8 O8 R8 ⊢
    clear hw8
    refine (toAirport Tu Hu Du Lu pu du _ (HVU.out.below S8.out.below) (BU.out.fine HNU.out) (HDU.out.below S8.out.below) (delOk_of HDU.out HKU.out BU.out.del S8.out.below)).mono ?_
    rintro _ w9 ⟨Hb, Db, pb, rfl, hb9, ho9, hd9⟩
    have B9 := hidMk ((Below.refl w9.heap.size w9).alloc (Nat.le_refl _) (.cells (cellsOf Tu Hb Db).toArray 45))
    have S10 := hidMk ((S8.out.next hb9).next B9.out)
    have O10 := hidMk ((O8.out.below hb9).below B9.out)
    have U10 := hidMk (ho9.below B9.out)
    have D10 := hidMk (hd9.below B9.out)
    have Q10 := hidMk (rangeAt_below (rangeAt_below R8.out hb9 (Nat.le_refl _)) B9.out (Nat.le_refl _))
    have R10 := hidMk (range_new w9 (cellsOf Tu Hb Db) 45)
    have N89 : Hid (w6.heap.size ≤ (w9.alloc (.cells (cellsOf Tu Hb Db).toArray 45)).heap.size) := hidMk (by have := N8.out; have := hb9.size; have := B9.out.size; omega)
    clear hb9 ho9 hd9 B9 O8 R8 S6 S8 N8 N78
    go_wp2_with (first | (refine wpList_store_new rfl 45 _ _ rfl _ _ _ rfl _ rfl (by simp) rfl zeroL45 rfl rfl ?_) | (refine wpList_load_mid rfl 45 _ rfl (w7.heap.size) 0 rfl _ _ Q10.out Try.underlying45 rfl zeroL45 ?_) | (refine wpList_load_mid rfl 45 _ rfl (w9.heap.size) 0 rfl _ _ R10.out Try.underlying45 rfl zeroL45 ?_))
    refine (overlay Tl Tu Ha Hb Da Db Ll Lu pa pb du _ w6.heap.size O10.out N89.out (lens_same HVL.out O10.out.view BL.out.lens) U10.out.view (lens_same HVU.out U10.out.view BU.out.lens) U10.out.view.nils U10.out.caps HRG.out D10.out BU.out.del).mono ?_
    rintro _ w11 ⟨Hc, pc, rfl, hb11, hv11⟩
    have S11 := hidMk (S10.out.next hb11)
    have V11 := hidMk hv11
    have D11 := hidMk (D10.out.below hb11)
    have LO : Hid (LayOk (lay Ll Lu du)) := hidMk (layOk HVL.out HVU.out BL.out BU.out)
    clear hb11 hv11 S10 O10 U10 D10 Q10 R10 N89
    go_wp2_with fail
    refine (fromAirport Tu Hc Db (lay Ll Lu du) pc du _ V11.out (LO.out.heads V11.out) LO.out.x D11.out BU.out.del).mono ?_
    rintro _ w12 ⟨He, De, pe, rfl, hb12, hv12, hd12⟩
    have B12 := hidMk ((Below.refl w12.heap.size w12).alloc (Nat.le_refl _) (.cells (cellsOf Tu He De).toArray 33))
    have S13 := hidMk ((S11.out.next hb12).next B12.out)
    have V13 := hidMk (hv12.below B12.out)
    have D13 := hidMk (hd12.below B12.out)
    have R13 := hidMk (range_new w12 (cellsOf Tu He De) 33)
    clear hb12 hv12 hd12 B12 S11 V11 D11
    go_upto_region 8 with (first | (refine wpList_store_new rfl 33 _ _ rfl _ _ _ rfl _ rfl (by simp) rfl zeroM33 rfl rfl ?_))
    obtain ⟨w13, hw13⟩ : ∃ w13, w13 = w12.alloc (.cells (cellsOf Tu He De).toArray 33) := ⟨_, rfl⟩
    rw [← hw13] at S13 V13 D13 R13 ⊢
    clear hw13
    have BD := hidMk ((Below.refl w13.heap.size w13).drew)
    have S14 := hidMk (S13.out.next BD.out)
    have V14 := hidMk (V13.out.below BD.out)
    have D14 := hidMk (D13.out.below BD.out)
    have R14 := hidMk (rangeAt_below R13.out BD.out (Nat.le_refl _))
    clear S13 V13 D13 R13 BD
    refine wp_region_held_drew (S := fun w' => LS w w' (cellsOf Tl Hl Dl) (cellsOf Tu Hu Du) ∧ w'.rangeAt w12.heap.size 0 (cellsOf Tu He De)) (by kernel_rfl) ⟨S14.out, R14.out⟩ (fun _ => ?_)
    refine wpAnyH_take (i := 0) (v := .agg (cellsOf Tu He De).toArray) rfl (by kernel_rfl) (by kernel_rfl) (by kernel_rfl) (fun _ _ _ h => h) (yieldsIf_load_mid (by rfl) 33 _ rfl w12.heap.size 0 rfl (cellsOf Tu He De) _ (fun _ h => h.2) Try.underlying33 rfl zeroM33) ⟨S14.out, R14.out⟩ ?_
    refine wpAnyH_take (i := 1) (v := .agg (cellsOf Tl Hl Dl).toArray) rfl (by kernel_rfl) (by kernel_rfl) (by kernel_rfl) (fun _ _ _ h => h) (yieldsIf_load_mid (by rfl) 33 _ rfl w.heap.size 0 rfl (cellsOf Tl Hl Dl) _ (fun _ h => h.1.ra) Try.underlying33 rfl zeroM33) ⟨S14.out, R14.out⟩ ?_
    refine wpAnyH_take (i := 2) (v := .agg (cellsOf Tu Hu Du).toArray) rfl (by kernel_rfl) (by kernel_rfl) (by kernel_rfl) (fun _ _ _ h => h) (yieldsIf_load_mid (by rfl) 33 _ rfl (w.heap.size + 1) 0 rfl (cellsOf Tu Hu Du) _ (fun _ h => h.1.rb) Try.underlying33 rfl zeroM33) ⟨S14.out, R14.out⟩ ?_
    refine wpAnyH_ready (rs := [3]) (by kernel_rfl) (by simp) ?_
    refine AllReadyH.cons rfl (fun K hK => ?_) AllReadyH.nil
    go_simp
    refine (modelOverlay Tl Tu Hl Hu Dl Du Ll Lu pl pu du _ (HVL.out.below S14.out.below) BL.out.lens (HVU.out.below S14.out.below) BU.out.lens (HDU.out.below S14.out.below) BU.out.del).mono ?_
    rintro _ w15 ⟨Hm, pm, rfl, hb15, hv15⟩
    have S15 := hidMk (S14.out.next hb15)
    have R15 := hidMk (rangeAt_below R14.out hb15 (Nat.le_refl _))
    have V15 := hidMk (V14.out.below hb15)
    have D15 := hidMk (D14.out.below hb15)
    have M15 := hidMk hv15
    clear hb15 hv15 S14 V14 D14 R14
    refine hK.out _ _ ⟨S15.out, R15.out⟩ (fun _ => ?_)
    clear hK K
    refine wpAnyH_ready (rs := [4]) (by kernel_rfl) (by simp) ?_
    refine AllReadyH.cons rfl (fun K hK => ?_) AllReadyH.nil
    go_simp
    refine (eqAirport_any Tu He Hm De Du (lay Ll Lu du) pe pm du _ V15.out M15.out LO.out.m LO.out.x D15.out (HDU.out.below S15.out.below) BU.out.del).mono ?_
    rintro _ w16 ⟨rfl, hb16⟩
    have S16 := hidMk (S15.out.next hb16)
    have R16 := hidMk (rangeAt_below R15.out hb16 (Nat.le_refl _))
    clear hb16
    refine hK.out _ _ ⟨S16.out, R16.out⟩ (fun _ => ?_)
    clear hK K
    refine wpAnyH_ready (rs := [5]) (by kernel_rfl) (by simp) ?_
    refine AllReadyH.cons rfl (fun K hK => ?_) AllReadyH.nil
    go_simp
    refine hK.out _ _ ⟨S16.out, R16.out⟩ (fun _ => ?_)
    clear hK K
    refine wpAnyH_done (by kernel_rfl) ?_ _
    go_wp2_with fail
    go_ret
    exact ⟨rfl, S16.out.below⟩
end Go.Proofs.Qxb6619005a
