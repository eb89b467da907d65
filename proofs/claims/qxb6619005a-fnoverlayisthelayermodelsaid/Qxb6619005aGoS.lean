import Derived.Test.Qxb6619005aLeaf
namespace Go.Proofs.Qxb6619005a
open Go.RowKit

/-- Does the item go: the flag, or a record that names it. -/
def gone (f m : Int) (hit : Bool) : Bool := (bits .and .u16 f m != 0) || hit

theorem any_hit {α : Type} (p : α → Bool) {ds : List α} {k : Nat} {x : α} (h : ds[k]? = some x) (hp : p x = true) : ds.any p = true := by
  rw [List.any_eq_true]; exact ⟨x, List.mem_of_getElem? h, hp⟩
theorem any_miss {α : Type} (p : α → Bool) (ds : List α) (h : ∀ j d, j < ds.length → ds[j]? = some d → p d = false) : ds.any p = false := by
  rw [List.any_eq_false]
  intro d hd
  obtain ⟨j, hj⟩ := List.getElem?_of_mem hd
  rw [h j d (List.getElem?_eq_some_iff.1 hj).1 hj]; simp
theorem miss_step {α : Type} (p : α → Bool) {ds : List α} {k : Nat} {x : α} (h : ∀ j d, j < k → ds[j]? = some d → p d = false) (hx : ds[k]? = some x) (hp : p x = false) : ∀ j d, j < k + 1 → ds[j]? = some d → p d = false := fun j d hj hd => by
  by_cases e : j = k
  · subst e; rw [hx] at hd; cases hd; exact hp
  · exact h j d (by omega) hd

theorem startGoes_none (x : St) (w : World) : Calls Try.prog 37 #[.pointer none, .agg x.z.toArray] w fun e w' => e = .returned (.bool false) ∧ Below w.heap.size w w' := by
  obtain ⟨s1, s2, s3, s4, s5, s6, s7⟩ := x
  simp only [St.z]
  go_enter Try.func37, Try.ntmps37
  go_wp2_with fail
  go_ret
  exact ⟨rfl, (Below.refl _ w).alloc (Nat.le_refl _) _⟩

set_option maxRecDepth 100000 in
set_option maxHeartbeats 4000000 in
theorem startGoes_some (B bo : Nat) (f : Int) (a : Option Addr) (n q : Nat) (ds : List Sd) (x : St) (w : World) (hn : ds.length = n) (hm : n ≤ 1048576) (hf : w.cell? ⟨B, bo, none⟩ = some (.int .u16 f)) (hs : w.cell? ⟨B, bo + 2, none⟩ = some (.slice a n q)) (h0 : ARow Sd.z 3 w a ds) :
    Calls Try.prog 37 #[.pointer (some ⟨B, bo, none⟩), .agg x.z.toArray] w fun e w' => e = .returned (.bool (gone f 64 (ds.any (·.hits x)))) ∧ Below w.heap.size w w' := by
  have H0 := hidMk h0
  have HS := hidMk hs
  have hB := World.block_lt_of_cell? _ _ hf
  clear h0 hs
  obtain ⟨x', hx'⟩ : ∃ x', x' = x := ⟨_, rfl⟩
  rw [← hx']
  have HX := hidMk hx'
  clear hx'
  obtain ⟨s1, s2, s3, s4, s5, s6, s7⟩ := x
  have hxz : Value.agg x'.z.toArray = .agg #[.int .u8 s1, .int .u8 s2, .int .u8 s3, .float .f64 s4, .float .f64 s5, .float .f64 s6, .float .f32 s7] := by rw [HX.out]; rfl
  rw [hxz]
  clear hxz
  have hb0 : Below w.heap.size w (w.alloc (.cells #[.int .u8 s1, .int .u8 s2, .int .u8 s3, .float .f64 s4, .float .f64 s5, .float .f64 s6, .float .f32 s7] 84)) := (Below.refl _ w).alloc (Nat.le_refl _) _
  have hf2 := (hb0.cell (p := ⟨B, bo, none⟩) hB).trans hf
  have HB0 := hidMk hb0
  clear hb0
  by_cases hk : (bits .and .u16 f 64 != 0) = true
  · have HK := hidMk hk
    clear hk
    go_enter Try.func37, Try.ntmps37
    go_wp2_with fail
    refine (kindGoes_some B bo f 64 _ hf2).mono ?_
    rw [HK.out]
    rintro e wx ⟨rfl, hwx⟩
    have hwx2 := hwx.symm
    subst hwx2
    clear hwx
    go_wp2_with fail
    go_ret
    exact ⟨by simp only [gone, HK.out]; rfl, HB0.out⟩
  · have HK := hidMk (Bool.eq_false_iff.2 hk)
    clear hk
    go_enter Try.func37, Try.ntmps37
    go_wp2_with fail
    refine (kindGoes_some B bo f 64 _ hf2).mono ?_
    rw [HK.out]
    rintro e wx ⟨rfl, hwx⟩
    have hwx2 := hwx.symm
    subst hwx2
    clear hwx
    go_wp2_with fail
    go_loopw [5] (fun i wr => ∃ k : Nat, i = .int .i64 k ∧ k ≤ n ∧ Below (w.heap.size + 1) (w.alloc (.cells #[.int .u8 s1, .int .u8 s2, .int .u8 s3, .float .f64 s4, .float .f64 s5, .float .f64 s6, .float .f32 s7] 84)) wr ∧ Hid (∀ j d, j < k → ds[j]? = some d → d.hits x' = false)) (fun i _ => n - (intOf i).toNat)
    case atStart => exact ⟨0, rfl, by omega, Below.refl _ _, hidMk (fun j d hj => by omega)⟩
    case round =>
      obtain ⟨k, rfl, hk, hb, HN⟩ := hrel
      have hs2 : wr.cell? ⟨B, bo + 2, none⟩ = some (.slice a n q) := (hb.cell (p := ⟨B, bo + 2, none⟩) (by show B < _; omega)).trans ((HB0.out.cell (p := ⟨B, bo + 2, none⟩) hB).trans HS.out)
      have hbs : w.heap.size < wr.heap.size := by have := hb.size; simp at this; omega
      have e0 : wr.cell? ⟨w.heap.size, 0, none⟩ = some (.int .u8 s1) := (hb.cell (p := ⟨w.heap.size, 0, none⟩) (by show w.heap.size < _; omega)).trans ((cell_of_row _ w.heap.size 0 _ _ (0, 0) (heap_alloc_new w _)).trans rfl)
      have e1 : wr.cell? ⟨w.heap.size, 1, none⟩ = some (.int .u8 s2) := (hb.cell (p := ⟨w.heap.size, 1, none⟩) (by show w.heap.size < _; omega)).trans ((cell_of_row _ w.heap.size 1 _ _ (0, 0) (heap_alloc_new w _)).trans rfl)
      have e2 : wr.cell? ⟨w.heap.size, 2, none⟩ = some (.int .u8 s3) := (hb.cell (p := ⟨w.heap.size, 2, none⟩) (by show w.heap.size < _; omega)).trans ((cell_of_row _ w.heap.size 2 _ _ (0, 0) (heap_alloc_new w _)).trans rfl)
      have e3 : wr.cell? ⟨w.heap.size, 3, none⟩ = some (.float .f64 s4) := (hb.cell (p := ⟨w.heap.size, 3, none⟩) (by show w.heap.size < _; omega)).trans ((cell_of_row _ w.heap.size 3 _ _ (0, 0) (heap_alloc_new w _)).trans rfl)
      have e4 : wr.cell? ⟨w.heap.size, 4, none⟩ = some (.float .f64 s5) := (hb.cell (p := ⟨w.heap.size, 4, none⟩) (by show w.heap.size < _; omega)).trans ((cell_of_row _ w.heap.size 4 _ _ (0, 0) (heap_alloc_new w _)).trans rfl)
      have e5 : wr.cell? ⟨w.heap.size, 5, none⟩ = some (.float .f64 s6) := (hb.cell (p := ⟨w.heap.size, 5, none⟩) (by show w.heap.size < _; omega)).trans ((cell_of_row _ w.heap.size 5 _ _ (0, 0) (heap_alloc_new w _)).trans rfl)
      have e6 : wr.cell? ⟨w.heap.size, 6, none⟩ = some (.float .f32 s7) := (hb.cell (p := ⟨w.heap.size, 6, none⟩) (by show w.heap.size < _; omega)).trans ((cell_of_row _ w.heap.size 6 _ _ (0, 0) (heap_alloc_new w _)).trans rfl)
      by_cases hlt : k < n
      · have k0 : (0 : Int) ≤ (k : Int) := by omega
        have k1 : (k : Int) < (n : Int) := by omega
        obtain ⟨b0, o0, ha0, hc0⟩ := H0.out (by omega)
        obtain ⟨x, hx⟩ : ∃ x, ds[k]? = some x := ⟨ds[k]'(by omega), by simp⟩
        have R0 := hidMk (rangeAt_below (rangeAt_below (hc0 k x hx) HB0.out (Nat.le_refl _)) hb (by simp))
        have HB := hidMk hb
        have HX2 := hidMk hx
        clear hc0 hx hb
        subst ha0
        obtain ⟨d1, d2, d3⟩ := x
        simp only [Sd.z] at R0
        by_cases hh : (Sd.hits ⟨d1, d2, d3⟩ x') = true
        · have HH := hh
          rw [HX.out] at HH
          have HG := hidMk hh
          clear hh
          simp only [Sd.hits, decide_eq_true_eq] at HH
          obtain ⟨rfl, rfl, rfl⟩ := HH
          go_wp2_with (first | (refine wpList_load_mid rfl 108 _ rfl b0 (o0 + k * 3) rfl _ _ R0.out Try.underlying108 rfl info108 ?_) | (refine wpList_store_new rfl 108 _ _ rfl _ _ _ rfl _ rfl (by simp) rfl info108 rfl rfl ?_))
          go_ret
          refine ⟨?_, (HB0.out.trans ((HB.out.alloc (by omega) _).mono (by omega)))⟩
          rw [any_hit (·.hits x') HX2.out HG.out]
          simp [gone]
        · have HG := hidMk (Bool.eq_false_iff.2 hh)
          clear hh
          go_wp2_with (first | (refine wpList_load_mid rfl 108 _ rfl b0 (o0 + k * 3) rfl _ _ R0.out Try.underlying108 rfl info108 ?_) | (refine wpList_store_new rfl 108 _ _ rfl _ _ _ rfl _ rfl (by simp) rfl info108 rfl rfl ?_))
          all_goals first
            | exact ⟨⟨k + 1, by go_num, by omega, HB.out.alloc (by omega) _, hidMk (miss_step (·.hits x') HN.out HX2.out HG.out)⟩, by simp [intOf]; omega⟩
            | (exfalso
               have h := HG.out
               rw [HX.out] at h
               simp [Sd.hits] at h
               try (simp_all; done))
      · have hkn : k = n := by omega
        subst hkn
        have HB := hidMk hb
        clear hb
        go_wp2_with fail
        go_ret
        refine ⟨?_, (HB0.out.trans (HB.out.mono (by omega)))⟩
        rw [any_miss (·.hits x') ds (fun j d hj => HN.out j d (by omega))]
        simp [gone, HK.out]

theorem comGoes_none (x : Cm) (w : World) : Calls Try.prog 38 #[.pointer none, .agg x.z.toArray] w fun e w' => e = .returned (.bool false) ∧ Below w.heap.size w w' := by
  obtain ⟨s1, s2, s3⟩ := x
  simp only [Cm.z]
  go_enter Try.func38, Try.ntmps38
  go_wp2_with fail
  go_ret
  exact ⟨rfl, (Below.refl _ w).alloc (Nat.le_refl _) _⟩

set_option maxRecDepth 100000 in
set_option maxHeartbeats 4000000 in
theorem comGoes_some (B bo : Nat) (f : Int) (a : Option Addr) (n q : Nat) (ds : List Fd) (x : Cm) (w : World) (hn : ds.length = n) (hm : n ≤ 1048576) (hf : w.cell? ⟨B, bo, none⟩ = some (.int .u16 f)) (hs : w.cell? ⟨B, bo + 3, none⟩ = some (.slice a n q)) (h0 : ARow Fd.z 2 w a ds) :
    Calls Try.prog 38 #[.pointer (some ⟨B, bo, none⟩), .agg x.z.toArray] w fun e w' => e = .returned (.bool (gone f 8 (ds.any (·.hits x)))) ∧ Below w.heap.size w w' := by
  have H0 := hidMk h0
  have HS := hidMk hs
  have hB := World.block_lt_of_cell? _ _ hf
  clear h0 hs
  obtain ⟨x', hx'⟩ : ∃ x', x' = x := ⟨_, rfl⟩
  rw [← hx']
  have HX := hidMk hx'
  clear hx'
  obtain ⟨s1, s2, s3⟩ := x
  have hxz : Value.agg x'.z.toArray = .agg #[.int .u16 s1, .int .u32 s2, .string s3] := by rw [HX.out]; rfl
  rw [hxz]
  clear hxz
  have hb0 : Below w.heap.size w (w.alloc (.cells #[.int .u16 s1, .int .u32 s2, .string s3] 53)) := (Below.refl _ w).alloc (Nat.le_refl _) _
  have hf2 := (hb0.cell (p := ⟨B, bo, none⟩) hB).trans hf
  have HB0 := hidMk hb0
  clear hb0
  by_cases hk : (bits .and .u16 f 8 != 0) = true
  · have HK := hidMk hk
    clear hk
    go_enter Try.func38, Try.ntmps38
    go_wp2_with fail
    refine (kindGoes_some B bo f 8 _ hf2).mono ?_
    rw [HK.out]
    rintro e wx ⟨rfl, hwx⟩
    have hwx2 := hwx.symm
    subst hwx2
    clear hwx
    go_wp2_with fail
    go_ret
    exact ⟨by simp only [gone, HK.out]; rfl, HB0.out⟩
  · have HK := hidMk (Bool.eq_false_iff.2 hk)
    clear hk
    go_enter Try.func38, Try.ntmps38
    go_wp2_with fail
    refine (kindGoes_some B bo f 8 _ hf2).mono ?_
    rw [HK.out]
    rintro e wx ⟨rfl, hwx⟩
    have hwx2 := hwx.symm
    subst hwx2
    clear hwx
    go_wp2_with fail
    go_loopw [5] (fun i wr => ∃ k : Nat, i = .int .i64 k ∧ k ≤ n ∧ Below (w.heap.size + 1) (w.alloc (.cells #[.int .u16 s1, .int .u32 s2, .string s3] 53)) wr ∧ Hid (∀ j d, j < k → ds[j]? = some d → d.hits x' = false)) (fun i _ => n - (intOf i).toNat)
    case atStart => exact ⟨0, rfl, by omega, Below.refl _ _, hidMk (fun j d hj => by omega)⟩
    case round =>
      obtain ⟨k, rfl, hk, hb, HN⟩ := hrel
      have hs2 : wr.cell? ⟨B, bo + 3, none⟩ = some (.slice a n q) := (hb.cell (p := ⟨B, bo + 3, none⟩) (by show B < _; omega)).trans ((HB0.out.cell (p := ⟨B, bo + 3, none⟩) hB).trans HS.out)
      have hbs : w.heap.size < wr.heap.size := by have := hb.size; simp at this; omega
      have e0 : wr.cell? ⟨w.heap.size, 0, none⟩ = some (.int .u16 s1) := (hb.cell (p := ⟨w.heap.size, 0, none⟩) (by show w.heap.size < _; omega)).trans ((cell_of_row _ w.heap.size 0 _ _ (0, 0) (heap_alloc_new w _)).trans rfl)
      have e1 : wr.cell? ⟨w.heap.size, 1, none⟩ = some (.int .u32 s2) := (hb.cell (p := ⟨w.heap.size, 1, none⟩) (by show w.heap.size < _; omega)).trans ((cell_of_row _ w.heap.size 1 _ _ (0, 0) (heap_alloc_new w _)).trans rfl)
      have e2 : wr.cell? ⟨w.heap.size, 2, none⟩ = some (.string s3) := (hb.cell (p := ⟨w.heap.size, 2, none⟩) (by show w.heap.size < _; omega)).trans ((cell_of_row _ w.heap.size 2 _ _ (0, 0) (heap_alloc_new w _)).trans rfl)
      by_cases hlt : k < n
      · have k0 : (0 : Int) ≤ (k : Int) := by omega
        have k1 : (k : Int) < (n : Int) := by omega
        obtain ⟨b0, o0, ha0, hc0⟩ := H0.out (by omega)
        obtain ⟨x, hx⟩ : ∃ x, ds[k]? = some x := ⟨ds[k]'(by omega), by simp⟩
        have R0 := hidMk (rangeAt_below (rangeAt_below (hc0 k x hx) HB0.out (Nat.le_refl _)) hb (by simp))
        have HB := hidMk hb
        have HX2 := hidMk hx
        clear hc0 hx hb
        subst ha0
        obtain ⟨d1, d2⟩ := x
        simp only [Fd.z] at R0
        by_cases hh : (Fd.hits ⟨d1, d2⟩ x') = true
        · have HH := hh
          rw [HX.out] at HH
          have HG := hidMk hh
          clear hh
          simp only [Fd.hits, decide_eq_true_eq] at HH
          obtain ⟨rfl, rfl⟩ := HH
          go_wp2_with (first | (refine wpList_load_mid rfl 112 _ rfl b0 (o0 + k * 2) rfl _ _ R0.out Try.underlying112 rfl info112 ?_) | (refine wpList_store_new rfl 112 _ _ rfl _ _ _ rfl _ rfl (by simp) rfl info112 rfl rfl ?_))
          go_ret
          refine ⟨?_, (HB0.out.trans ((HB.out.alloc (by omega) _).mono (by omega)))⟩
          rw [any_hit (·.hits x') HX2.out HG.out]
          simp [gone]
        · have HG := hidMk (Bool.eq_false_iff.2 hh)
          clear hh
          go_wp2_with (first | (refine wpList_load_mid rfl 112 _ rfl b0 (o0 + k * 2) rfl _ _ R0.out Try.underlying112 rfl info112 ?_) | (refine wpList_store_new rfl 112 _ _ rfl _ _ _ rfl _ rfl (by simp) rfl info112 rfl rfl ?_))
          all_goals first
            | exact ⟨⟨k + 1, by go_num, by omega, HB.out.alloc (by omega) _, hidMk (miss_step (·.hits x') HN.out HX2.out HG.out)⟩, by simp [intOf]; omega⟩
            | (exfalso
               have h := HG.out
               rw [HX.out] at h
               simp [Fd.hits] at h
               try (simp_all; done))
      · have hkn : k = n := by omega
        subst hkn
        have HB := hidMk hb
        clear hb
        go_wp2_with fail
        go_ret
        refine ⟨?_, (HB0.out.trans (HB.out.mono (by omega)))⟩
        rw [any_miss (·.hits x') ds (fun j d hj => HN.out j d (by omega))]
        simp [gone, HK.out]

theorem runwayGoes_none (x : Rw) (w : World) : Calls Try.prog 36 #[.pointer none, .agg x.z.toArray] w fun e w' => e = .returned (.bool false) ∧ Below w.heap.size w w' := by
  obtain ⟨s1, s2, s3, s4, s5, s6, s7, s8, s9, s10, s11, s12⟩ := x
  simp only [Rw.z]
  go_enter Try.func36, Try.ntmps36
  go_wp2_with fail
  go_ret
  exact ⟨rfl, (Below.refl _ w).alloc (Nat.le_refl _) _⟩

set_option maxRecDepth 100000 in
set_option maxHeartbeats 4000000 in
theorem runwayGoes_some (B bo : Nat) (f : Int) (a : Option Addr) (n q : Nat) (ds : List Rd) (x : Rw) (w : World) (hn : ds.length = n) (hm : n ≤ 1048576) (hf : w.cell? ⟨B, bo, none⟩ = some (.int .u16 f)) (hs : w.cell? ⟨B, bo + 1, none⟩ = some (.slice a n q)) (h0 : ARow Rd.z 5 w a ds) :
    Calls Try.prog 36 #[.pointer (some ⟨B, bo, none⟩), .agg x.z.toArray] w fun e w' => e = .returned (.bool (gone f 32 (ds.any (·.hits x)))) ∧ Below w.heap.size w w' := by
  have H0 := hidMk h0
  have HS := hidMk hs
  have hB := World.block_lt_of_cell? _ _ hf
  clear h0 hs
  obtain ⟨x', hx'⟩ : ∃ x', x' = x := ⟨_, rfl⟩
  rw [← hx']
  have HX := hidMk hx'
  clear hx'
  obtain ⟨s1, s2, s3, s4, s5, s6, s7, s8, s9, s10, s11, s12⟩ := x
  have hxz : Value.agg x'.z.toArray = .agg #[.int .u8 s1, .int .u8 s2, .int .u8 s3, .int .u8 s4, .int .u16 s5, .float .f64 s6, .float .f64 s7, .float .f64 s8, .float .f32 s9, .float .f32 s10, .float .f32 s11, .float .f32 s12] := by rw [HX.out]; rfl
  rw [hxz]
  clear hxz
  have hb0 : Below w.heap.size w (w.alloc (.cells #[.int .u8 s1, .int .u8 s2, .int .u8 s3, .int .u8 s4, .int .u16 s5, .float .f64 s6, .float .f64 s7, .float .f64 s8, .float .f32 s9, .float .f32 s10, .float .f32 s11, .float .f32 s12] 68)) := (Below.refl _ w).alloc (Nat.le_refl _) _
  have hf2 := (hb0.cell (p := ⟨B, bo, none⟩) hB).trans hf
  have HB0 := hidMk hb0
  clear hb0
  by_cases hk : (bits .and .u16 f 32 != 0) = true
  · have HK := hidMk hk
    clear hk
    go_enter Try.func36, Try.ntmps36
    go_wp2_with fail
    refine (kindGoes_some B bo f 32 _ hf2).mono ?_
    rw [HK.out]
    rintro e wx ⟨rfl, hwx⟩
    have hwx2 := hwx.symm
    subst hwx2
    clear hwx
    go_wp2_with fail
    go_ret
    exact ⟨by simp only [gone, HK.out]; rfl, HB0.out⟩
  · have HK := hidMk (Bool.eq_false_iff.2 hk)
    clear hk
    go_enter Try.func36, Try.ntmps36
    go_wp2_with fail
    refine (kindGoes_some B bo f 32 _ hf2).mono ?_
    rw [HK.out]
    rintro e wx ⟨rfl, hwx⟩
    have hwx2 := hwx.symm
    subst hwx2
    clear hwx
    go_wp2_with fail
    go_loopw [5] (fun i wr => ∃ k : Nat, i = .int .i64 k ∧ k ≤ n ∧ Below (w.heap.size + 1) (w.alloc (.cells #[.int .u8 s1, .int .u8 s2, .int .u8 s3, .int .u8 s4, .int .u16 s5, .float .f64 s6, .float .f64 s7, .float .f64 s8, .float .f32 s9, .float .f32 s10, .float .f32 s11, .float .f32 s12] 68)) wr ∧ Hid (∀ j d, j < k → ds[j]? = some d → d.hits x' = false)) (fun i _ => n - (intOf i).toNat)
    case atStart => exact ⟨0, rfl, by omega, Below.refl _ _, hidMk (fun j d hj => by omega)⟩
    case round =>
      obtain ⟨k, rfl, hk, hb, HN⟩ := hrel
      have hs2 : wr.cell? ⟨B, bo + 1, none⟩ = some (.slice a n q) := (hb.cell (p := ⟨B, bo + 1, none⟩) (by show B < _; omega)).trans ((HB0.out.cell (p := ⟨B, bo + 1, none⟩) hB).trans HS.out)
      have hbs : w.heap.size < wr.heap.size := by have := hb.size; simp at this; omega
      have e0 : wr.cell? ⟨w.heap.size, 0, none⟩ = some (.int .u8 s1) := (hb.cell (p := ⟨w.heap.size, 0, none⟩) (by show w.heap.size < _; omega)).trans ((cell_of_row _ w.heap.size 0 _ _ (0, 0) (heap_alloc_new w _)).trans rfl)
      have e1 : wr.cell? ⟨w.heap.size, 1, none⟩ = some (.int .u8 s2) := (hb.cell (p := ⟨w.heap.size, 1, none⟩) (by show w.heap.size < _; omega)).trans ((cell_of_row _ w.heap.size 1 _ _ (0, 0) (heap_alloc_new w _)).trans rfl)
      have e2 : wr.cell? ⟨w.heap.size, 2, none⟩ = some (.int .u8 s3) := (hb.cell (p := ⟨w.heap.size, 2, none⟩) (by show w.heap.size < _; omega)).trans ((cell_of_row _ w.heap.size 2 _ _ (0, 0) (heap_alloc_new w _)).trans rfl)
      have e3 : wr.cell? ⟨w.heap.size, 3, none⟩ = some (.int .u8 s4) := (hb.cell (p := ⟨w.heap.size, 3, none⟩) (by show w.heap.size < _; omega)).trans ((cell_of_row _ w.heap.size 3 _ _ (0, 0) (heap_alloc_new w _)).trans rfl)
      have e4 : wr.cell? ⟨w.heap.size, 4, none⟩ = some (.int .u16 s5) := (hb.cell (p := ⟨w.heap.size, 4, none⟩) (by show w.heap.size < _; omega)).trans ((cell_of_row _ w.heap.size 4 _ _ (0, 0) (heap_alloc_new w _)).trans rfl)
      have e5 : wr.cell? ⟨w.heap.size, 5, none⟩ = some (.float .f64 s6) := (hb.cell (p := ⟨w.heap.size, 5, none⟩) (by show w.heap.size < _; omega)).trans ((cell_of_row _ w.heap.size 5 _ _ (0, 0) (heap_alloc_new w _)).trans rfl)
      have e6 : wr.cell? ⟨w.heap.size, 6, none⟩ = some (.float .f64 s7) := (hb.cell (p := ⟨w.heap.size, 6, none⟩) (by show w.heap.size < _; omega)).trans ((cell_of_row _ w.heap.size 6 _ _ (0, 0) (heap_alloc_new w _)).trans rfl)
      have e7 : wr.cell? ⟨w.heap.size, 7, none⟩ = some (.float .f64 s8) := (hb.cell (p := ⟨w.heap.size, 7, none⟩) (by show w.heap.size < _; omega)).trans ((cell_of_row _ w.heap.size 7 _ _ (0, 0) (heap_alloc_new w _)).trans rfl)
      have e8 : wr.cell? ⟨w.heap.size, 8, none⟩ = some (.float .f32 s9) := (hb.cell (p := ⟨w.heap.size, 8, none⟩) (by show w.heap.size < _; omega)).trans ((cell_of_row _ w.heap.size 8 _ _ (0, 0) (heap_alloc_new w _)).trans rfl)
      have e9 : wr.cell? ⟨w.heap.size, 9, none⟩ = some (.float .f32 s10) := (hb.cell (p := ⟨w.heap.size, 9, none⟩) (by show w.heap.size < _; omega)).trans ((cell_of_row _ w.heap.size 9 _ _ (0, 0) (heap_alloc_new w _)).trans rfl)
      have e10 : wr.cell? ⟨w.heap.size, 10, none⟩ = some (.float .f32 s11) := (hb.cell (p := ⟨w.heap.size, 10, none⟩) (by show w.heap.size < _; omega)).trans ((cell_of_row _ w.heap.size 10 _ _ (0, 0) (heap_alloc_new w _)).trans rfl)
      have e11 : wr.cell? ⟨w.heap.size, 11, none⟩ = some (.float .f32 s12) := (hb.cell (p := ⟨w.heap.size, 11, none⟩) (by show w.heap.size < _; omega)).trans ((cell_of_row _ w.heap.size 11 _ _ (0, 0) (heap_alloc_new w _)).trans rfl)
      by_cases hlt : k < n
      · have k0 : (0 : Int) ≤ (k : Int) := by omega
        have k1 : (k : Int) < (n : Int) := by omega
        obtain ⟨b0, o0, ha0, hc0⟩ := H0.out (by omega)
        obtain ⟨x, hx⟩ : ∃ x, ds[k]? = some x := ⟨ds[k]'(by omega), by simp⟩
        have R0 := hidMk (rangeAt_below (rangeAt_below (hc0 k x hx) HB0.out (Nat.le_refl _)) hb (by simp))
        have HB := hidMk hb
        have HX2 := hidMk hx
        clear hc0 hx hb
        subst ha0
        obtain ⟨d1, d2, d3, d4, d5⟩ := x
        simp only [Rd.z] at R0
        by_cases hh : (Rd.hits ⟨d1, d2, d3, d4, d5⟩ x') = true
        · have HH := hh
          rw [HX.out] at HH
          have HG := hidMk hh
          clear hh
          simp only [Rd.hits, decide_eq_true_eq] at HH
          obtain ⟨rfl, ⟨rfl, rfl⟩, rfl, rfl⟩ := HH
          go_wp2_with (first | (refine wpList_load_mid rfl 104 _ rfl b0 (o0 + k * 5) rfl _ _ R0.out Try.underlying104 rfl info104 ?_) | (refine wpList_store_new rfl 104 _ _ rfl _ _ _ rfl _ rfl (by simp) rfl info104 rfl rfl ?_))
          go_ret
          refine ⟨?_, (HB0.out.trans ((HB.out.alloc (by omega) _).mono (by omega)))⟩
          rw [any_hit (·.hits x') HX2.out HG.out]
          simp [gone]
        · have HG := hidMk (Bool.eq_false_iff.2 hh)
          clear hh
          go_wp2_with (first | (refine wpList_load_mid rfl 104 _ rfl b0 (o0 + k * 5) rfl _ _ R0.out Try.underlying104 rfl info104 ?_) | (refine wpList_store_new rfl 104 _ _ rfl _ _ _ rfl _ rfl (by simp) rfl info104 rfl rfl ?_))
          all_goals first
            | exact ⟨⟨k + 1, by go_num, by omega, HB.out.alloc (by omega) _, hidMk (miss_step (·.hits x') HN.out HX2.out HG.out)⟩, by simp [intOf]; omega⟩
            | (exfalso
               have h := HG.out
               rw [HX.out] at h
               simp [Rd.hits] at h
               try (simp_all; done))
      · have hkn : k = n := by omega
        subst hkn
        have HB := hidMk hb
        clear hb
        go_wp2_with fail
        go_ret
        refine ⟨?_, (HB0.out.trans (HB.out.mono (by omega)))⟩
        rw [any_miss (·.hits x') ds (fun j d hj => HN.out j d (by omega))]
        simp [gone, HK.out]
end Go.Proofs.Qxb6619005a
