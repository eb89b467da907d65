import Derived.Test.Qxb6619005aPark
namespace Go.Proofs.Qxb6619005a
open Go.RowKit

set_option maxRecDepth 100000 in
set_option maxHeartbeats 4000000 in
theorem eqParkings_any (a0 a1 : Option Addr) (n q0 q1 : Nat) (p0 p1 : List Pk) (xs : List (Pc × List ByteArray)) (w : World) (hn0 : p0.length = n) (hn1 : p1.length = n) (hm : n ≤ 1048576) (hcm : ∀ x ∈ xs, x.2.length ≤ 1048576) (h0 : ARow Pk.z 10 w a0 p0) (h1 : ARow Pk.z 10 w a1 p1) (i0 : PkIs w p0 xs) (i1 : PkIs w p1 xs) :
    Calls Try.prog 33 #[.slice a0 n q0, .slice a1 n q1] w fun e w' => e = .returned (.bool true) ∧ Below w.heap.size w w' := by
  have H0 := hidMk h0
  have H1 := hidMk h1
  have I0 := hidMk i0
  have I1 := hidMk i1
  have N0 := hidMk hn0
  have N1 := hidMk hn1
  have HCM := hidMk hcm
  clear h0 h1 i0 i1 hn0 hn1 hcm
  go_enter Try.func33, Try.ntmps33
  go_wp2_with fail
  go_loopw [5] (fun i wr => ∃ k : Nat, i = .int .i64 k ∧ k ≤ n ∧ Below w.heap.size w wr) (fun i _ => n - (intOf i).toNat)
  case atStart => exact ⟨0, rfl, by omega, Below.refl _ _⟩
  case round =>
    obtain ⟨k, rfl, hk, hb⟩ := hrel
    by_cases hlt : k < n
    · have k0 : (0 : Int) ≤ (k : Int) := by omega
      have k1 : (k : Int) < (n : Int) := by omega
      obtain ⟨b0, o0, ha0, hc0⟩ := H0.out (by have := N0.out; omega)
      obtain ⟨b1, o1, ha1, hc1⟩ := H1.out (by have := N1.out; omega)
      obtain ⟨y, hy⟩ : ∃ y, p0[k]? = some y := ⟨p0[k]'(by have := N0.out; omega), by simp⟩
      obtain ⟨z, hz⟩ : ∃ z, p1[k]? = some z := ⟨p1[k]'(by have := N1.out; omega), by simp⟩
      have R0 := hidMk (rangeAt_below (hc0 k y hy) hb (Nat.le_refl _))
      have R1 := hidMk (rangeAt_below (hc1 k z hz) hb (Nat.le_refl _))
      obtain ⟨xx, hxx, hco, hcd⟩ := I0.out.get k y hy
      obtain ⟨xx', hxx', hco', hcd'⟩ := I1.out.get k z hz
      have hxe : xx' = xx := by rw [hxx] at hxx'; injection hxx' with e; exact e.symm
      subst hxe
      have hcore : y.core = z.core := hco.trans hco'.symm
      have hcm0 : xx'.2.length ≤ 1048576 := HCM.out xx' (List.mem_of_getElem? hxx)
      have HB := hidMk hb
      have hbs := hb.size
      clear hc0 hc1 hy hz hb hxx hxx' hco hco'
      subst ha0 ha1
      obtain ⟨x1, x2, x3, x4, x5, x6, x7, x8, x9, ⟨ca, cn, cc⟩⟩ := y
      obtain ⟨z1, z2, z3, z4, z5, z6, z7, z8, z9, ⟨da, dn, dc⟩⟩ := z
      simp only [Pk.core, Pc.mk.injEq] at hcore
      obtain ⟨rfl, rfl, rfl, rfl, rfl, rfl, rfl, rfl, rfl⟩ := hcore
      have hl1 : xx'.2.length = cn := hcd.1
      have hl2 : xx'.2.length = dn := hcd'.1
      have hdn : dn = cn := by omega
      subst hdn
      have hcn : dn ≤ 1048576 := by omega
      have C0 := hidMk (hcd.below (HB.out.mono (Nat.le_refl _)))
      have C1 := hidMk (hcd'.below (HB.out.mono (Nat.le_refl _)))
      have HL := hidMk hl1
      simp only [Pk.z] at R0 R1
      clear hcd hcd' hl1 hl2 hcm0
      go_wp2_with (first | (refine wpList_load_mid rfl 61 _ rfl b0 (o0 + k * 10) rfl _ _ R0.out Try.underlying61 rfl info61 ?_) | (refine wpList_load_mid rfl 61 _ rfl b1 (o1 + k * 10) rfl _ _ (World.rangeAt_alloc R1.out _) Try.underlying61 rfl info61 ?_) | (refine wpList_store_new rfl 61 _ _ rfl _ _ _ rfl _ rfl (by simp) rfl info61 rfl rfl ?_))
      refine (f32_same x5 _).mono ?_
      rintro e wx ⟨rfl, hwx⟩
      have hwx2 := hwx.symm
      subst hwx2
      clear hwx
      go_wp2_with fail
      refine (f32_same x6 _).mono ?_
      rintro e wx ⟨rfl, hwx⟩
      have hwx2 := hwx.symm
      subst hwx2
      clear hwx
      go_wp2_with fail
      refine (f64_same x7 _).mono ?_
      rintro e wx ⟨rfl, hwx⟩
      have hwx2 := hwx.symm
      subst hwx2
      clear hwx
      go_wp2_with fail
      refine (f64_same x8 _).mono ?_
      rintro e wx ⟨rfl, hwx⟩
      have hwx2 := hwx.symm
      subst hwx2
      clear hwx
      go_wp2_with fail
      refine (f64_same x9 _).mono ?_
      rintro e wx ⟨rfl, hwx⟩
      have hwx2 := hwx.symm
      subst hwx2
      clear hwx
      go_wp2_with fail
      obtain ⟨wx, hwx⟩ : ∃ wx, wx = (wr.alloc (.cells #[.int .u8 x1, .int .u16 x2, .int .u8 x3, .int .u8 x4, .float .f32 x5, .float .f32 x6, .float .f64 x7, .float .f64 x8, .float .f64 x9, .slice ca dn cc] 61)).alloc (.cells #[.int .u8 x1, .int .u16 x2, .int .u8 x3, .int .u8 x4, .float .f32 x5, .float .f32 x6, .float .f64 x7, .float .f64 x8, .float .f64 x9, .slice da dn dc] 61) := ⟨_, rfl⟩
      rw [← hwx]
      have HBX : Hid (Below wr.heap.size wr wx) := hidMk (by rw [hwx]; exact ((Below.refl _ wr).alloc (Nat.le_refl _) _).alloc (by simp) _)
      have HXA : Hid (wx.cell? ⟨wr.heap.size, 9, none⟩ = some (.slice ca dn cc)) := hidMk (by rw [hwx]; exact cell_below ((cell_of_row _ wr.heap.size 9 _ _ (0, 0) (heap_alloc_new wr _)).trans rfl) ((Below.refl _ _).alloc (Nat.le_refl _) _))
      have HXB : Hid (wx.cell? ⟨wr.heap.size + 1, 9, none⟩ = some (.slice da dn dc)) := hidMk (by rw [hwx]; exact (cell_of_row _ (wr.heap.size + 1) 9 _ _ (0, 0) (heap2 wr _ _)).trans rfl)
      clear hwx
      go_loopw [8] (fun j w2 => ∃ q : Nat, j = .int .i64 q ∧ q ≤ dn ∧ Below wx.heap.size wx w2) (fun j _ => dn - (intOf j).toNat)
      case atStart => exact ⟨0, rfl, by omega, Below.refl _ _⟩
      case round =>
        rename World => w2
        obtain ⟨q, rfl, hq, hb2⟩ := hrel
        have cA := cell_below HXA.out hb2
        have cB := cell_below HXB.out hb2
        have lA : wr.heap.size < w2.heap.size := World.block_lt_of_cell? _ _ cA
        have lB : wr.heap.size + 1 < w2.heap.size := World.block_lt_of_cell? _ _ cB
        have HB2 := hidMk hb2
        by_cases hqt : q < dn
        · have j0 : (0 : Int) ≤ (q : Int) := by omega
          have j1 : (q : Int) < (dn : Int) := by omega
          obtain ⟨e0, f0, g0, t0⟩ := C0.out.2 (by have := HL.out; omega)
          obtain ⟨e1, f1, g1, t1⟩ := C1.out.2 (by have := HL.out; omega)
          obtain ⟨s, hs⟩ : ∃ s, xx'.2[q]? = some s := ⟨xx'.2[q]'(by have := HL.out; omega), by simp⟩
          have s0 : w2.cell? ⟨e0, f0 + q, none⟩ = some (.string s) := cell_below (cell_below (by have := t0 q s hs 0 (.string s) rfl; simpa using this) HBX.out) hb2
          have s1 : w2.cell? ⟨e1, f1 + q, none⟩ = some (.string s) := cell_below (cell_below (by have := t1 q s hs 0 (.string s) rfl; simpa using this) HBX.out) hb2
          have sm : (s.toList == s.toList) = true := by simp
          have sn : (s.toList != s.toList) = false := by simp
          simp only at g0 g1
          subst g0 g1
          clear t0 t1 hs hb2
          go_wp2_with fail
          go_region
          go_wp2_with fail
          go_light
          exact ⟨⟨q + 1, by go_num, by omega, HB2.out.drew⟩, by simp [intOf]; omega⟩
        · have hqn : q = dn := by omega
          subst hqn
          clear hb2
          go_wp2_with fail
          go_light
          exact ⟨⟨k + 1, by go_num, by omega, HB.out.trans ((HBX.out.mono hbs).trans (HB2.out.mono (by have := HBX.out.size; omega)))⟩, by simp [intOf]; omega⟩
    · have hkn : k = n := by omega
      subst hkn
      have HB := hidMk hb
      clear hb
      go_wp2_with fail
      go_ret
      exact ⟨rfl, HB.out⟩
end Go.Proofs.Qxb6619005a
