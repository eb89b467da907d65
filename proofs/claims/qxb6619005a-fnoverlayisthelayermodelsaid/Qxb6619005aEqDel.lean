import Derived.Test.Qxb6619005aDelV
import Derived.BigQuiet
import Derived.Deep.QuietTactic
namespace Go.Proofs.Qxb6619005a
open Go.RowKit

set_option maxRecDepth 100000 in
set_option maxHeartbeats 8000000 in
theorem eqDelete_any (D0 D1 : Option Addr) (d : Option DelV) (w : World) (h0 : DelIs w D0 d) (h1 : DelIs w D1 d) (hok : ∀ x, d = some x → x.rd.length ≤ 1048576 ∧ x.sd.length ≤ 1048576 ∧ x.fd.length ≤ 1048576) :
    Calls Try.prog 42 #[.pointer D0, .pointer D1] w fun e w' => e = .returned (.bool true) ∧ Below w.heap.size w w' := by
  rcases h0 with ⟨rfl, rfl⟩ | ⟨B0, bo0, v, r0, s0, f0, rfl, rfl, p0, p1, p2, p3, pl1, pl2, pl3, pr1, pr2, pr3⟩
  · rcases h1 with ⟨rfl, _⟩ | ⟨B1, bo1, v', r1, s1, f1, _, h, _⟩
    · go_enter Try.func42, Try.ntmps42
      go_wp2_with fail
      go_ret
      exact ⟨rfl, Below.refl _ _⟩
    · cases h
  · rcases h1 with ⟨_, h⟩ | ⟨B1, bo1, v', r1, s1, f1, rfl, h, q0, q1, q2, q3, ql1, ql2, ql3, qr1, qr2, qr3⟩
    · cases h
    · injection h with h
      subst h
      obtain ⟨o1, o2, o3⟩ := hok v rfl
      rw [← pl1] at p1
      rw [← pl2] at p2
      rw [← pl3] at p3
      rw [← ql1] at q1
      rw [← ql2] at q2
      rw [← ql3] at q3
      have E01 := hidMk p1
      have E02 := hidMk p2
      have E03 := hidMk p3
      have E11 := hidMk q1
      have E12 := hidMk q2
      have E13 := hidMk q3
      have P1 := hidMk pr1
      have P2 := hidMk pr2
      have P3 := hidMk pr3
      have Q1 := hidMk qr1
      have Q2 := hidMk qr2
      have Q3 := hidMk qr3
      have HM1 := hidMk o1
      have HM2 := hidMk o2
      have HM3 := hidMk o3
      have l0 : B0 < w.heap.size := World.block_lt_of_cell? _ _ p0
      have l1 : B1 < w.heap.size := World.block_lt_of_cell? _ _ q0
      have g0 : decide (v.fl = v.fl) = true := by simp
      have g1 : (v.fl != v.fl) = false := by simp
      have gr : ((v.rd.length : Int) != (v.rd.length : Int)) = false := by simp
      have gs : ((v.sd.length : Int) != (v.sd.length : Int)) = false := by simp
      have gf : ((v.fd.length : Int) != (v.fd.length : Int)) = false := by simp
      have HB : Hid (∀ n, Below w.heap.size w (w.drewN n)) := hidMk (fun n => ⟨rfl, rfl, rfl, Nat.le_refl _, fun _ _ => rfl⟩)
      clear pl1 pl2 pl3 ql1 ql2 ql3 pr1 pr2 pr3 qr1 qr2 qr3 o1 o2 o3 hok
      go_enter Try.func42, Try.ntmps42
      go_wp2_with fail
      go_quiet (fail)
      obtain ⟨wq, hwq⟩ : ∃ wq, wq = w.drewN nq := ⟨_, rfl⟩
      have HBq := hidMk (HB.out nq)
      rw [← hwq] at HBq ⊢
      clear HB hwq p0 p1 p2 p3 q0 q1 q2 q3
      have HB := HBq
      clear HBq
      go_wp2_with fail
      go_loopw [5] (fun i wr => ∃ k : Nat, i = .int .i64 k ∧ k ≤ v.rd.length ∧ Below w.heap.size w wr) (fun i _ => v.rd.length - (intOf i).toNat)
      case atStart => exact ⟨0, rfl, by omega, HB.out⟩
      case round =>
        rename World => wr
        obtain ⟨k, rfl, hk, hb⟩ := hrel
        have hbs := hb.size
        have d0 := cell_below E01.out hb
        have d1 := cell_below E11.out hb
        have l0 : B0 < wr.heap.size := by omega
        have l1 : B1 < wr.heap.size := by omega
        have hl1 := HM1.out
        have HBR := hidMk hb
        by_cases hlt : k < v.rd.length
        · have k0 : (0 : Int) ≤ (k : Int) := by omega
          have k1 : (k : Int) < (v.rd.length : Int) := by omega
          obtain ⟨b0, o0, ha0, hc0⟩ := P1.out (by omega)
          obtain ⟨b1, o1, ha1, hc1⟩ := Q1.out (by omega)
          obtain ⟨x, hx⟩ : ∃ x, v.rd[k]? = some x := ⟨v.rd[k], by simp⟩
          have R0 := hidMk (rangeAt_below (hc0 k x hx) hb (Nat.le_refl _))
          have R1 := hidMk (rangeAt_below (hc1 k x hx) hb (Nat.le_refl _))
          clear hc0 hc1 hx hb
          rw [ha0] at d0
          rw [ha1] at d1
          obtain ⟨x1, x2, x3, x4, x5⟩ := x
          simp only [Rd.z] at R0 R1
          have c00 : wr.cell? ⟨b0, o0 + k * 5, none⟩ = some (.int .u16 x1) := R0.out 0 _ rfl
          have c01 : wr.cell? ⟨b0, o0 + k * 5 + 1, none⟩ = some (.int .u8 x2) := R0.out 1 _ rfl
          have c02 : wr.cell? ⟨b0, o0 + k * 5 + 2, none⟩ = some (.int .u8 x3) := R0.out 2 _ rfl
          have c03 : wr.cell? ⟨b0, o0 + k * 5 + 3, none⟩ = some (.int .u8 x4) := R0.out 3 _ rfl
          have c04 : wr.cell? ⟨b0, o0 + k * 5 + 4, none⟩ = some (.int .u8 x5) := R0.out 4 _ rfl
          have c10 : wr.cell? ⟨b1, o1 + k * 5, none⟩ = some (.int .u16 x1) := R1.out 0 _ rfl
          have c11 : wr.cell? ⟨b1, o1 + k * 5 + 1, none⟩ = some (.int .u8 x2) := R1.out 1 _ rfl
          have c12 : wr.cell? ⟨b1, o1 + k * 5 + 2, none⟩ = some (.int .u8 x3) := R1.out 2 _ rfl
          have c13 : wr.cell? ⟨b1, o1 + k * 5 + 3, none⟩ = some (.int .u8 x4) := R1.out 3 _ rfl
          have c14 : wr.cell? ⟨b1, o1 + k * 5 + 4, none⟩ = some (.int .u8 x5) := R1.out 4 _ rfl
          go_wp2_with fail
          go_region
          go_wp2_with fail
          go_light
          exact ⟨⟨k + 1, by go_num, by omega, HBR.out.drew⟩, by simp [intOf]; omega⟩
        · have hkn : k = v.rd.length := by omega
          subst hkn
          clear hb HB
          have HB := HBR
          clear HBR
          go_wp2_with fail
          go_loopw [6] (fun i wr => ∃ k : Nat, i = .int .i64 k ∧ k ≤ v.sd.length ∧ Below w.heap.size w wr) (fun i _ => v.sd.length - (intOf i).toNat)
          case atStart => exact ⟨0, rfl, by omega, HB.out⟩
          case round =>
            rename World => wr
            obtain ⟨k, rfl, hk, hb⟩ := hrel
            have hbs := hb.size
            have d0 := cell_below E02.out hb
            have d1 := cell_below E12.out hb
            have l0 : B0 < wr.heap.size := by omega
            have l1 : B1 < wr.heap.size := by omega
            have hl1 := HM2.out
            have HBR := hidMk hb
            by_cases hlt : k < v.sd.length
            · have k0 : (0 : Int) ≤ (k : Int) := by omega
              have k1 : (k : Int) < (v.sd.length : Int) := by omega
              obtain ⟨b0, o0, ha0, hc0⟩ := P2.out (by omega)
              obtain ⟨b1, o1, ha1, hc1⟩ := Q2.out (by omega)
              obtain ⟨x, hx⟩ : ∃ x, v.sd[k]? = some x := ⟨v.sd[k], by simp⟩
              have R0 := hidMk (rangeAt_below (hc0 k x hx) hb (Nat.le_refl _))
              have R1 := hidMk (rangeAt_below (hc1 k x hx) hb (Nat.le_refl _))
              clear hc0 hc1 hx hb
              rw [ha0] at d0
              rw [ha1] at d1
              obtain ⟨x1, x2, x3⟩ := x
              simp only [Sd.z] at R0 R1
              have c00 : wr.cell? ⟨b0, o0 + k * 3, none⟩ = some (.int .u8 x1) := R0.out 0 _ rfl
              have c01 : wr.cell? ⟨b0, o0 + k * 3 + 1, none⟩ = some (.int .u8 x2) := R0.out 1 _ rfl
              have c02 : wr.cell? ⟨b0, o0 + k * 3 + 2, none⟩ = some (.int .u8 x3) := R0.out 2 _ rfl
              have c10 : wr.cell? ⟨b1, o1 + k * 3, none⟩ = some (.int .u8 x1) := R1.out 0 _ rfl
              have c11 : wr.cell? ⟨b1, o1 + k * 3 + 1, none⟩ = some (.int .u8 x2) := R1.out 1 _ rfl
              have c12 : wr.cell? ⟨b1, o1 + k * 3 + 2, none⟩ = some (.int .u8 x3) := R1.out 2 _ rfl
              go_wp2_with fail
              go_region
              go_wp2_with fail
              go_light
              exact ⟨⟨k + 1, by go_num, by omega, HBR.out.drew⟩, by simp [intOf]; omega⟩
            · have hkn : k = v.sd.length := by omega
              subst hkn
              clear hb HB
              have HB := HBR
              clear HBR
              go_wp2_with fail
              go_loopw [7] (fun i wr => ∃ k : Nat, i = .int .i64 k ∧ k ≤ v.fd.length ∧ Below w.heap.size w wr) (fun i _ => v.fd.length - (intOf i).toNat)
              case atStart => exact ⟨0, rfl, by omega, HB.out⟩
              case round =>
                rename World => wr
                obtain ⟨k, rfl, hk, hb⟩ := hrel
                have hbs := hb.size
                have d0 := cell_below E03.out hb
                have d1 := cell_below E13.out hb
                have l0 : B0 < wr.heap.size := by omega
                have l1 : B1 < wr.heap.size := by omega
                have hl1 := HM3.out
                have HBR := hidMk hb
                by_cases hlt : k < v.fd.length
                · have k0 : (0 : Int) ≤ (k : Int) := by omega
                  have k1 : (k : Int) < (v.fd.length : Int) := by omega
                  obtain ⟨b0, o0, ha0, hc0⟩ := P3.out (by omega)
                  obtain ⟨b1, o1, ha1, hc1⟩ := Q3.out (by omega)
                  obtain ⟨x, hx⟩ : ∃ x, v.fd[k]? = some x := ⟨v.fd[k], by simp⟩
                  have R0 := hidMk (rangeAt_below (hc0 k x hx) hb (Nat.le_refl _))
                  have R1 := hidMk (rangeAt_below (hc1 k x hx) hb (Nat.le_refl _))
                  clear hc0 hc1 hx hb
                  rw [ha0] at d0
                  rw [ha1] at d1
                  obtain ⟨x1, x2⟩ := x
                  simp only [Fd.z] at R0 R1
                  have c00 : wr.cell? ⟨b0, o0 + k * 2, none⟩ = some (.int .u16 x1) := R0.out 0 _ rfl
                  have c01 : wr.cell? ⟨b0, o0 + k * 2 + 1, none⟩ = some (.int .u32 x2) := R0.out 1 _ rfl
                  have c10 : wr.cell? ⟨b1, o1 + k * 2, none⟩ = some (.int .u16 x1) := R1.out 0 _ rfl
                  have c11 : wr.cell? ⟨b1, o1 + k * 2 + 1, none⟩ = some (.int .u32 x2) := R1.out 1 _ rfl
                  go_wp2_with fail
                  go_region
                  go_wp2_with fail
                  go_light
                  exact ⟨⟨k + 1, by go_num, by omega, HBR.out.drew⟩, by simp [intOf]; omega⟩
                · have hkn : k = v.fd.length := by omega
                  subst hkn
                  clear hb HB
                  have HB := HBR
                  clear HBR
                  go_wp2_with fail
                  go_ret
                  exact ⟨rfl, HB.out⟩
end Go.Proofs.Qxb6619005a
