import Derived.Test.Qxb6619005aView
import Derived.Deep.DeepCutAuto
import Derived.Deep.CutBlock
import Derived.Deep.CutRange
import Derived.Deep.Light
namespace Go.Proofs.Qxb6619005a
open Go.RowKit

def BoolPost (w : World) (e : Ending) (w' : World) : Prop := ∃ b : Bool, e = .returned (.bool b) ∧ Below w.heap.size w w'

set_option maxRecDepth 100000 in
set_option maxHeartbeats 8000000 in
theorem zzBytes (Tl Tu : Top) (Hl Hu : Heads) (Dl Du : Option Addr) (Ll Lu : Lists) (pl pu : List Pk) (dl du : Option DelV) (w : World) (hvl : View Rw.z 12 w Hl Ll pl) (hvu : View Rw.z 12 w Hu Lu pu) (hdl : DelIs w Dl dl) (hdu : DelIs w Du du) :
    Calls Try.prog 4 #[.agg (cellsOf Tl Hl Dl).toArray, .agg (cellsOf Tu Hu Du).toArray] w fun e w' => BoolPost w e w' := by
  have HVL := hidMk hvl
  have HVU := hidMk hvu
  have HDL := hidMk hdl
  have HDU := hidMk hdu
  clear hvl hvu hdl hdu
  simp only [cellsOf]
  go_enter Try.func4, Try.ntmps4
  go_upto_region 2 with fail
  obtain ⟨wb, hwb⟩ : ∃ wb, wb = (w.alloc (.cells #[.string Tl.i, .string Tl.nm, .float .f64 Tl.la, .float .f64 Tl.lo, .float .f64 Tl.el, .float .f32 Tl.mv, .slice Hl.r.a Hl.r.n Hl.r.c, .slice Hl.s.a Hl.s.n Hl.s.c, .slice Hl.c.a Hl.c.n Hl.c.c, .slice Hl.h.a Hl.h.n Hl.h.c, .pointer Dl, .slice Hl.p.a Hl.p.n Hl.p.c, .slice Hl.t.a Hl.t.n Hl.t.c, .slice Hl.q.a Hl.q.n Hl.q.c] 33)).alloc (.cells #[.string Tu.i, .string Tu.nm, .float .f64 Tu.la, .float .f64 Tu.lo, .float .f64 Tu.el, .float .f32 Tu.mv, .slice Hu.r.a Hu.r.n Hu.r.c, .slice Hu.s.a Hu.s.n Hu.s.c, .slice Hu.c.a Hu.c.n Hu.c.c, .slice Hu.h.a Hu.h.n Hu.h.c, .pointer Du, .slice Hu.p.a Hu.p.n Hu.p.c, .slice Hu.t.a Hu.t.n Hu.t.c, .slice Hu.q.a Hu.q.n Hu.q.c] 33) := ⟨_, rfl⟩
  rw [← hwb]
  have HBW : Hid (Below w.heap.size w wb) := hidMk (by rw [hwb]; exact ((Below.refl _ w).alloc (Nat.le_refl _) _).alloc (by simp) _)
  have HBL : Hid (wb.heap[w.heap.size]? = some (.cells [.string Tl.i, .string Tl.nm, .float .f64 Tl.la, .float .f64 Tl.lo, .float .f64 Tl.el, .float .f32 Tl.mv, .slice Hl.r.a Hl.r.n Hl.r.c, .slice Hl.s.a Hl.s.n Hl.s.c, .slice Hl.c.a Hl.c.n Hl.c.c, .slice Hl.h.a Hl.h.n Hl.h.c, .pointer Dl, .slice Hl.p.a Hl.p.n Hl.p.c, .slice Hl.t.a Hl.t.n Hl.t.c, .slice Hl.q.a Hl.q.n Hl.q.c].toArray 33 (0, 0))) := hidMk (by rw [hwb]; exact (Below.heap_alloc _ _ _ (by simp)).trans (heap_alloc_new w _))
  have HBU : Hid (wb.heap[w.heap.size + 1]? = some (.cells [.string Tu.i, .string Tu.nm, .float .f64 Tu.la, .float .f64 Tu.lo, .float .f64 Tu.el, .float .f32 Tu.mv, .slice Hu.r.a Hu.r.n Hu.r.c, .slice Hu.s.a Hu.s.n Hu.s.c, .slice Hu.c.a Hu.c.n Hu.c.c, .slice Hu.h.a Hu.h.n Hu.h.c, .pointer Du, .slice Hu.p.a Hu.p.n Hu.p.c, .slice Hu.t.a Hu.t.n Hu.t.c, .slice Hu.q.a Hu.q.n Hu.q.c].toArray 33 (0, 0))) := hidMk (by rw [hwb]; exact heap2 w _ _)
  have lL := lt_of_heap HBL.out
  have lU := lt_of_heap HBU.out
  clear hwb
  obtain ⟨s0, hs0⟩ : ∃ s0 : Value, s0 = .agg #[.string Tl.i, .string Tl.nm, .float .f64 Tl.la, .float .f64 Tl.lo, .float .f64 Tl.el, .float .f32 Tl.mv, .slice Hl.r.a Hl.r.n Hl.r.c, .slice Hl.s.a Hl.s.n Hl.s.c, .slice Hl.c.a Hl.c.n Hl.c.c, .slice Hl.h.a Hl.h.n Hl.h.c, .pointer Dl, .slice Hl.p.a Hl.p.n Hl.p.c, .slice Hl.t.a Hl.t.n Hl.t.c, .slice Hl.q.a Hl.q.n Hl.q.c] := ⟨_, rfl⟩
  obtain ⟨s1, hs1⟩ : ∃ s1 : Value, s1 = .agg #[.string Tu.i, .string Tu.nm, .float .f64 Tu.la, .float .f64 Tu.lo, .float .f64 Tu.el, .float .f32 Tu.mv, .slice Hu.r.a Hu.r.n Hu.r.c, .slice Hu.s.a Hu.s.n Hu.s.c, .slice Hu.c.a Hu.c.n Hu.c.c, .slice Hu.h.a Hu.h.n Hu.h.c, .pointer Du, .slice Hu.p.a Hu.p.n Hu.p.c, .slice Hu.t.a Hu.t.n Hu.t.c, .slice Hu.q.a Hu.q.n Hu.q.c] := ⟨_, rfl⟩
  rw [← hs0, ← hs1]
  clear hs0 hs1
  obtain ⟨n0, hn0⟩ : ∃ n0 : Nat, n0 = 0 := ⟨_, rfl⟩
  have hz0 : (0 : Int) = (n0 : Int) := by omega
  have hnn0 : n0 ≤ 1048576 := by omega
  rw [show (Value.int .i64 0 : Value) = .int .i64 (n0 : Int) from by rw [hn0]; rfl]
  clear hn0 hz0
  have cca0 : wb.cell? ⟨w.heap.size, 0, none⟩ = some (.string Tl.i) := (cell_of_row _ _ 0 _ _ (0, 0) HBL.out).trans rfl
  rcases Nat.lt_or_ge 1048576 (Tl.i.size) with h1 | h1
  · have g1 : (1048576 : Int) < ((Tl.i.size : Nat) : Int) := by omega
    go_wp2_with fail
    go_ret
    exact ⟨_, rfl, HBW.out⟩
  have g1 : ¬ ((1048576 : Int) < ((Tl.i.size : Nat) : Int)) := by omega
  go_upto_if 26 with fail
  go_cut [5] from 16 to 26 (fun a wd => ∃ m : Nat, a = .int .i64 m ∧ m ≤ 1048576 ∧ wd = wb)
  case first =>
    as_aux_lemma =>
      by_cases h2 : n0 + Tl.i.size ≤ 1048576
      · have g2 : ¬ ((1048576 : Int) < (n0 : Int) + ((Tl.i.size : Nat) : Int)) := by omega
        go_wp2_with fail
        go_meet
        case rel => exact ⟨n0 + Tl.i.size, by simp, h2, rfl⟩
      · have g2 : (1048576 : Int) < (n0 : Int) + ((Tl.i.size : Nat) : Int) := by omega
        go_wp2_with fail
        go_ret
        exact ⟨_, rfl, HBW.out⟩
  case rest =>
    as_aux_lemma =>
      obtain ⟨a1, rfl, ha1, hwd⟩ := hcut
      have hwd2 := hwd.symm
      subst hwd2
      have LENa1 := h1
      clear hwd h1 g1
      have cca1 : wb.cell? ⟨w.heap.size, 1, none⟩ = some (.string Tl.nm) := (cell_of_row _ _ 1 _ _ (0, 0) HBL.out).trans rfl
      rcases Nat.lt_or_ge 1048576 (Tl.nm.size) with h1 | h1
      · have g1 : (1048576 : Int) < ((Tl.nm.size : Nat) : Int) := by omega
        go_wp2_with fail
        go_ret
        exact ⟨_, rfl, HBW.out⟩
      have g1 : ¬ ((1048576 : Int) < ((Tl.nm.size : Nat) : Int)) := by omega
      go_upto_if 37 with fail
      go_cut [5] from 27 to 37 (fun a wd => ∃ m : Nat, a = .int .i64 m ∧ m ≤ 1048576 ∧ wd = wb)
      case first =>
        as_aux_lemma =>
          by_cases h2 : a1 + Tl.nm.size ≤ 1048576
          · have g2 : ¬ ((1048576 : Int) < (a1 : Int) + ((Tl.nm.size : Nat) : Int)) := by omega
            go_wp2_with fail
            go_meet
            case rel => exact ⟨a1 + Tl.nm.size, by simp, h2, rfl⟩
          · have g2 : (1048576 : Int) < (a1 : Int) + ((Tl.nm.size : Nat) : Int) := by omega
            go_wp2_with fail
            go_ret
            exact ⟨_, rfl, HBW.out⟩
      case rest =>
        as_aux_lemma =>
          obtain ⟨a2, rfl, ha2, hwd⟩ := hcut
          have hwd2 := hwd.symm
          subst hwd2
          have LENa2 := h1
          clear hwd h1 g1
          have cca6 : wb.cell? ⟨w.heap.size, 6, none⟩ = some (.slice Hl.r.a Hl.r.n Hl.r.c) := (cell_of_row _ _ 6 _ _ (0, 0) HBL.out).trans rfl
          rcases Nat.lt_or_ge 1048576 (Hl.r.n) with h1 | h1
          · have g1 : (1048576 : Int) < ((Hl.r.n : Nat) : Int) := by omega
            go_wp2_with fail
            go_ret
            exact ⟨_, rfl, HBW.out⟩
          have g1 : ¬ ((1048576 : Int) < ((Hl.r.n : Nat) : Int)) := by omega
          go_upto_if 48 with fail
          go_cut [5] from 38 to 48 (fun a wd => ∃ m : Nat, a = .int .i64 m ∧ m ≤ 1048576 ∧ wd = wb)
          case first =>
            as_aux_lemma =>
              by_cases h2 : a2 + Hl.r.n ≤ 1048576
              · have g2 : ¬ ((1048576 : Int) < (a2 : Int) + ((Hl.r.n : Nat) : Int)) := by omega
                go_wp2_with fail
                go_meet
                case rel => exact ⟨a2 + Hl.r.n, by simp, h2, rfl⟩
              · have g2 : (1048576 : Int) < (a2 : Int) + ((Hl.r.n : Nat) : Int) := by omega
                go_wp2_with fail
                go_ret
                exact ⟨_, rfl, HBW.out⟩
          case rest =>
            as_aux_lemma =>
              obtain ⟨a3, rfl, ha3, hwd⟩ := hcut
              have hwd2 := hwd.symm
              subst hwd2
              have LENa3 := h1
              clear hwd h1 g1
              have cca7 : wb.cell? ⟨w.heap.size, 7, none⟩ = some (.slice Hl.s.a Hl.s.n Hl.s.c) := (cell_of_row _ _ 7 _ _ (0, 0) HBL.out).trans rfl
              rcases Nat.lt_or_ge 1048576 (Hl.s.n) with h1 | h1
              · have g1 : (1048576 : Int) < ((Hl.s.n : Nat) : Int) := by omega
                go_wp2_with fail
                go_ret
                exact ⟨_, rfl, HBW.out⟩
              have g1 : ¬ ((1048576 : Int) < ((Hl.s.n : Nat) : Int)) := by omega
              go_upto_if 59 with fail
              go_cut [5] from 49 to 59 (fun a wd => ∃ m : Nat, a = .int .i64 m ∧ m ≤ 1048576 ∧ wd = wb)
              case first =>
                as_aux_lemma =>
                  by_cases h2 : a3 + Hl.s.n ≤ 1048576
                  · have g2 : ¬ ((1048576 : Int) < (a3 : Int) + ((Hl.s.n : Nat) : Int)) := by omega
                    go_wp2_with fail
                    go_meet
                    case rel => exact ⟨a3 + Hl.s.n, by simp, h2, rfl⟩
                  · have g2 : (1048576 : Int) < (a3 : Int) + ((Hl.s.n : Nat) : Int) := by omega
                    go_wp2_with fail
                    go_ret
                    exact ⟨_, rfl, HBW.out⟩
              case rest =>
                as_aux_lemma =>
                  obtain ⟨a4, rfl, ha4, hwd⟩ := hcut
                  have hwd2 := hwd.symm
                  subst hwd2
                  have LENa4 := h1
                  clear hwd h1 g1
                  have cca8 : wb.cell? ⟨w.heap.size, 8, none⟩ = some (.slice Hl.c.a Hl.c.n Hl.c.c) := (cell_of_row _ _ 8 _ _ (0, 0) HBL.out).trans rfl
                  rcases Nat.lt_or_ge 1048576 (Hl.c.n) with h1 | h1
                  · have g1 : (1048576 : Int) < ((Hl.c.n : Nat) : Int) := by omega
                    go_wp2_with fail
                    go_ret
                    exact ⟨_, rfl, HBW.out⟩
                  have g1 : ¬ ((1048576 : Int) < ((Hl.c.n : Nat) : Int)) := by omega
                  go_upto_if 70 with fail
                  go_cut [5] from 60 to 70 (fun a wd => ∃ m : Nat, a = .int .i64 m ∧ m ≤ 1048576 ∧ wd = wb)
                  case first =>
                    as_aux_lemma =>
                      by_cases h2 : a4 + Hl.c.n ≤ 1048576
                      · have g2 : ¬ ((1048576 : Int) < (a4 : Int) + ((Hl.c.n : Nat) : Int)) := by omega
                        go_wp2_with fail
                        go_meet
                        case rel => exact ⟨a4 + Hl.c.n, by simp, h2, rfl⟩
                      · have g2 : (1048576 : Int) < (a4 : Int) + ((Hl.c.n : Nat) : Int) := by omega
                        go_wp2_with fail
                        go_ret
                        exact ⟨_, rfl, HBW.out⟩
                  case rest =>
                    as_aux_lemma =>
                      obtain ⟨a5, rfl, ha5, hwd⟩ := hcut
                      have hwd2 := hwd.symm
                      subst hwd2
                      have LENa5 := h1
                      clear hwd h1 g1
                      go_wp2_with fail
                      go_loopw [6, 5] (fun i a wr => ∃ k m_ : Nat, i = .int .i64 k ∧ a = .int .i64 m_ ∧ k ≤ Hl.c.n ∧ m_ ≤ 1048576 ∧ wr = wb) (fun i _ _ => Hl.c.n - (intOf i).toNat)
                      case atStart => exact ⟨0, a5, rfl, rfl, by omega, by assumption, rfl⟩
                      case round =>
                        obtain ⟨k, mac, rfl, rfl, hk, hm, hwr⟩ := hrel
                        have hwr2 := hwr.symm
                        subst hwr2
                        clear hwr
                        by_cases hlt : k < Hl.c.n
                        · have k0 : (0 : Int) ≤ (k : Int) := by omega
                          have k1 : (k : Int) < (Hl.c.n : Int) := by omega
                          obtain ⟨b0, o0, ha0, hc0⟩ := HVL.out.rc (by have := HVL.out.lc; omega)
                          obtain ⟨x, hx⟩ : ∃ x, Ll.c[k]? = some x := ⟨Ll.c[k]'(by have := HVL.out.lc; omega), by simp⟩
                          have cS : wb.cell? ⟨b0, o0 + k * 3 + 2, none⟩ = some (.string x.nm) := cell_below (hc0 k x hx 2 _ rfl) HBW.out
                          have lS := World.block_lt_of_cell? _ _ cS
                          clear hc0 hx
                          rw [ha0] at cca8
                          clear ha0
                          rcases Nat.lt_or_ge 1048576 x.nm.size with h1 | h1
                          · have g1 : (1048576 : Int) < ((x.nm.size : Nat) : Int) := by omega
                            go_wp2_with fail
                            go_ret
                            exact ⟨_, rfl, HBW.out⟩
                          have g1 : ¬ ((1048576 : Int) < ((x.nm.size : Nat) : Int)) := by omega
                          by_cases h2 : mac + x.nm.size ≤ 1048576
                          · have g2 : ¬ ((1048576 : Int) < (mac : Int) + ((x.nm.size : Nat) : Int)) := by omega
                            go_wp2_with fail
                            go_light
                            exact ⟨⟨k + 1, mac + x.nm.size, by go_num, by simp, by omega, h2, (by first | rfl | trivial)⟩, by simp [intOf]; omega⟩
                          · have g2 : (1048576 : Int) < (mac : Int) + ((x.nm.size : Nat) : Int) := by omega
                            go_wp2_with fail
                            go_ret
                            exact ⟨_, rfl, HBW.out⟩
                        · have k1 : ¬ ((k : Int) < (Hl.c.n : Int)) := by omega
                          have cca9 : wb.cell? ⟨w.heap.size, 9, none⟩ = some (.slice Hl.h.a Hl.h.n Hl.h.c) := (cell_of_row _ _ 9 _ _ (0, 0) HBL.out).trans rfl
                          rcases Nat.lt_or_ge 1048576 (Hl.h.n) with h1 | h1
                          · have g1 : (1048576 : Int) < ((Hl.h.n : Nat) : Int) := by omega
                            go_wp2_with fail
                            go_ret
                            exact ⟨_, rfl, HBW.out⟩
                          have g1 : ¬ ((1048576 : Int) < ((Hl.h.n : Nat) : Int)) := by omega
                          go_upto_if 107 with fail
                          go_cut [5] from 71 to 107 (fun a wd => ∃ m : Nat, a = .int .i64 m ∧ m ≤ 1048576 ∧ wd = wb)
                          case first =>
                            as_aux_lemma =>
                              by_cases h2 : mac + Hl.h.n ≤ 1048576
                              · have g2 : ¬ ((1048576 : Int) < (mac : Int) + ((Hl.h.n : Nat) : Int)) := by omega
                                go_wp2_with fail
                                go_meet
                                case rel => exact ⟨mac + Hl.h.n, by simp, h2, rfl⟩
                              · have g2 : (1048576 : Int) < (mac : Int) + ((Hl.h.n : Nat) : Int) := by omega
                                go_wp2_with fail
                                go_ret
                                exact ⟨_, rfl, HBW.out⟩
                          case rest =>
                            as_aux_lemma =>
                              obtain ⟨a7, rfl, ha7, hwd⟩ := hcut
                              have hwd2 := hwd.symm
                              subst hwd2
                              have LENa7 := h1
                              clear hwd h1 g1
                              go_wp2_with fail
                              go_loopw [7, 5] (fun i a wr => ∃ k m_ : Nat, i = .int .i64 k ∧ a = .int .i64 m_ ∧ k ≤ Hl.h.n ∧ m_ ≤ 1048576 ∧ wr = wb) (fun i _ _ => Hl.h.n - (intOf i).toNat)
                              case atStart => exact ⟨0, a7, rfl, rfl, by omega, by assumption, rfl⟩
                              case round =>
                                obtain ⟨k, mah, rfl, rfl, hk, hm, hwr⟩ := hrel
                                have hwr2 := hwr.symm
                                subst hwr2
                                clear hwr
                                by_cases hlt : k < Hl.h.n
                                · have k1 : (k : Int) < (Hl.h.n : Int) := by omega
                                  by_cases h2 : mah + 4 ≤ 1048576
                                  · have g2 : ¬ ((1048576 : Int) < (mah : Int) + 4) := by omega
                                    go_wp2_with fail
                                    go_light
                                    exact ⟨⟨k + 1, mah + 4, by go_num, by simp, by omega, h2, (by first | rfl | trivial)⟩, by simp [intOf]; omega⟩
                                  · have g2 : (1048576 : Int) < (mah : Int) + 4 := by omega
                                    go_wp2_with fail
                                    go_ret
                                    exact ⟨_, rfl, HBW.out⟩
                                · have k1 : ¬ ((k : Int) < (Hl.h.n : Int)) := by omega
                                  have cca10 : wb.cell? ⟨w.heap.size, 10, none⟩ = some (.pointer Dl) := (cell_of_row _ _ 10 _ _ (0, 0) HBL.out).trans rfl
                                  go_upto_if 121 with fail
                                  go_cut [5] from 97 to 121 (fun a wd => ∃ m_ : Nat, a = .int .i64 m_ ∧ m_ ≤ 1048576 ∧ wd = wb)
                                  case first =>
                                    rcases HDL.out with ⟨hD, hd⟩ | ⟨B, bo, v, dr, ds, df, hD, hd, h0, h1, h2, h3, hlr, hls, hlf, kr, ks, kf⟩
                                    · rw [hD] at cca10 ⊢
                                      go_wp2_with fail
                                      go_meet
                                      case rel => exact ⟨mah, rfl, by assumption, rfl⟩
                                    · rw [hD] at cca10 ⊢
                                      have e1 := cell_below h1 HBW.out
                                      have e2 := cell_below h2 HBW.out
                                      have e3 := cell_below h3 HBW.out
                                      have lB : B < wb.heap.size := World.block_lt_of_cell? _ _ e1
                                      clear h0 h1 h2 h3 hlr hls hlf kr ks kf hd
                                      rcases Nat.lt_or_ge 1048576 (dr.n) with h1 | h1
                                      · have g1 : (1048576 : Int) < ((dr.n : Nat) : Int) := by omega
                                        go_wp2_with fail
                                        go_ret
                                        exact ⟨_, rfl, HBW.out⟩
                                      have g1 : ¬ ((1048576 : Int) < ((dr.n : Nat) : Int)) := by omega
                                      go_upto_if 138 with fail
                                      go_cut [5] from 122 to 138 (fun a wd => ∃ m : Nat, a = .int .i64 m ∧ m ≤ 1048576 ∧ wd = wb)
                                      case first =>
                                        as_aux_lemma =>
                                          by_cases h2 : mah + dr.n ≤ 1048576
                                          · have g2 : ¬ ((1048576 : Int) < (mah : Int) + ((dr.n : Nat) : Int)) := by omega
                                            go_wp2_with fail
                                            go_meet
                                            case rel => exact ⟨mah + dr.n, by simp, h2, rfl⟩
                                          · have g2 : (1048576 : Int) < (mah : Int) + ((dr.n : Nat) : Int) := by omega
                                            go_wp2_with fail
                                            go_ret
                                            exact ⟨_, rfl, HBW.out⟩
                                      case rest =>
                                        as_aux_lemma =>
                                          obtain ⟨ad0, rfl, had0, hwd⟩ := hcut
                                          have hwd2 := hwd.symm
                                          subst hwd2
                                          have LENad0 := h1
                                          clear hwd h1 g1
                                          rcases Nat.lt_or_ge 1048576 (ds.n) with h1 | h1
                                          · have g1 : (1048576 : Int) < ((ds.n : Nat) : Int) := by omega
                                            go_wp2_with fail
                                            go_ret
                                            exact ⟨_, rfl, HBW.out⟩
                                          have g1 : ¬ ((1048576 : Int) < ((ds.n : Nat) : Int)) := by omega
                                          go_upto_if 155 with fail
                                          go_cut [5] from 139 to 155 (fun a wd => ∃ m : Nat, a = .int .i64 m ∧ m ≤ 1048576 ∧ wd = wb)
                                          case first =>
                                            as_aux_lemma =>
                                              by_cases h2 : ad0 + ds.n ≤ 1048576
                                              · have g2 : ¬ ((1048576 : Int) < (ad0 : Int) + ((ds.n : Nat) : Int)) := by omega
                                                go_wp2_with fail
                                                go_meet
                                                case rel => exact ⟨ad0 + ds.n, by simp, h2, rfl⟩
                                              · have g2 : (1048576 : Int) < (ad0 : Int) + ((ds.n : Nat) : Int) := by omega
                                                go_wp2_with fail
                                                go_ret
                                                exact ⟨_, rfl, HBW.out⟩
                                          case rest =>
                                            as_aux_lemma =>
                                              obtain ⟨ad1, rfl, had1, hwd⟩ := hcut
                                              have hwd2 := hwd.symm
                                              subst hwd2
                                              have LENad1 := h1
                                              clear hwd h1 g1
                                              rcases Nat.lt_or_ge 1048576 (df.n) with h1 | h1
                                              · have g1 : (1048576 : Int) < ((df.n : Nat) : Int) := by omega
                                                go_wp2_with fail
                                                go_ret
                                                exact ⟨_, rfl, HBW.out⟩
                                              have g1 : ¬ ((1048576 : Int) < ((df.n : Nat) : Int)) := by omega
                                              by_cases h2 : ad1 + df.n ≤ 1048576
                                              · have g2 : ¬ ((1048576 : Int) < (ad1 : Int) + ((df.n : Nat) : Int)) := by omega
                                                go_wp2_with fail
                                                go_meet
                                                case rel => exact ⟨ad1 + df.n, by simp, h2, rfl⟩
                                              · have g2 : (1048576 : Int) < (ad1 : Int) + ((df.n : Nat) : Int) := by omega
                                                go_wp2_with fail
                                                go_ret
                                                exact ⟨_, rfl, HBW.out⟩
                                  case rest =>
                                    as_aux_lemma =>
                                      obtain ⟨a9, rfl, ha9, hwd⟩ := hcut
                                      have hwd2 := hwd.symm
                                      subst hwd2
                                      clear hwd
                                      have cca11 : wb.cell? ⟨w.heap.size, 11, none⟩ = some (.slice Hl.p.a Hl.p.n Hl.p.c) := (cell_of_row _ _ 11 _ _ (0, 0) HBL.out).trans rfl
                                      rcases Nat.lt_or_ge 1048576 (Hl.p.n) with h1 | h1
                                      · have g1 : (1048576 : Int) < ((Hl.p.n : Nat) : Int) := by omega
                                        go_wp2_with fail
                                        go_ret
                                        exact ⟨_, rfl, HBW.out⟩
                                      have g1 : ¬ ((1048576 : Int) < ((Hl.p.n : Nat) : Int)) := by omega
                                      go_upto_if 183 with fail
                                      go_cut [5] from 173 to 183 (fun a wd => ∃ m : Nat, a = .int .i64 m ∧ m ≤ 1048576 ∧ wd = wb)
                                      case first =>
                                        as_aux_lemma =>
                                          by_cases h2 : a9 + Hl.p.n ≤ 1048576
                                          · have g2 : ¬ ((1048576 : Int) < (a9 : Int) + ((Hl.p.n : Nat) : Int)) := by omega
                                            go_wp2_with fail
                                            go_meet
                                            case rel => exact ⟨a9 + Hl.p.n, by simp, h2, rfl⟩
                                          · have g2 : (1048576 : Int) < (a9 : Int) + ((Hl.p.n : Nat) : Int) := by omega
                                            go_wp2_with fail
                                            go_ret
                                            exact ⟨_, rfl, HBW.out⟩
                                      case rest =>
                                        as_aux_lemma =>
                                          obtain ⟨a10, rfl, ha10, hwd⟩ := hcut
                                          have hwd2 := hwd.symm
                                          subst hwd2
                                          have LENa10 := h1
                                          clear hwd h1 g1
                                          go_wp2_with fail
                                          go_loopw [8, 5] (fun i a wr => ∃ k m_ : Nat, i = .int .i64 k ∧ a = .int .i64 m_ ∧ k ≤ Hl.p.n ∧ m_ ≤ 1048576 ∧ wr = wb) (fun i _ _ => Hl.p.n - (intOf i).toNat)
                                          case atStart => exact ⟨0, a10, rfl, rfl, by omega, by assumption, rfl⟩
                                          case round =>
                                            obtain ⟨k, map, rfl, rfl, hk, hm, hwr⟩ := hrel
                                            have hwr2 := hwr.symm
                                            subst hwr2
                                            clear hwr
                                            by_cases hlt : k < Hl.p.n
                                            · have k0 : (0 : Int) ≤ (k : Int) := by omega
                                              have k1 : (k : Int) < (Hl.p.n : Int) := by omega
                                              obtain ⟨b0, o0, ha0, hc0⟩ := HVL.out.rp (by have := HVL.out.lp; omega)
                                              obtain ⟨y, hy⟩ : ∃ y, pl[k]? = some y := ⟨pl[k]'(by have := HVL.out.lp; omega), by simp⟩
                                              obtain ⟨xx, hxx, _, hcd⟩ := HVL.out.px.get k y hy
                                              have cS0 : wb.cell? ⟨b0, o0 + k * 10 + 9, none⟩ = some (.slice y.co.a y.co.n y.co.c) := cell_below (hc0 k y hy 9 _ rfl) HBW.out
                                              have HCD := hidMk hcd
                                              obtain ⟨⟨ca, cm, cq⟩, hco⟩ : ∃ s : Sl, s = y.co := ⟨_, rfl⟩
                                              rw [← hco] at cS0 HCD
                                              simp only at cS0
                                              have lS := World.block_lt_of_cell? _ _ cS0
                                              clear hc0 hy hxx hcd hco
                                              rw [ha0] at cca11
                                              clear ha0
                                              rcases Nat.lt_or_ge 1048576 cm with h1 | h1
                                              · have g1 : (1048576 : Int) < ((cm : Nat) : Int) := by omega
                                                go_wp2_with fail
                                                go_ret
                                                exact ⟨_, rfl, HBW.out⟩
                                              have g1 : ¬ ((1048576 : Int) < ((cm : Nat) : Int)) := by omega
                                              rcases Nat.lt_or_ge 1048576 (map + cm) with h2 | h2
                                              · have g2 : (1048576 : Int) < (map : Int) + ((cm : Nat) : Int) := by omega
                                                go_wp2_with fail
                                                go_ret
                                                exact ⟨_, rfl, HBW.out⟩
                                              have g2 : ¬ ((1048576 : Int) < (map : Int) + ((cm : Nat) : Int)) := by omega
                                              go_wp2_with fail
                                              go_loopw [9, 5] (fun i a wr => ∃ j m_ : Nat, i = .int .i64 j ∧ a = .int .i64 m_ ∧ j ≤ cm ∧ m_ ≤ 1048576 ∧ wr = wb) (fun i _ _ => cm - (intOf i).toNat)
                                              case atStart => exact ⟨0, map + cm, rfl, by simp, by omega, h2, rfl⟩
                                              case round =>
                                                obtain ⟨j, kap, rfl, rfl, hj, hm2, hwr⟩ := hrel
                                                have hwr2 := hwr.symm
                                                subst hwr2
                                                clear hwr
                                                by_cases hjt : j < cm
                                                · have j0 : (0 : Int) ≤ (j : Int) := by omega
                                                  have j1 : (j : Int) < (cm : Int) := by omega
                                                  obtain ⟨e0, f0, g0, t0⟩ := HCD.out.2 (by have := HCD.out.1; simp only at this; omega)
                                                  obtain ⟨s, hs⟩ : ∃ s, xx.2[j]? = some s := ⟨xx.2[j]'(by have := HCD.out.1; simp only at this; omega), by simp⟩
                                                  have s0' : wb.cell? ⟨e0, f0 + j, none⟩ = some (.string s) := cell_below (by have := t0 j s hs 0 (.string s) rfl; simpa using this) HBW.out
                                                  have ls := World.block_lt_of_cell? _ _ s0'
                                                  simp only at g0
                                                  subst g0
                                                  clear t0 hs
                                                  rcases Nat.lt_or_ge 1048576 s.size with h3 | h3
                                                  · have g3 : (1048576 : Int) < ((s.size : Nat) : Int) := by omega
                                                    go_wp2_with fail
                                                    go_ret
                                                    exact ⟨_, rfl, HBW.out⟩
                                                  have g3 : ¬ ((1048576 : Int) < ((s.size : Nat) : Int)) := by omega
                                                  by_cases h4 : kap + s.size ≤ 1048576
                                                  · have g4 : ¬ ((1048576 : Int) < (kap : Int) + ((s.size : Nat) : Int)) := by omega
                                                    go_wp2_with fail
                                                    go_light
                                                    exact ⟨⟨j + 1, kap + s.size, by go_num, by simp, by omega, h4, (by first | rfl | trivial)⟩, by simp [intOf]; omega⟩
                                                  · have g4 : (1048576 : Int) < (kap : Int) + ((s.size : Nat) : Int) := by omega
                                                    go_wp2_with fail
                                                    go_ret
                                                    exact ⟨_, rfl, HBW.out⟩
                                                · have j1 : ¬ ((j : Int) < (cm : Int)) := by omega
                                                  go_wp2_with fail
                                                  go_light
                                                  exact ⟨⟨k + 1, kap, by go_num, rfl, by omega, hm2, (by first | rfl | trivial)⟩, by simp [intOf]; omega⟩
                                            · have k1 : ¬ ((k : Int) < (Hl.p.n : Int)) := by omega
                                              have cca12 : wb.cell? ⟨w.heap.size, 12, none⟩ = some (.slice Hl.t.a Hl.t.n Hl.t.c) := (cell_of_row _ _ 12 _ _ (0, 0) HBL.out).trans rfl
                                              rcases Nat.lt_or_ge 1048576 (Hl.t.n) with h1 | h1
                                              · have g1 : (1048576 : Int) < ((Hl.t.n : Nat) : Int) := by omega
                                                go_wp2_with fail
                                                go_ret
                                                exact ⟨_, rfl, HBW.out⟩
                                              have g1 : ¬ ((1048576 : Int) < ((Hl.t.n : Nat) : Int)) := by omega
                                              go_upto_if 256 with fail
                                              go_cut [5] from 184 to 256 (fun a wd => ∃ m : Nat, a = .int .i64 m ∧ m ≤ 1048576 ∧ wd = wb)
                                              case first =>
                                                as_aux_lemma =>
                                                  by_cases h2 : map + Hl.t.n ≤ 1048576
                                                  · have g2 : ¬ ((1048576 : Int) < (map : Int) + ((Hl.t.n : Nat) : Int)) := by omega
                                                    go_wp2_with fail
                                                    go_meet
                                                    case rel => exact ⟨map + Hl.t.n, by simp, h2, rfl⟩
                                                  · have g2 : (1048576 : Int) < (map : Int) + ((Hl.t.n : Nat) : Int) := by omega
                                                    go_wp2_with fail
                                                    go_ret
                                                    exact ⟨_, rfl, HBW.out⟩
                                              case rest =>
                                                as_aux_lemma =>
                                                  obtain ⟨a12, rfl, ha12, hwd⟩ := hcut
                                                  have hwd2 := hwd.symm
                                                  subst hwd2
                                                  have LENa12 := h1
                                                  clear hwd h1 g1
                                                  have cca13 : wb.cell? ⟨w.heap.size, 13, none⟩ = some (.slice Hl.q.a Hl.q.n Hl.q.c) := (cell_of_row _ _ 13 _ _ (0, 0) HBL.out).trans rfl
                                                  rcases Nat.lt_or_ge 1048576 (Hl.q.n) with h1 | h1
                                                  · have g1 : (1048576 : Int) < ((Hl.q.n : Nat) : Int) := by omega
                                                    go_wp2_with fail
                                                    go_ret
                                                    exact ⟨_, rfl, HBW.out⟩
                                                  have g1 : ¬ ((1048576 : Int) < ((Hl.q.n : Nat) : Int)) := by omega
                                                  go_upto_if 267 with fail
                                                  go_cut [5] from 257 to 267 (fun a wd => ∃ m : Nat, a = .int .i64 m ∧ m ≤ 1048576 ∧ wd = wb)
                                                  case first =>
                                                    as_aux_lemma =>
                                                      by_cases h2 : a12 + Hl.q.n ≤ 1048576
                                                      · have g2 : ¬ ((1048576 : Int) < (a12 : Int) + ((Hl.q.n : Nat) : Int)) := by omega
                                                        go_wp2_with fail
                                                        go_meet
                                                        case rel => exact ⟨a12 + Hl.q.n, by simp, h2, rfl⟩
                                                      · have g2 : (1048576 : Int) < (a12 : Int) + ((Hl.q.n : Nat) : Int) := by omega
                                                        go_wp2_with fail
                                                        go_ret
                                                        exact ⟨_, rfl, HBW.out⟩
                                                  case rest =>
                                                    as_aux_lemma =>
                                                      obtain ⟨a13, rfl, ha13, hwd⟩ := hcut
                                                      have hwd2 := hwd.symm
                                                      subst hwd2
                                                      have LENa13 := h1
                                                      clear hwd h1 g1
                                                      go_wp2_with fail
                                                      go_loopw [10, 5] (fun i a wr => ∃ k m_ : Nat, i = .int .i64 k ∧ a = .int .i64 m_ ∧ k ≤ Hl.q.n ∧ m_ ≤ 1048576 ∧ wr = wb) (fun i _ _ => Hl.q.n - (intOf i).toNat)
                                                      case atStart => exact ⟨0, a13, rfl, rfl, by omega, by assumption, rfl⟩
                                                      case round =>
                                                        obtain ⟨k, maq, rfl, rfl, hk, hm, hwr⟩ := hrel
                                                        have hwr2 := hwr.symm
                                                        subst hwr2
                                                        clear hwr
                                                        by_cases hlt : k < Hl.q.n
                                                        · have k0 : (0 : Int) ≤ (k : Int) := by omega
                                                          have k1 : (k : Int) < (Hl.q.n : Int) := by omega
                                                          obtain ⟨b0, o0, ha0, hc0⟩ := HVL.out.rq (by have := HVL.out.lq; omega)
                                                          obtain ⟨x, hx⟩ : ∃ x, Ll.q[k]? = some x := ⟨Ll.q[k]'(by have := HVL.out.lq; omega), by simp⟩
                                                          have cS : wb.cell? ⟨b0, o0 + k * 8 + 5, none⟩ = some (.string x.nm) := cell_below (hc0 k x hx 5 _ rfl) HBW.out
                                                          have lS := World.block_lt_of_cell? _ _ cS
                                                          clear hc0 hx
                                                          rw [ha0] at cca13
                                                          clear ha0
                                                          rcases Nat.lt_or_ge 1048576 x.nm.size with h1 | h1
                                                          · have g1 : (1048576 : Int) < ((x.nm.size : Nat) : Int) := by omega
                                                            go_wp2_with fail
                                                            go_ret
                                                            exact ⟨_, rfl, HBW.out⟩
                                                          have g1 : ¬ ((1048576 : Int) < ((x.nm.size : Nat) : Int)) := by omega
                                                          by_cases h2 : maq + x.nm.size ≤ 1048576
                                                          · have g2 : ¬ ((1048576 : Int) < (maq : Int) + ((x.nm.size : Nat) : Int)) := by omega
                                                            go_wp2_with fail
                                                            go_light
                                                            exact ⟨⟨k + 1, maq + x.nm.size, by go_num, by simp, by omega, h2, (by first | rfl | trivial)⟩, by simp [intOf]; omega⟩
                                                          · have g2 : (1048576 : Int) < (maq : Int) + ((x.nm.size : Nat) : Int) := by omega
                                                            go_wp2_with fail
                                                            go_ret
                                                            exact ⟨_, rfl, HBW.out⟩
                                                        · have k1 : ¬ ((k : Int) < (Hl.q.n : Int)) := by omega
                                                          have ccb0 : wb.cell? ⟨w.heap.size + 1, 0, none⟩ = some (.string Tu.i) := (cell_of_row _ _ 0 _ _ (0, 0) HBU.out).trans rfl
                                                          rcases Nat.lt_or_ge 1048576 (Tu.i.size) with h1 | h1
                                                          · have g1 : (1048576 : Int) < ((Tu.i.size : Nat) : Int) := by omega
                                                            go_wp2_with fail
                                                            go_ret
                                                            exact ⟨_, rfl, HBW.out⟩
                                                          have g1 : ¬ ((1048576 : Int) < ((Tu.i.size : Nat) : Int)) := by omega
                                                          go_upto_if 304 with fail
                                                          go_cut [5] from 294 to 304 (fun a wd => ∃ m : Nat, a = .int .i64 m ∧ m ≤ 1048576 ∧ wd = wb)
                                                          case first =>
                                                            as_aux_lemma =>
                                                              by_cases h2 : maq + Tu.i.size ≤ 1048576
                                                              · have g2 : ¬ ((1048576 : Int) < (maq : Int) + ((Tu.i.size : Nat) : Int)) := by omega
                                                                go_wp2_with fail
                                                                go_meet
                                                                case rel => exact ⟨maq + Tu.i.size, by simp, h2, rfl⟩
                                                              · have g2 : (1048576 : Int) < (maq : Int) + ((Tu.i.size : Nat) : Int) := by omega
                                                                go_wp2_with fail
                                                                go_ret
                                                                exact ⟨_, rfl, HBW.out⟩
                                                          case rest =>
                                                            as_aux_lemma =>
                                                              obtain ⟨b1, rfl, hb1, hwd⟩ := hcut
                                                              have hwd2 := hwd.symm
                                                              subst hwd2
                                                              have LENb1 := h1
                                                              clear hwd h1 g1
                                                              have ccb1 : wb.cell? ⟨w.heap.size + 1, 1, none⟩ = some (.string Tu.nm) := (cell_of_row _ _ 1 _ _ (0, 0) HBU.out).trans rfl
                                                              rcases Nat.lt_or_ge 1048576 (Tu.nm.size) with h1 | h1
                                                              · have g1 : (1048576 : Int) < ((Tu.nm.size : Nat) : Int) := by omega
                                                                go_wp2_with fail
                                                                go_ret
                                                                exact ⟨_, rfl, HBW.out⟩
                                                              have g1 : ¬ ((1048576 : Int) < ((Tu.nm.size : Nat) : Int)) := by omega
                                                              go_upto_if 315 with fail
                                                              go_cut [5] from 305 to 315 (fun a wd => ∃ m : Nat, a = .int .i64 m ∧ m ≤ 1048576 ∧ wd = wb)
                                                              case first =>
                                                                as_aux_lemma =>
                                                                  by_cases h2 : b1 + Tu.nm.size ≤ 1048576
                                                                  · have g2 : ¬ ((1048576 : Int) < (b1 : Int) + ((Tu.nm.size : Nat) : Int)) := by omega
                                                                    go_wp2_with fail
                                                                    go_meet
                                                                    case rel => exact ⟨b1 + Tu.nm.size, by simp, h2, rfl⟩
                                                                  · have g2 : (1048576 : Int) < (b1 : Int) + ((Tu.nm.size : Nat) : Int) := by omega
                                                                    go_wp2_with fail
                                                                    go_ret
                                                                    exact ⟨_, rfl, HBW.out⟩
                                                              case rest =>
                                                                as_aux_lemma =>
                                                                  obtain ⟨b2, rfl, hb2, hwd⟩ := hcut
                                                                  have hwd2 := hwd.symm
                                                                  subst hwd2
                                                                  have LENb2 := h1
                                                                  clear hwd h1 g1
                                                                  have ccb6 : wb.cell? ⟨w.heap.size + 1, 6, none⟩ = some (.slice Hu.r.a Hu.r.n Hu.r.c) := (cell_of_row _ _ 6 _ _ (0, 0) HBU.out).trans rfl
                                                                  rcases Nat.lt_or_ge 1048576 (Hu.r.n) with h1 | h1
                                                                  · have g1 : (1048576 : Int) < ((Hu.r.n : Nat) : Int) := by omega
                                                                    go_wp2_with fail
                                                                    go_ret
                                                                    exact ⟨_, rfl, HBW.out⟩
                                                                  have g1 : ¬ ((1048576 : Int) < ((Hu.r.n : Nat) : Int)) := by omega
                                                                  go_upto_if 326 with fail
                                                                  go_cut [5] from 316 to 326 (fun a wd => ∃ m : Nat, a = .int .i64 m ∧ m ≤ 1048576 ∧ wd = wb)
                                                                  case first =>
                                                                    as_aux_lemma =>
                                                                      by_cases h2 : b2 + Hu.r.n ≤ 1048576
                                                                      · have g2 : ¬ ((1048576 : Int) < (b2 : Int) + ((Hu.r.n : Nat) : Int)) := by omega
                                                                        go_wp2_with fail
                                                                        go_meet
                                                                        case rel => exact ⟨b2 + Hu.r.n, by simp, h2, rfl⟩
                                                                      · have g2 : (1048576 : Int) < (b2 : Int) + ((Hu.r.n : Nat) : Int) := by omega
                                                                        go_wp2_with fail
                                                                        go_ret
                                                                        exact ⟨_, rfl, HBW.out⟩
                                                                  case rest =>
                                                                    as_aux_lemma =>
                                                                      obtain ⟨b3, rfl, hb3, hwd⟩ := hcut
                                                                      have hwd2 := hwd.symm
                                                                      subst hwd2
                                                                      have LENb3 := h1
                                                                      clear hwd h1 g1
                                                                      have ccb7 : wb.cell? ⟨w.heap.size + 1, 7, none⟩ = some (.slice Hu.s.a Hu.s.n Hu.s.c) := (cell_of_row _ _ 7 _ _ (0, 0) HBU.out).trans rfl
                                                                      rcases Nat.lt_or_ge 1048576 (Hu.s.n) with h1 | h1
                                                                      · have g1 : (1048576 : Int) < ((Hu.s.n : Nat) : Int) := by omega
                                                                        go_wp2_with fail
                                                                        go_ret
                                                                        exact ⟨_, rfl, HBW.out⟩
                                                                      have g1 : ¬ ((1048576 : Int) < ((Hu.s.n : Nat) : Int)) := by omega
                                                                      go_upto_if 337 with fail
                                                                      go_cut [5] from 327 to 337 (fun a wd => ∃ m : Nat, a = .int .i64 m ∧ m ≤ 1048576 ∧ wd = wb)
                                                                      case first =>
                                                                        as_aux_lemma =>
                                                                          by_cases h2 : b3 + Hu.s.n ≤ 1048576
                                                                          · have g2 : ¬ ((1048576 : Int) < (b3 : Int) + ((Hu.s.n : Nat) : Int)) := by omega
                                                                            go_wp2_with fail
                                                                            go_meet
                                                                            case rel => exact ⟨b3 + Hu.s.n, by simp, h2, rfl⟩
                                                                          · have g2 : (1048576 : Int) < (b3 : Int) + ((Hu.s.n : Nat) : Int) := by omega
                                                                            go_wp2_with fail
                                                                            go_ret
                                                                            exact ⟨_, rfl, HBW.out⟩
                                                                      case rest =>
                                                                        as_aux_lemma =>
                                                                          obtain ⟨b4, rfl, hb4, hwd⟩ := hcut
                                                                          have hwd2 := hwd.symm
                                                                          subst hwd2
                                                                          have LENb4 := h1
                                                                          clear hwd h1 g1
                                                                          have ccb8 : wb.cell? ⟨w.heap.size + 1, 8, none⟩ = some (.slice Hu.c.a Hu.c.n Hu.c.c) := (cell_of_row _ _ 8 _ _ (0, 0) HBU.out).trans rfl
                                                                          rcases Nat.lt_or_ge 1048576 (Hu.c.n) with h1 | h1
                                                                          · have g1 : (1048576 : Int) < ((Hu.c.n : Nat) : Int) := by omega
                                                                            go_wp2_with fail
                                                                            go_ret
                                                                            exact ⟨_, rfl, HBW.out⟩
                                                                          have g1 : ¬ ((1048576 : Int) < ((Hu.c.n : Nat) : Int)) := by omega
                                                                          go_upto_if 348 with fail
                                                                          go_cut [5] from 338 to 348 (fun a wd => ∃ m : Nat, a = .int .i64 m ∧ m ≤ 1048576 ∧ wd = wb)
                                                                          case first =>
                                                                            as_aux_lemma =>
                                                                              by_cases h2 : b4 + Hu.c.n ≤ 1048576
                                                                              · have g2 : ¬ ((1048576 : Int) < (b4 : Int) + ((Hu.c.n : Nat) : Int)) := by omega
                                                                                go_wp2_with fail
                                                                                go_meet
                                                                                case rel => exact ⟨b4 + Hu.c.n, by simp, h2, rfl⟩
                                                                              · have g2 : (1048576 : Int) < (b4 : Int) + ((Hu.c.n : Nat) : Int) := by omega
                                                                                go_wp2_with fail
                                                                                go_ret
                                                                                exact ⟨_, rfl, HBW.out⟩
                                                                          case rest =>
                                                                            as_aux_lemma =>
                                                                              obtain ⟨b5, rfl, hb5, hwd⟩ := hcut
                                                                              have hwd2 := hwd.symm
                                                                              subst hwd2
                                                                              have LENb5 := h1
                                                                              clear hwd h1 g1
                                                                              go_wp2_with fail
                                                                              go_loopw [11, 5] (fun i a wr => ∃ k m_ : Nat, i = .int .i64 k ∧ a = .int .i64 m_ ∧ k ≤ Hu.c.n ∧ m_ ≤ 1048576 ∧ wr = wb) (fun i _ _ => Hu.c.n - (intOf i).toNat)
                                                                              case atStart => exact ⟨0, b5, rfl, rfl, by omega, by assumption, rfl⟩
                                                                              case round =>
                                                                                obtain ⟨k, mbc, rfl, rfl, hk, hm, hwr⟩ := hrel
                                                                                have hwr2 := hwr.symm
                                                                                subst hwr2
                                                                                clear hwr
                                                                                by_cases hlt : k < Hu.c.n
                                                                                · have k0 : (0 : Int) ≤ (k : Int) := by omega
                                                                                  have k1 : (k : Int) < (Hu.c.n : Int) := by omega
                                                                                  obtain ⟨b0, o0, ha0, hc0⟩ := HVU.out.rc (by have := HVU.out.lc; omega)
                                                                                  obtain ⟨x, hx⟩ : ∃ x, Lu.c[k]? = some x := ⟨Lu.c[k]'(by have := HVU.out.lc; omega), by simp⟩
                                                                                  have cS : wb.cell? ⟨b0, o0 + k * 3 + 2, none⟩ = some (.string x.nm) := cell_below (hc0 k x hx 2 _ rfl) HBW.out
                                                                                  have lS := World.block_lt_of_cell? _ _ cS
                                                                                  clear hc0 hx
                                                                                  rw [ha0] at ccb8
                                                                                  clear ha0
                                                                                  rcases Nat.lt_or_ge 1048576 x.nm.size with h1 | h1
                                                                                  · have g1 : (1048576 : Int) < ((x.nm.size : Nat) : Int) := by omega
                                                                                    go_wp2_with fail
                                                                                    go_ret
                                                                                    exact ⟨_, rfl, HBW.out⟩
                                                                                  have g1 : ¬ ((1048576 : Int) < ((x.nm.size : Nat) : Int)) := by omega
                                                                                  by_cases h2 : mbc + x.nm.size ≤ 1048576
                                                                                  · have g2 : ¬ ((1048576 : Int) < (mbc : Int) + ((x.nm.size : Nat) : Int)) := by omega
                                                                                    go_wp2_with fail
                                                                                    go_light
                                                                                    exact ⟨⟨k + 1, mbc + x.nm.size, by go_num, by simp, by omega, h2, (by first | rfl | trivial)⟩, by simp [intOf]; omega⟩
                                                                                  · have g2 : (1048576 : Int) < (mbc : Int) + ((x.nm.size : Nat) : Int) := by omega
                                                                                    go_wp2_with fail
                                                                                    go_ret
                                                                                    exact ⟨_, rfl, HBW.out⟩
                                                                                · have k1 : ¬ ((k : Int) < (Hu.c.n : Int)) := by omega
                                                                                  have ccb9 : wb.cell? ⟨w.heap.size + 1, 9, none⟩ = some (.slice Hu.h.a Hu.h.n Hu.h.c) := (cell_of_row _ _ 9 _ _ (0, 0) HBU.out).trans rfl
                                                                                  rcases Nat.lt_or_ge 1048576 (Hu.h.n) with h1 | h1
                                                                                  · have g1 : (1048576 : Int) < ((Hu.h.n : Nat) : Int) := by omega
                                                                                    go_wp2_with fail
                                                                                    go_ret
                                                                                    exact ⟨_, rfl, HBW.out⟩
                                                                                  have g1 : ¬ ((1048576 : Int) < ((Hu.h.n : Nat) : Int)) := by omega
                                                                                  go_upto_if 385 with fail
                                                                                  go_cut [5] from 349 to 385 (fun a wd => ∃ m : Nat, a = .int .i64 m ∧ m ≤ 1048576 ∧ wd = wb)
                                                                                  case first =>
                                                                                    as_aux_lemma =>
                                                                                      by_cases h2 : mbc + Hu.h.n ≤ 1048576
                                                                                      · have g2 : ¬ ((1048576 : Int) < (mbc : Int) + ((Hu.h.n : Nat) : Int)) := by omega
                                                                                        go_wp2_with fail
                                                                                        go_meet
                                                                                        case rel => exact ⟨mbc + Hu.h.n, by simp, h2, rfl⟩
                                                                                      · have g2 : (1048576 : Int) < (mbc : Int) + ((Hu.h.n : Nat) : Int) := by omega
                                                                                        go_wp2_with fail
                                                                                        go_ret
                                                                                        exact ⟨_, rfl, HBW.out⟩
                                                                                  case rest =>
                                                                                    as_aux_lemma =>
                                                                                      obtain ⟨b7, rfl, hb7, hwd⟩ := hcut
                                                                                      have hwd2 := hwd.symm
                                                                                      subst hwd2
                                                                                      have LENb7 := h1
                                                                                      clear hwd h1 g1
                                                                                      go_wp2_with fail
                                                                                      go_loopw [12, 5] (fun i a wr => ∃ k m_ : Nat, i = .int .i64 k ∧ a = .int .i64 m_ ∧ k ≤ Hu.h.n ∧ m_ ≤ 1048576 ∧ wr = wb) (fun i _ _ => Hu.h.n - (intOf i).toNat)
                                                                                      case atStart => exact ⟨0, b7, rfl, rfl, by omega, by assumption, rfl⟩
                                                                                      case round =>
                                                                                        obtain ⟨k, mbh, rfl, rfl, hk, hm, hwr⟩ := hrel
                                                                                        have hwr2 := hwr.symm
                                                                                        subst hwr2
                                                                                        clear hwr
                                                                                        by_cases hlt : k < Hu.h.n
                                                                                        · have k1 : (k : Int) < (Hu.h.n : Int) := by omega
                                                                                          by_cases h2 : mbh + 4 ≤ 1048576
                                                                                          · have g2 : ¬ ((1048576 : Int) < (mbh : Int) + 4) := by omega
                                                                                            go_wp2_with fail
                                                                                            go_light
                                                                                            exact ⟨⟨k + 1, mbh + 4, by go_num, by simp, by omega, h2, (by first | rfl | trivial)⟩, by simp [intOf]; omega⟩
                                                                                          · have g2 : (1048576 : Int) < (mbh : Int) + 4 := by omega
                                                                                            go_wp2_with fail
                                                                                            go_ret
                                                                                            exact ⟨_, rfl, HBW.out⟩
                                                                                        · have k1 : ¬ ((k : Int) < (Hu.h.n : Int)) := by omega
                                                                                          have ccb10 : wb.cell? ⟨w.heap.size + 1, 10, none⟩ = some (.pointer Du) := (cell_of_row _ _ 10 _ _ (0, 0) HBU.out).trans rfl
                                                                                          go_upto_if 399 with fail
                                                                                          go_cut [5] from 375 to 399 (fun a wd => ∃ m_ : Nat, a = .int .i64 m_ ∧ m_ ≤ 1048576 ∧ wd = wb)
                                                                                          case first =>
                                                                                            rcases HDU.out with ⟨hD, hd⟩ | ⟨B, bo, v, dr, ds, df, hD, hd, h0, h1, h2, h3, hlr, hls, hlf, kr, ks, kf⟩
                                                                                            · rw [hD] at ccb10 ⊢
                                                                                              go_wp2_with fail
                                                                                              go_meet
                                                                                              case rel => exact ⟨mbh, rfl, by assumption, rfl⟩
                                                                                            · rw [hD] at ccb10 ⊢
                                                                                              have e1 := cell_below h1 HBW.out
                                                                                              have e2 := cell_below h2 HBW.out
                                                                                              have e3 := cell_below h3 HBW.out
                                                                                              have lB : B < wb.heap.size := World.block_lt_of_cell? _ _ e1
                                                                                              clear h0 h1 h2 h3 hlr hls hlf kr ks kf hd
                                                                                              rcases Nat.lt_or_ge 1048576 (dr.n) with h1 | h1
                                                                                              · have g1 : (1048576 : Int) < ((dr.n : Nat) : Int) := by omega
                                                                                                go_wp2_with fail
                                                                                                go_ret
                                                                                                exact ⟨_, rfl, HBW.out⟩
                                                                                              have g1 : ¬ ((1048576 : Int) < ((dr.n : Nat) : Int)) := by omega
                                                                                              go_upto_if 416 with fail
                                                                                              go_cut [5] from 400 to 416 (fun a wd => ∃ m : Nat, a = .int .i64 m ∧ m ≤ 1048576 ∧ wd = wb)
                                                                                              case first =>
                                                                                                as_aux_lemma =>
                                                                                                  by_cases h2 : mbh + dr.n ≤ 1048576
                                                                                                  · have g2 : ¬ ((1048576 : Int) < (mbh : Int) + ((dr.n : Nat) : Int)) := by omega
                                                                                                    go_wp2_with fail
                                                                                                    go_meet
                                                                                                    case rel => exact ⟨mbh + dr.n, by simp, h2, rfl⟩
                                                                                                  · have g2 : (1048576 : Int) < (mbh : Int) + ((dr.n : Nat) : Int) := by omega
                                                                                                    go_wp2_with fail
                                                                                                    go_ret
                                                                                                    exact ⟨_, rfl, HBW.out⟩
                                                                                              case rest =>
                                                                                                as_aux_lemma =>
                                                                                                  obtain ⟨bd0, rfl, hbd0, hwd⟩ := hcut
                                                                                                  have hwd2 := hwd.symm
                                                                                                  subst hwd2
                                                                                                  have LENbd0 := h1
                                                                                                  clear hwd h1 g1
                                                                                                  rcases Nat.lt_or_ge 1048576 (ds.n) with h1 | h1
                                                                                                  · have g1 : (1048576 : Int) < ((ds.n : Nat) : Int) := by omega
                                                                                                    go_wp2_with fail
                                                                                                    go_ret
                                                                                                    exact ⟨_, rfl, HBW.out⟩
                                                                                                  have g1 : ¬ ((1048576 : Int) < ((ds.n : Nat) : Int)) := by omega
                                                                                                  go_upto_if 433 with fail
                                                                                                  go_cut [5] from 417 to 433 (fun a wd => ∃ m : Nat, a = .int .i64 m ∧ m ≤ 1048576 ∧ wd = wb)
                                                                                                  case first =>
                                                                                                    as_aux_lemma =>
                                                                                                      by_cases h2 : bd0 + ds.n ≤ 1048576
                                                                                                      · have g2 : ¬ ((1048576 : Int) < (bd0 : Int) + ((ds.n : Nat) : Int)) := by omega
                                                                                                        go_wp2_with fail
                                                                                                        go_meet
                                                                                                        case rel => exact ⟨bd0 + ds.n, by simp, h2, rfl⟩
                                                                                                      · have g2 : (1048576 : Int) < (bd0 : Int) + ((ds.n : Nat) : Int) := by omega
                                                                                                        go_wp2_with fail
                                                                                                        go_ret
                                                                                                        exact ⟨_, rfl, HBW.out⟩
                                                                                                  case rest =>
                                                                                                    as_aux_lemma =>
                                                                                                      obtain ⟨bd1, rfl, hbd1, hwd⟩ := hcut
                                                                                                      have hwd2 := hwd.symm
                                                                                                      subst hwd2
                                                                                                      have LENbd1 := h1
                                                                                                      clear hwd h1 g1
                                                                                                      rcases Nat.lt_or_ge 1048576 (df.n) with h1 | h1
                                                                                                      · have g1 : (1048576 : Int) < ((df.n : Nat) : Int) := by omega
                                                                                                        go_wp2_with fail
                                                                                                        go_ret
                                                                                                        exact ⟨_, rfl, HBW.out⟩
                                                                                                      have g1 : ¬ ((1048576 : Int) < ((df.n : Nat) : Int)) := by omega
                                                                                                      by_cases h2 : bd1 + df.n ≤ 1048576
                                                                                                      · have g2 : ¬ ((1048576 : Int) < (bd1 : Int) + ((df.n : Nat) : Int)) := by omega
                                                                                                        go_wp2_with fail
                                                                                                        go_meet
                                                                                                        case rel => exact ⟨bd1 + df.n, by simp, h2, rfl⟩
                                                                                                      · have g2 : (1048576 : Int) < (bd1 : Int) + ((df.n : Nat) : Int) := by omega
                                                                                                        go_wp2_with fail
                                                                                                        go_ret
                                                                                                        exact ⟨_, rfl, HBW.out⟩
                                                                                          case rest =>
                                                                                            as_aux_lemma =>
                                                                                              obtain ⟨b9, rfl, hb9, hwd⟩ := hcut
                                                                                              have hwd2 := hwd.symm
                                                                                              subst hwd2
                                                                                              clear hwd
                                                                                              have ccb11 : wb.cell? ⟨w.heap.size + 1, 11, none⟩ = some (.slice Hu.p.a Hu.p.n Hu.p.c) := (cell_of_row _ _ 11 _ _ (0, 0) HBU.out).trans rfl
                                                                                              rcases Nat.lt_or_ge 1048576 (Hu.p.n) with h1 | h1
                                                                                              · have g1 : (1048576 : Int) < ((Hu.p.n : Nat) : Int) := by omega
                                                                                                go_wp2_with fail
                                                                                                go_ret
                                                                                                exact ⟨_, rfl, HBW.out⟩
                                                                                              have g1 : ¬ ((1048576 : Int) < ((Hu.p.n : Nat) : Int)) := by omega
                                                                                              go_upto_if 461 with fail
                                                                                              go_cut [5] from 451 to 461 (fun a wd => ∃ m : Nat, a = .int .i64 m ∧ m ≤ 1048576 ∧ wd = wb)
                                                                                              case first =>
                                                                                                as_aux_lemma =>
                                                                                                  by_cases h2 : b9 + Hu.p.n ≤ 1048576
                                                                                                  · have g2 : ¬ ((1048576 : Int) < (b9 : Int) + ((Hu.p.n : Nat) : Int)) := by omega
                                                                                                    go_wp2_with fail
                                                                                                    go_meet
                                                                                                    case rel => exact ⟨b9 + Hu.p.n, by simp, h2, rfl⟩
                                                                                                  · have g2 : (1048576 : Int) < (b9 : Int) + ((Hu.p.n : Nat) : Int) := by omega
                                                                                                    go_wp2_with fail
                                                                                                    go_ret
                                                                                                    exact ⟨_, rfl, HBW.out⟩
                                                                                              case rest =>
                                                                                                as_aux_lemma =>
                                                                                                  obtain ⟨b10, rfl, hb10, hwd⟩ := hcut
                                                                                                  have hwd2 := hwd.symm
                                                                                                  subst hwd2
                                                                                                  have LENb10 := h1
                                                                                                  clear hwd h1 g1
                                                                                                  go_wp2_with fail
                                                                                                  go_loopw [13, 5] (fun i a wr => ∃ k m_ : Nat, i = .int .i64 k ∧ a = .int .i64 m_ ∧ k ≤ Hu.p.n ∧ m_ ≤ 1048576 ∧ wr = wb) (fun i _ _ => Hu.p.n - (intOf i).toNat)
                                                                                                  case atStart => exact ⟨0, b10, rfl, rfl, by omega, by assumption, rfl⟩
                                                                                                  case round =>
                                                                                                    obtain ⟨k, mbp, rfl, rfl, hk, hm, hwr⟩ := hrel
                                                                                                    have hwr2 := hwr.symm
                                                                                                    subst hwr2
                                                                                                    clear hwr
                                                                                                    by_cases hlt : k < Hu.p.n
                                                                                                    · have k0 : (0 : Int) ≤ (k : Int) := by omega
                                                                                                      have k1 : (k : Int) < (Hu.p.n : Int) := by omega
                                                                                                      obtain ⟨b0, o0, ha0, hc0⟩ := HVU.out.rp (by have := HVU.out.lp; omega)
                                                                                                      obtain ⟨y, hy⟩ : ∃ y, pu[k]? = some y := ⟨pu[k]'(by have := HVU.out.lp; omega), by simp⟩
                                                                                                      obtain ⟨xx, hxx, _, hcd⟩ := HVU.out.px.get k y hy
                                                                                                      have cS0 : wb.cell? ⟨b0, o0 + k * 10 + 9, none⟩ = some (.slice y.co.a y.co.n y.co.c) := cell_below (hc0 k y hy 9 _ rfl) HBW.out
                                                                                                      have HCD := hidMk hcd
                                                                                                      obtain ⟨⟨ca, cm, cq⟩, hco⟩ : ∃ s : Sl, s = y.co := ⟨_, rfl⟩
                                                                                                      rw [← hco] at cS0 HCD
                                                                                                      simp only at cS0
                                                                                                      have lS := World.block_lt_of_cell? _ _ cS0
                                                                                                      clear hc0 hy hxx hcd hco
                                                                                                      rw [ha0] at ccb11
                                                                                                      clear ha0
                                                                                                      rcases Nat.lt_or_ge 1048576 cm with h1 | h1
                                                                                                      · have g1 : (1048576 : Int) < ((cm : Nat) : Int) := by omega
                                                                                                        go_wp2_with fail
                                                                                                        go_ret
                                                                                                        exact ⟨_, rfl, HBW.out⟩
                                                                                                      have g1 : ¬ ((1048576 : Int) < ((cm : Nat) : Int)) := by omega
                                                                                                      rcases Nat.lt_or_ge 1048576 (mbp + cm) with h2 | h2
                                                                                                      · have g2 : (1048576 : Int) < (mbp : Int) + ((cm : Nat) : Int) := by omega
                                                                                                        go_wp2_with fail
                                                                                                        go_ret
                                                                                                        exact ⟨_, rfl, HBW.out⟩
                                                                                                      have g2 : ¬ ((1048576 : Int) < (mbp : Int) + ((cm : Nat) : Int)) := by omega
                                                                                                      go_wp2_with fail
                                                                                                      go_loopw [14, 5] (fun i a wr => ∃ j m_ : Nat, i = .int .i64 j ∧ a = .int .i64 m_ ∧ j ≤ cm ∧ m_ ≤ 1048576 ∧ wr = wb) (fun i _ _ => cm - (intOf i).toNat)
                                                                                                      case atStart => exact ⟨0, mbp + cm, rfl, by simp, by omega, h2, rfl⟩
                                                                                                      case round =>
                                                                                                        obtain ⟨j, kbp, rfl, rfl, hj, hm2, hwr⟩ := hrel
                                                                                                        have hwr2 := hwr.symm
                                                                                                        subst hwr2
                                                                                                        clear hwr
                                                                                                        by_cases hjt : j < cm
                                                                                                        · have j0 : (0 : Int) ≤ (j : Int) := by omega
                                                                                                          have j1 : (j : Int) < (cm : Int) := by omega
                                                                                                          obtain ⟨e0, f0, g0, t0⟩ := HCD.out.2 (by have := HCD.out.1; simp only at this; omega)
                                                                                                          obtain ⟨s, hs⟩ : ∃ s, xx.2[j]? = some s := ⟨xx.2[j]'(by have := HCD.out.1; simp only at this; omega), by simp⟩
                                                                                                          have s0' : wb.cell? ⟨e0, f0 + j, none⟩ = some (.string s) := cell_below (by have := t0 j s hs 0 (.string s) rfl; simpa using this) HBW.out
                                                                                                          have ls := World.block_lt_of_cell? _ _ s0'
                                                                                                          simp only at g0
                                                                                                          subst g0
                                                                                                          clear t0 hs
                                                                                                          rcases Nat.lt_or_ge 1048576 s.size with h3 | h3
                                                                                                          · have g3 : (1048576 : Int) < ((s.size : Nat) : Int) := by omega
                                                                                                            go_wp2_with fail
                                                                                                            go_ret
                                                                                                            exact ⟨_, rfl, HBW.out⟩
                                                                                                          have g3 : ¬ ((1048576 : Int) < ((s.size : Nat) : Int)) := by omega
                                                                                                          by_cases h4 : kbp + s.size ≤ 1048576
                                                                                                          · have g4 : ¬ ((1048576 : Int) < (kbp : Int) + ((s.size : Nat) : Int)) := by omega
                                                                                                            go_wp2_with fail
                                                                                                            go_light
                                                                                                            exact ⟨⟨j + 1, kbp + s.size, by go_num, by simp, by omega, h4, (by first | rfl | trivial)⟩, by simp [intOf]; omega⟩
                                                                                                          · have g4 : (1048576 : Int) < (kbp : Int) + ((s.size : Nat) : Int) := by omega
                                                                                                            go_wp2_with fail
                                                                                                            go_ret
                                                                                                            exact ⟨_, rfl, HBW.out⟩
                                                                                                        · have j1 : ¬ ((j : Int) < (cm : Int)) := by omega
                                                                                                          go_wp2_with fail
                                                                                                          go_light
                                                                                                          exact ⟨⟨k + 1, kbp, by go_num, rfl, by omega, hm2, (by first | rfl | trivial)⟩, by simp [intOf]; omega⟩
                                                                                                    · have k1 : ¬ ((k : Int) < (Hu.p.n : Int)) := by omega
                                                                                                      have ccb12 : wb.cell? ⟨w.heap.size + 1, 12, none⟩ = some (.slice Hu.t.a Hu.t.n Hu.t.c) := (cell_of_row _ _ 12 _ _ (0, 0) HBU.out).trans rfl
                                                                                                      rcases Nat.lt_or_ge 1048576 (Hu.t.n) with h1 | h1
                                                                                                      · have g1 : (1048576 : Int) < ((Hu.t.n : Nat) : Int) := by omega
                                                                                                        go_wp2_with fail
                                                                                                        go_ret
                                                                                                        exact ⟨_, rfl, HBW.out⟩
                                                                                                      have g1 : ¬ ((1048576 : Int) < ((Hu.t.n : Nat) : Int)) := by omega
                                                                                                      go_upto_if 534 with fail
                                                                                                      go_cut [5] from 462 to 534 (fun a wd => ∃ m : Nat, a = .int .i64 m ∧ m ≤ 1048576 ∧ wd = wb)
                                                                                                      case first =>
                                                                                                        as_aux_lemma =>
                                                                                                          by_cases h2 : mbp + Hu.t.n ≤ 1048576
                                                                                                          · have g2 : ¬ ((1048576 : Int) < (mbp : Int) + ((Hu.t.n : Nat) : Int)) := by omega
                                                                                                            go_wp2_with fail
                                                                                                            go_meet
                                                                                                            case rel => exact ⟨mbp + Hu.t.n, by simp, h2, rfl⟩
                                                                                                          · have g2 : (1048576 : Int) < (mbp : Int) + ((Hu.t.n : Nat) : Int) := by omega
                                                                                                            go_wp2_with fail
                                                                                                            go_ret
                                                                                                            exact ⟨_, rfl, HBW.out⟩
                                                                                                      case rest =>
                                                                                                        as_aux_lemma =>
                                                                                                          obtain ⟨b12, rfl, hb12, hwd⟩ := hcut
                                                                                                          have hwd2 := hwd.symm
                                                                                                          subst hwd2
                                                                                                          have LENb12 := h1
                                                                                                          clear hwd h1 g1
                                                                                                          have ccb13 : wb.cell? ⟨w.heap.size + 1, 13, none⟩ = some (.slice Hu.q.a Hu.q.n Hu.q.c) := (cell_of_row _ _ 13 _ _ (0, 0) HBU.out).trans rfl
                                                                                                          rcases Nat.lt_or_ge 1048576 (Hu.q.n) with h1 | h1
                                                                                                          · have g1 : (1048576 : Int) < ((Hu.q.n : Nat) : Int) := by omega
                                                                                                            go_wp2_with fail
                                                                                                            go_ret
                                                                                                            exact ⟨_, rfl, HBW.out⟩
                                                                                                          have g1 : ¬ ((1048576 : Int) < ((Hu.q.n : Nat) : Int)) := by omega
                                                                                                          go_upto_if 545 with fail
                                                                                                          go_cut [5] from 535 to 545 (fun a wd => ∃ m : Nat, a = .int .i64 m ∧ m ≤ 1048576 ∧ wd = wb)
                                                                                                          case first =>
                                                                                                            as_aux_lemma =>
                                                                                                              by_cases h2 : b12 + Hu.q.n ≤ 1048576
                                                                                                              · have g2 : ¬ ((1048576 : Int) < (b12 : Int) + ((Hu.q.n : Nat) : Int)) := by omega
                                                                                                                go_wp2_with fail
                                                                                                                go_meet
                                                                                                                case rel => exact ⟨b12 + Hu.q.n, by simp, h2, rfl⟩
                                                                                                              · have g2 : (1048576 : Int) < (b12 : Int) + ((Hu.q.n : Nat) : Int) := by omega
                                                                                                                go_wp2_with fail
                                                                                                                go_ret
                                                                                                                exact ⟨_, rfl, HBW.out⟩
                                                                                                          case rest =>
                                                                                                            as_aux_lemma =>
                                                                                                              obtain ⟨b13, rfl, hb13, hwd⟩ := hcut
                                                                                                              have hwd2 := hwd.symm
                                                                                                              subst hwd2
                                                                                                              have LENb13 := h1
                                                                                                              clear hwd h1 g1
                                                                                                              go_wp2_with fail
                                                                                                              go_loopw [15, 5] (fun i a wr => ∃ k m_ : Nat, i = .int .i64 k ∧ a = .int .i64 m_ ∧ k ≤ Hu.q.n ∧ m_ ≤ 1048576 ∧ wr = wb) (fun i _ _ => Hu.q.n - (intOf i).toNat)
                                                                                                              case atStart => exact ⟨0, b13, rfl, rfl, by omega, by assumption, rfl⟩
                                                                                                              case round =>
                                                                                                                obtain ⟨k, mbq, rfl, rfl, hk, hm, hwr⟩ := hrel
                                                                                                                have hwr2 := hwr.symm
                                                                                                                subst hwr2
                                                                                                                clear hwr
                                                                                                                by_cases hlt : k < Hu.q.n
                                                                                                                · have k0 : (0 : Int) ≤ (k : Int) := by omega
                                                                                                                  have k1 : (k : Int) < (Hu.q.n : Int) := by omega
                                                                                                                  obtain ⟨b0, o0, ha0, hc0⟩ := HVU.out.rq (by have := HVU.out.lq; omega)
                                                                                                                  obtain ⟨x, hx⟩ : ∃ x, Lu.q[k]? = some x := ⟨Lu.q[k]'(by have := HVU.out.lq; omega), by simp⟩
                                                                                                                  have cS : wb.cell? ⟨b0, o0 + k * 8 + 5, none⟩ = some (.string x.nm) := cell_below (hc0 k x hx 5 _ rfl) HBW.out
                                                                                                                  have lS := World.block_lt_of_cell? _ _ cS
                                                                                                                  clear hc0 hx
                                                                                                                  rw [ha0] at ccb13
                                                                                                                  clear ha0
                                                                                                                  rcases Nat.lt_or_ge 1048576 x.nm.size with h1 | h1
                                                                                                                  · have g1 : (1048576 : Int) < ((x.nm.size : Nat) : Int) := by omega
                                                                                                                    go_wp2_with fail
                                                                                                                    go_ret
                                                                                                                    exact ⟨_, rfl, HBW.out⟩
                                                                                                                  have g1 : ¬ ((1048576 : Int) < ((x.nm.size : Nat) : Int)) := by omega
                                                                                                                  by_cases h2 : mbq + x.nm.size ≤ 1048576
                                                                                                                  · have g2 : ¬ ((1048576 : Int) < (mbq : Int) + ((x.nm.size : Nat) : Int)) := by omega
                                                                                                                    go_wp2_with fail
                                                                                                                    go_light
                                                                                                                    exact ⟨⟨k + 1, mbq + x.nm.size, by go_num, by simp, by omega, h2, (by first | rfl | trivial)⟩, by simp [intOf]; omega⟩
                                                                                                                  · have g2 : (1048576 : Int) < (mbq : Int) + ((x.nm.size : Nat) : Int) := by omega
                                                                                                                    go_wp2_with fail
                                                                                                                    go_ret
                                                                                                                    exact ⟨_, rfl, HBW.out⟩
                                                                                                                · have k1 : ¬ ((k : Int) < (Hu.q.n : Int)) := by omega
                                                                                                                  go_wp2_with fail
                                                                                                                  go_ret
                                                                                                                  exact ⟨_, rfl, HBW.out⟩
end Go.Proofs.Qxb6619005a
