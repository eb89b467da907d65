import Derived.Test.Qxb6619005aView
import Derived.Deep.DeepCutAuto
import Derived.Deep.CutBlock
import Derived.Deep.CutRange
import Derived.Deep.Light
namespace Go.Proofs.Qxb6619005a
open Go.RowKit

/-- What an addition answers: beyond the bound it stays beyond. -/
def AddPost (a n M : Nat) (w : World) (e : Ending) (w' : World) : Prop := ∃ r : Nat, e = .returned (.int .i64 r) ∧ w' = w ∧ (r ≤ 1048576 → a ≤ 1048576 ∧ n ≤ M)
theorem add_any (a n : Nat) (w : World) : Calls Try.prog 11 #[.int .i64 a, .int .i64 n] w fun e w' => AddPost a n 1048576 w e w' := by
  by_cases h1 : a ≤ 1048576
  · have g1 : ¬ ((1048576 : Int) < (a : Int)) := by omega
    by_cases h2 : n ≤ 1048576
    · have g2 : ¬ ((1048576 : Int) < (n : Int)) := by omega
      go_enter Try.func11, Try.ntmps11
      go_wp2_with fail
      go_ret
      exact ⟨a + n, by simp, rfl, fun _ => ⟨h1, h2⟩⟩
    · have g2 : (1048576 : Int) < (n : Int) := by omega
      go_enter Try.func11, Try.ntmps11
      go_wp2_with fail
      go_ret
      exact ⟨1048577, rfl, rfl, fun h => by omega⟩
  · have g1 : (1048576 : Int) < (a : Int) := by omega
    go_enter Try.func11, Try.ntmps11
    go_wp2_with fail
    go_ret
    exact ⟨1048577, rfl, rfl, fun h => by omega⟩
theorem add8_any (a n : Nat) (w : World) : Calls Try.prog 12 #[.int .i64 a, .int .i64 n] w fun e w' => AddPost a n 131072 w e w' := by
  by_cases h1 : a ≤ 1048576
  · have g1 : ¬ ((1048576 : Int) < (a : Int)) := by omega
    by_cases h2 : n ≤ 131072
    · have g2 : ¬ ((131072 : Int) < (n : Int)) := by omega
      go_enter Try.func12, Try.ntmps12
      go_wp2_with fail
      go_ret
      exact ⟨a + 8 * n, by simp, rfl, fun _ => ⟨h1, h2⟩⟩
    · have g2 : (131072 : Int) < (n : Int) := by omega
      go_enter Try.func12, Try.ntmps12
      go_wp2_with fail
      go_ret
      exact ⟨1048577, rfl, rfl, fun h => by omega⟩
  · have g1 : (1048576 : Int) < (a : Int) := by omega
    go_enter Try.func12, Try.ntmps12
    go_wp2_with fail
    go_ret
    exact ⟨1048577, rfl, rfl, fun h => by omega⟩

structure BytesOk (M : Nat) (H : Heads) (L : Lists) (d : Option DelV) : Prop where
  r : H.r.n ≤ M
  s : H.s.n ≤ M
  c : H.c.n ≤ M
  h : H.h.n ≤ M
  p : H.p.n ≤ M
  t : H.t.n ≤ M
  q : H.q.n ≤ M
  d : ∀ x, d = some x → x.rd.length ≤ M ∧ x.sd.length ≤ M ∧ x.fd.length ≤ M
  x : ∀ y ∈ L.x, y.2.length ≤ M

def BytesPost (acc : Nat) (H : Heads) (L : Lists) (d : Option DelV) (w : World) (e : Ending) (w' : World) : Prop :=
  ∃ r : Nat, e = .returned (.int .i64 r) ∧ Below w.heap.size w w' ∧ (r ≤ 1048576 → acc ≤ 1048576 ∧ BytesOk 131072 H L d)

set_option maxRecDepth 100000 in
set_option maxHeartbeats 8000000 in
theorem airportBytes (acc : Nat) (T : Top) (H : Heads) (D : Option Addr) (L : Lists) (ps : List Pk) (d : Option DelV) (w : World) (hv : View Rw.z 12 w H L ps) (hd : DelIs w D d) :
    Calls Try.prog 5 #[.int .i64 acc, .agg (cellsOf T H D).toArray] w fun e w' => BytesPost acc H L d w e w' := by
  obtain ⟨⟨ra, rn, rc⟩, ⟨sa, sn, sc⟩, ⟨ca, cn, cc⟩, ⟨ha, hn, hc⟩, ⟨pa, pn, pc⟩, ⟨ta, tn, tc⟩, ⟨qa, qn, qc⟩⟩ := H
  obtain ⟨i, nm, la, lo, el, mv⟩ := T
  have HV := hidMk hv
  have HD := hidMk hd
  clear hv hd
  simp only [cellsOf]
  go_enter Try.func5, Try.ntmps5
  go_upto_region 1 with fail
  obtain ⟨wb, hwb⟩ : ∃ wb, wb = w.alloc (.cells #[.string i, .string nm, .float .f64 la, .float .f64 lo, .float .f64 el, .float .f32 mv, .slice ra rn rc, .slice sa sn sc, .slice ca cn cc, .slice ha hn hc, .pointer D, .slice pa pn pc, .slice ta tn tc, .slice qa qn qc] 33) := ⟨_, rfl⟩
  rw [← hwb]
  have HBW : Hid (Below w.heap.size w wb) := hidMk (by rw [hwb]; exact (Below.refl _ w).alloc (Nat.le_refl _) _)
  have HBX : Hid (wb.heap[w.heap.size]? = some (.cells [.string i, .string nm, .float .f64 la, .float .f64 lo, .float .f64 el, .float .f32 mv, .slice ra rn rc, .slice sa sn sc, .slice ca cn cc, .slice ha hn hc, .pointer D, .slice pa pn pc, .slice ta tn tc, .slice qa qn qc].toArray 33 (0, 0))) := hidMk (by rw [hwb]; exact heap_alloc_new w _)
  have lX := lt_of_heap HBX.out
  clear hwb
  have ci : wb.cell? ⟨w.heap.size, 0, none⟩ = some (.string i) := (cell_of_row _ _ 0 _ _ (0, 0) HBX.out).trans rfl
  have cm : wb.cell? ⟨w.heap.size, 1, none⟩ = some (.string nm) := (cell_of_row _ _ 1 _ _ (0, 0) HBX.out).trans rfl
  have cr : wb.cell? ⟨w.heap.size, 6, none⟩ = some (.slice ra rn rc) := (cell_of_row _ _ 6 _ _ (0, 0) HBX.out).trans rfl
  have cs : wb.cell? ⟨w.heap.size, 7, none⟩ = some (.slice sa sn sc) := (cell_of_row _ _ 7 _ _ (0, 0) HBX.out).trans rfl
  have cc : wb.cell? ⟨w.heap.size, 8, none⟩ = some (.slice ca cn cc) := (cell_of_row _ _ 8 _ _ (0, 0) HBX.out).trans rfl
  have ch : wb.cell? ⟨w.heap.size, 9, none⟩ = some (.slice ha hn hc) := (cell_of_row _ _ 9 _ _ (0, 0) HBX.out).trans rfl
  have cp : wb.cell? ⟨w.heap.size, 11, none⟩ = some (.slice pa pn pc) := (cell_of_row _ _ 11 _ _ (0, 0) HBX.out).trans rfl
  have ct : wb.cell? ⟨w.heap.size, 12, none⟩ = some (.slice ta tn tc) := (cell_of_row _ _ 12 _ _ (0, 0) HBX.out).trans rfl
  have cq : wb.cell? ⟨w.heap.size, 13, none⟩ = some (.slice qa qn qc) := (cell_of_row _ _ 13 _ _ (0, 0) HBX.out).trans rfl
  have cD : wb.cell? ⟨w.heap.size, 10, none⟩ = some (.pointer D) := (cell_of_row _ _ 10 _ _ (0, 0) HBX.out).trans rfl
  go_wp2_with fail
  refine (add_any acc i.size _).mono ?_
  rintro _ wz ⟨r1, rfl, hwz, hr1⟩
  have hwz2 := hwz.symm
  subst hwz2
  have Hr1 := hidMk hr1
  clear hwz hr1
  go_wp2_with fail
  refine (add_any r1 nm.size _).mono ?_
  rintro _ wz ⟨r2, rfl, hwz, hr2⟩
  have hwz2 := hwz.symm
  subst hwz2
  have Hr2 := hidMk hr2
  clear hwz hr2
  go_wp2_with fail
  refine (add8_any r2 rn _).mono ?_
  rintro _ wz ⟨r3, rfl, hwz, hr3⟩
  have hwz2 := hwz.symm
  subst hwz2
  have Hr3 := hidMk hr3
  clear hwz hr3
  go_wp2_with fail
  refine (add8_any r3 sn _).mono ?_
  rintro _ wz ⟨r4, rfl, hwz, hr4⟩
  have hwz2 := hwz.symm
  subst hwz2
  have Hr4 := hidMk hr4
  clear hwz hr4
  go_wp2_with fail
  refine (add8_any r4 cn _).mono ?_
  rintro _ wz ⟨r5, rfl, hwz, hr5⟩
  have hwz2 := hwz.symm
  subst hwz2
  have Hr5 := hidMk hr5
  clear hwz hr5
  go_wp2_with fail
  refine (add8_any r5 hn _).mono ?_
  rintro _ wz ⟨r6, rfl, hwz, hr6⟩
  have hwz2 := hwz.symm
  subst hwz2
  have Hr6 := hidMk hr6
  clear hwz hr6
  go_wp2_with fail
  refine (add8_any r6 pn _).mono ?_
  rintro _ wz ⟨r7, rfl, hwz, hr7⟩
  have hwz2 := hwz.symm
  subst hwz2
  have Hr7 := hidMk hr7
  clear hwz hr7
  go_wp2_with fail
  refine (add8_any r7 tn _).mono ?_
  rintro _ wz ⟨r8, rfl, hwz, hr8⟩
  have hwz2 := hwz.symm
  subst hwz2
  have Hr8 := hidMk hr8
  clear hwz hr8
  go_wp2_with fail
  refine (add8_any r8 qn _).mono ?_
  rintro _ wz ⟨r9, rfl, hwz, hr9⟩
  have hwz2 := hwz.symm
  subst hwz2
  have Hr9 := hidMk hr9
  clear hwz hr9
  have CH : Hid (r9 ≤ 1048576 → acc ≤ 1048576 ∧ rn ≤ 131072 ∧ sn ≤ 131072 ∧ cn ≤ 131072 ∧ hn ≤ 131072 ∧ pn ≤ 131072 ∧ tn ≤ 131072 ∧ qn ≤ 131072) := hidMk (fun h => by
    have g9 := Hr9.out h
    have g8 := Hr8.out g9.1
    have g7 := Hr7.out g8.1
    have g6 := Hr6.out g7.1
    have g5 := Hr5.out g6.1
    have g4 := Hr4.out g5.1
    have g3 := Hr3.out g4.1
    have g2 := Hr2.out g3.1
    have g1 := Hr1.out g2.1
    exact ⟨g1.1, g3.2, g4.2, g5.2, g6.2, g7.2, g8.2, g9.2⟩)
  clear Hr1 Hr2 Hr3 Hr4 Hr5 Hr6 Hr7 Hr8 Hr9
  go_upto_if 57 with fail
  go_cut [0] from 10 to 57 (fun a wd => ∃ r : Nat, a = .int .i64 r ∧ wd = wb ∧ (r ≤ 1048576 → r9 ≤ 1048576 ∧ ∀ x, d = some x → x.rd.length ≤ 131072 ∧ x.sd.length ≤ 131072 ∧ x.fd.length ≤ 131072))
  case first =>
    rcases HD.out with ⟨hD, hd⟩ | ⟨B, bo, v, dr, ds, df, hD, hd, h0, h1, h2, h3, hlr, hls, hlf, kr, ks, kf⟩
    · subst hD hd
      go_wp2_with fail
      go_meet
      case rel => exact ⟨r9, rfl, rfl, fun h => ⟨h, fun x hx => by cases hx⟩⟩
    · subst hD hd
      have e1 := cell_below h1 HBW.out
      have e2 := cell_below h2 HBW.out
      have e3 := cell_below h3 HBW.out
      have lB : B < wb.heap.size := World.block_lt_of_cell? _ _ e1
      have L1 := hidMk hlr
      have L2 := hidMk hls
      have L3 := hidMk hlf
      clear h0 h1 h2 h3 hlr hls hlf kr ks kf
      go_wp2_with fail
      refine (add8_any r9 dr.n _).mono ?_
      rintro _ wz ⟨x1, rfl, hwz, hx1⟩
      have hwz2 := hwz.symm
      subst hwz2
      have Hx1 := hidMk hx1
      clear hwz hx1
      go_wp2_with fail
      refine (add8_any x1 ds.n _).mono ?_
      rintro _ wz ⟨x2, rfl, hwz, hx2⟩
      have hwz2 := hwz.symm
      subst hwz2
      have Hx2 := hidMk hx2
      clear hwz hx2
      go_wp2_with fail
      refine (add8_any x2 df.n _).mono ?_
      rintro _ wz ⟨x3, rfl, hwz, hx3⟩
      have hwz2 := hwz.symm
      subst hwz2
      have Hx3 := hidMk hx3
      clear hwz hx3
      go_wp2_with fail
      go_meet
      case rel =>
        refine ⟨x3, rfl, rfl, fun h => ?_⟩
        have g3 := Hx3.out h
        have g2 := Hx2.out g3.1
        have g1 := Hx1.out g2.1
        refine ⟨g1.1, fun x hx => ?_⟩
        injection hx with hx
        subst hx
        exact ⟨by rw [L1.out]; exact g1.2, by rw [L2.out]; exact g2.2, by rw [L3.out]; exact g3.2⟩
  case rest =>
    obtain ⟨y0, rfl, hwd, hy0⟩ := hcut
    have hwd2 := hwd.symm
    subst hwd2
    have HY0 := hidMk hy0
    clear hwd hy0
    have LENc : Hid (y0 ≤ 1048576 → cn ≤ 131072) := hidMk (fun h => (CH.out (HY0.out h).1).2.2.2.1)
    have HRc := hidMk HV.out.rc
    have HLc : Hid (L.c.length = cn) := hidMk HV.out.lc
    have HRq := hidMk HV.out.rq
    have HLq : Hid (L.q.length = qn) := hidMk HV.out.lq
    go_upto_block 0 with fail
    go_cut [0, 5] from 58 to 81 (fun a _ wd => ∃ r : Nat, a = .int .i64 r ∧ wd = wb ∧ (r ≤ 1048576 → y0 ≤ 1048576))
    case first =>
      go_wp2_with fail
      go_loopw [5, 0] (fun i a wr => ∃ k r : Nat, i = .int .i64 k ∧ a = .int .i64 r ∧ k ≤ cn ∧ wr = wb ∧ Hid (r ≤ 1048576 → y0 ≤ 1048576)) (fun i _ _ => cn - (intOf i).toNat)
      case atStart => exact ⟨0, y0, rfl, rfl, by omega, rfl, hidMk (fun h => h)⟩
      case round =>
        obtain ⟨k, r, rfl, rfl, hk, hwr, HI⟩ := hrel
        have hwr2 := hwr.symm
        subst hwr2
        clear hwr
        by_cases hlt : k < cn
        · by_cases hr : r ≤ 1048576
          · have hn : cn ≤ 131072 := LENc.out (HI.out hr)
            have k0 : (0 : Int) ≤ (k : Int) := by omega
            have k1 : (k : Int) < (cn : Int) := by omega
            have k2 : (r : Int) ≤ 1048576 := by omega
            obtain ⟨b0, o0, ha0, hc0⟩ := HRc.out (by have := HLc.out; omega)
            obtain ⟨x, hx⟩ : ∃ x, L.c[k]? = some x := ⟨L.c[k]'(by have := HLc.out; omega), by simp⟩
            have cS : wb.cell? ⟨b0, o0 + k * 3 + 2, none⟩ = some (.string x.nm) := cell_below (hc0 k x hx 2 _ rfl) HBW.out
            have lS := World.block_lt_of_cell? _ _ cS
            clear hc0 hx
            rw [ha0] at cc
            clear ha0
            go_wp2_with fail
            refine (add_any r x.nm.size _).mono ?_
            rintro _ wz ⟨r', rfl, hwz, hr'⟩
            have hwz2 := hwz.symm
            subst hwz2
            have HR' := hidMk hr'
            clear hwz hr'
            go_wp2_with fail
            go_light
            exact ⟨⟨k + 1, r', by go_num, rfl, by omega, (by first | rfl | trivial), hidMk (fun h => HI.out (HR'.out h).1)⟩, by simp [intOf]; omega⟩
          · have k1 : (k : Int) < (cn : Int) := by omega
            have k2 : ¬ ((r : Int) ≤ 1048576) := by omega
            go_wp2_with fail
            go_meet
            case rel => exact ⟨r, rfl, rfl, HI.out⟩
        · have k1 : ¬ ((k : Int) < (cn : Int)) := by omega
          go_wp2_with fail
          go_meet
          case rel => exact ⟨r, rfl, rfl, HI.out⟩
    case rest =>
      obtain ⟨y1, rfl, hwd, hy1⟩ := hcut
      have hwd2 := hwd.symm
      subst hwd2
      have Hy1 := hidMk hy1
      clear hwd hy1
      have LENq : Hid (y1 ≤ 1048576 → qn ≤ 131072) := hidMk (fun h => (CH.out (HY0.out (Hy1.out h)).1).2.2.2.2.2.2.2)
      go_upto_block 2 with fail
      go_cut [0, 6] from 82 to 101 (fun a _ wd => ∃ r : Nat, a = .int .i64 r ∧ wd = wb ∧ (r ≤ 1048576 → y1 ≤ 1048576))
      case first =>
        go_wp2_with fail
        go_loopw [6, 0] (fun i a wr => ∃ k r : Nat, i = .int .i64 k ∧ a = .int .i64 r ∧ k ≤ qn ∧ wr = wb ∧ Hid (r ≤ 1048576 → y1 ≤ 1048576)) (fun i _ _ => qn - (intOf i).toNat)
        case atStart => exact ⟨0, y1, rfl, rfl, by omega, rfl, hidMk (fun h => h)⟩
        case round =>
          obtain ⟨k, r, rfl, rfl, hk, hwr, HI⟩ := hrel
          have hwr2 := hwr.symm
          subst hwr2
          clear hwr
          by_cases hlt : k < qn
          · by_cases hr : r ≤ 1048576
            · have hn : qn ≤ 131072 := LENq.out (HI.out hr)
              have k0 : (0 : Int) ≤ (k : Int) := by omega
              have k1 : (k : Int) < (qn : Int) := by omega
              have k2 : (r : Int) ≤ 1048576 := by omega
              obtain ⟨b0, o0, ha0, hc0⟩ := HRq.out (by have := HLq.out; omega)
              obtain ⟨x, hx⟩ : ∃ x, L.q[k]? = some x := ⟨L.q[k]'(by have := HLq.out; omega), by simp⟩
              have cS : wb.cell? ⟨b0, o0 + k * 8 + 5, none⟩ = some (.string x.nm) := cell_below (hc0 k x hx 5 _ rfl) HBW.out
              have lS := World.block_lt_of_cell? _ _ cS
              clear hc0 hx
              rw [ha0] at cq
              clear ha0
              go_wp2_with fail
              refine (add_any r x.nm.size _).mono ?_
              rintro _ wz ⟨r', rfl, hwz, hr'⟩
              have hwz2 := hwz.symm
              subst hwz2
              have HR' := hidMk hr'
              clear hwz hr'
              go_wp2_with fail
              go_light
              exact ⟨⟨k + 1, r', by go_num, rfl, by omega, (by first | rfl | trivial), hidMk (fun h => HI.out (HR'.out h).1)⟩, by simp [intOf]; omega⟩
            · have k1 : (k : Int) < (qn : Int) := by omega
              have k2 : ¬ ((r : Int) ≤ 1048576) := by omega
              go_wp2_with fail
              go_meet
              case rel => exact ⟨r, rfl, rfl, HI.out⟩
          · have k1 : ¬ ((k : Int) < (qn : Int)) := by omega
            go_wp2_with fail
            go_meet
            case rel => exact ⟨r, rfl, rfl, HI.out⟩
      case rest =>
        obtain ⟨y2, rfl, hwd, hy2⟩ := hcut
        have hwd2 := hwd.symm
        subst hwd2
        have Hy2 := hidMk hy2
        clear hwd hy2
        have LENp : Hid (y2 ≤ 1048576 → pn ≤ 131072) := hidMk (fun h => (CH.out (HY0.out (Hy1.out (Hy2.out h))).1).2.2.2.2.2.1)
        have HRp := hidMk HV.out.rp
        have HLp : Hid (ps.length = pn) := hidMk HV.out.lp
        have HPX := hidMk HV.out.px
        go_upto_block 4 with fail
        go_cut [0, 7, 8, 9] from 102 to 121 (fun a _ _ _ wd => ∃ r : Nat, a = .int .i64 r ∧ wd = wb ∧ (r ≤ 1048576 → y2 ≤ 1048576 ∧ ∀ y ∈ L.x, y.2.length ≤ 131072))
        case first =>
          go_wp2_with fail
          go_loopw [7, 0] (fun i a wr => ∃ k r : Nat, i = .int .i64 k ∧ a = .int .i64 r ∧ k ≤ pn ∧ wr = wb ∧ Hid (r ≤ 1048576 → y2 ≤ 1048576 ∧ ∀ j y, j < k → L.x[j]? = some y → y.2.length ≤ 131072)) (fun i _ _ => pn - (intOf i).toNat)
          case atStart => exact ⟨0, y2, rfl, rfl, by omega, rfl, hidMk (fun h => ⟨h, fun j y hj => by omega⟩)⟩
          case round =>
            obtain ⟨k, r, rfl, rfl, hk, hwr, HI⟩ := hrel
            have hwr2 := hwr.symm
            subst hwr2
            clear hwr
            by_cases hlt : k < pn
            · by_cases hr : r ≤ 1048576
              · have hn : pn ≤ 131072 := LENp.out (HI.out hr).1
                have k0 : (0 : Int) ≤ (k : Int) := by omega
                have k1 : (k : Int) < (pn : Int) := by omega
                have k2 : (r : Int) ≤ 1048576 := by omega
                obtain ⟨b0, o0, ha0, hc0⟩ := HRp.out (by have := HLp.out; omega)
                obtain ⟨y, hy⟩ : ∃ y, ps[k]? = some y := ⟨ps[k]'(by have := HLp.out; omega), by simp⟩
                obtain ⟨xx, hxx, _, hcd⟩ := HPX.out.get k y hy
                have cS0 : wb.cell? ⟨b0, o0 + k * 10 + 9, none⟩ = some (.slice y.co.a y.co.n y.co.c) := cell_below (hc0 k y hy 9 _ rfl) HBW.out
                have HCD := hidMk hcd
                have HXX := hidMk hxx
                obtain ⟨⟨ca, m, cc⟩, hco⟩ : ∃ s : Sl, s = y.co := ⟨_, rfl⟩
                rw [← hco] at cS0 HCD
                simp only at cS0
                have lS := World.block_lt_of_cell? _ _ cS0
                clear hc0 hy hxx hcd hco
                rw [ha0] at cp
                clear ha0
                go_wp2_with fail
                refine (add8_any r m _).mono ?_
                rintro _ wz ⟨r', rfl, hwz, hr'⟩
                have hwz2 := hwz.symm
                subst hwz2
                have HR' := hidMk hr'
                clear hwz hr'
                have FIN : Hid (∀ r2 : Nat, (r2 ≤ 1048576 → r' ≤ 1048576) → r2 ≤ 1048576 → y2 ≤ 1048576 ∧ ∀ j y, j < k + 1 → L.x[j]? = some y → y.2.length ≤ 131072) := hidMk (fun r2 hr2 h => by
                  have g1 := HR'.out (hr2 h)
                  have g2 := HI.out g1.1
                  refine ⟨g2.1, fun j y hj hy => ?_⟩
                  by_cases e : j = k
                  · subst e
                    rw [HXX.out] at hy
                    injection hy with hy
                    subst hy
                    have := HCD.out.1
                    simp only at this
                    omega
                  · exact g2.2 j y (by omega) hy)
                go_wp2_with fail
                go_loopw [9, 0] (fun i a wr => ∃ j r2 : Nat, i = .int .i64 j ∧ a = .int .i64 r2 ∧ j ≤ m ∧ wr = wb ∧ Hid (r2 ≤ 1048576 → r' ≤ 1048576)) (fun i _ _ => m - (intOf i).toNat)
                case atStart => exact ⟨0, r', rfl, rfl, by omega, rfl, hidMk (fun h => h)⟩
                case round =>
                  obtain ⟨j, r2, rfl, rfl, hj, hwr, HI2⟩ := hrel
                  have hwr2 := hwr.symm
                  subst hwr2
                  clear hwr
                  by_cases hjt : j < m
                  · by_cases hr2 : r2 ≤ 1048576
                    · have hm : m ≤ 131072 := (HR'.out (HI2.out hr2)).2
                      have j0 : (0 : Int) ≤ (j : Int) := by omega
                      have j1 : (j : Int) < (m : Int) := by omega
                      have j2 : (r2 : Int) ≤ 1048576 := by omega
                      obtain ⟨e0, f0, g0, t0⟩ := HCD.out.2 (by have := HCD.out.1; simp only at this; omega)
                      obtain ⟨s, hs⟩ : ∃ s, xx.2[j]? = some s := ⟨xx.2[j]'(by have := HCD.out.1; simp only at this; omega), by simp⟩
                      have s0 : wb.cell? ⟨e0, f0 + j, none⟩ = some (.string s) := cell_below (by have := t0 j s hs 0 (.string s) rfl; simpa using this) HBW.out
                      have ls := World.block_lt_of_cell? _ _ s0
                      simp only at g0
                      subst g0
                      clear t0 hs
                      go_wp2_with fail
                      refine (add_any r2 s.size _).mono ?_
                      rintro _ wz ⟨r3, rfl, hwz, hr3⟩
                      have hwz2 := hwz.symm
                      subst hwz2
                      have HR3 := hidMk hr3
                      clear hwz hr3
                      go_wp2_with fail
                      go_light
                      exact ⟨⟨j + 1, r3, by go_num, rfl, by omega, (by first | rfl | trivial), hidMk (fun h => HI2.out (HR3.out h).1)⟩, by simp [intOf]; omega⟩
                    · have j1 : (j : Int) < (m : Int) := by omega
                      have j2 : ¬ ((r2 : Int) ≤ 1048576) := by omega
                      go_wp2_with fail
                      go_light
                      exact ⟨⟨k + 1, r2, by go_num, rfl, by omega, (by first | rfl | trivial), hidMk (FIN.out r2 HI2.out)⟩, by simp [intOf]; omega⟩
                  · have j1 : ¬ ((j : Int) < (m : Int)) := by omega
                    go_wp2_with fail
                    go_light
                    exact ⟨⟨k + 1, r2, by go_num, rfl, by omega, (by first | rfl | trivial), hidMk (FIN.out r2 HI2.out)⟩, by simp [intOf]; omega⟩
              · have k1 : (k : Int) < (pn : Int) := by omega
                have k2 : ¬ ((r : Int) ≤ 1048576) := by omega
                go_wp2_with fail
                go_meet
                case rel => exact ⟨r, rfl, rfl, fun h => absurd h hr⟩
            · have k1 : ¬ ((k : Int) < (pn : Int)) := by omega
              go_wp2_with fail
              go_meet
              case rel =>
                refine ⟨r, rfl, rfl, fun h => ⟨(HI.out h).1, fun y hy => ?_⟩⟩
                obtain ⟨j, hj⟩ := List.getElem?_of_mem hy
                have hjl := (List.getElem?_eq_some_iff.1 hj).1
                have := HPX.out.length
                have := HLp.out
                exact (HI.out h).2 j y (by omega) hj
        case rest =>
          obtain ⟨y3, rfl, hwd, hy3⟩ := hcut
          have hwd2 := hwd.symm
          subst hwd2
          have HY3 := hidMk hy3
          clear hwd hy3
          go_wp2_with fail
          go_ret
          refine ⟨y3, rfl, HBW.out, fun h => ?_⟩
          have g3 := HY3.out h
          have g0 := HY0.out (Hy1.out (Hy2.out g3.1))
          have g := CH.out g0.1
          exact ⟨g.1, g.2.1, g.2.2.1, g.2.2.2.1, g.2.2.2.2.1, g.2.2.2.2.2.1, g.2.2.2.2.2.2.1, g.2.2.2.2.2.2.2, g0.2, g3.2⟩
end Go.Proofs.Qxb6619005a
