import Derived.Test.Qxb6619005aView
import Derived.Test.Qxb6619005aToRw
import Derived.Test.Qxb6619005aToSt
import Derived.Test.Qxb6619005aToCm
import Derived.Test.Qxb6619005aToHp
import Derived.Test.Qxb6619005aToDel
import Derived.Test.Qxb6619005aToPk
import Derived.Test.Qxb6619005aToTp
import Derived.Test.Qxb6619005aToPa
namespace Go.Proofs.Qxb6619005a
open Go.RowKit
theorem below_setCells {B g o : Nat} {vs : List Value} {w wc : World} (h : Below B w wc) (hg : B ≤ g) (hB : B ≤ wc.heap.size) : Below B w (wc.setCells g o vs) := by
  refine h.trans ⟨World.os_setCells .., ?_, World.output_setCells .., by rw [size_setCells]; exact Nat.le_refl _, fun k hk => heap_setCells_far (by omega) (by omega)⟩
  have : ∀ (vs : List Value) (o : Nat) (w : World), (w.setCells g o vs).tape = w.tape := fun vs => by
    induction vs with
    | nil => intro o w; rfl
    | cons v r ih => intro o w; rw [World.setCells, ih]; rfl
  exact this _ _ _
theorem zero45 : (Try.prog.info? 45).map (·.size) = some 14 := by kernel_rfl

set_option maxRecDepth 100000 in
set_option maxHeartbeats 8000000 in
theorem toAirport (T : Top) (H : Heads) (D : Option Addr) (L : Lists) (ps : List Pk) (d : Option DelV) (w : World) (hv : View Rw.z 12 w H L ps) (hf : Fine 1048576 H L.x) (hd : DelIs w D d) (hok : DelOk w D) :
    Calls Try.prog 6 #[.agg (cellsOf T H D).toArray] w fun e w' => ∃ (H' : Heads) (D' : Option Addr) (ps' : List Pk), e = .returned (.agg (cellsOf T H' D').toArray) ∧ Below w.heap.size w w' ∧ Own w' w.heap.size H' L ps' ∧ DelIs w' D' d := by
  obtain ⟨r, s, c, h, p, t, q⟩ := H
  obtain ⟨i, nm, la, lo, el, mv⟩ := T
  have HV := hidMk hv
  have HFI := hidMk hf
  have HD := hidMk hd
  have HOK := hidMk hok
  clear hv hf hd hok
  simp only [cellsOf]
  have q24 : ∀ (w : World) (a : Option Addr) (n c : Nat), (binOp .neq 24 (.slice a n c) (.slice none 0 0)).run Try.prog w = .ok (.bool (!a.isNone)) w := fun w a n c => run_neq_slice_nil_any w 24 68 a n c 0 0 Try.underlying24
  have q25 : ∀ (w : World) (a : Option Addr) (n c : Nat), (binOp .neq 25 (.slice a n c) (.slice none 0 0)).run Try.prog w = .ok (.bool (!a.isNone)) w := fun w a n c => run_neq_slice_nil_any w 25 84 a n c 0 0 Try.underlying25
  have q26 : ∀ (w : World) (a : Option Addr) (n c : Nat), (binOp .neq 26 (.slice a n c) (.slice none 0 0)).run Try.prog w = .ok (.bool (!a.isNone)) w := fun w a n c => run_neq_slice_nil_any w 26 53 a n c 0 0 Try.underlying26
  have q27 : ∀ (w : World) (a : Option Addr) (n c : Nat), (binOp .neq 27 (.slice a n c) (.slice none 0 0)).run Try.prog w = .ok (.bool (!a.isNone)) w := fun w a n c => run_neq_slice_nil_any w 27 93 a n c 0 0 Try.underlying27
  have q29 : ∀ (w : World) (a : Option Addr) (n c : Nat), (binOp .neq 29 (.slice a n c) (.slice none 0 0)).run Try.prog w = .ok (.bool (!a.isNone)) w := fun w a n c => run_neq_slice_nil_any w 29 61 a n c 0 0 Try.underlying29
  have q30 : ∀ (w : World) (a : Option Addr) (n c : Nat), (binOp .neq 30 (.slice a n c) (.slice none 0 0)).run Try.prog w = .ok (.bool (!a.isNone)) w := fun w a n c => run_neq_slice_nil_any w 30 121 a n c 0 0 Try.underlying30
  have q31 : ∀ (w : World) (a : Option Addr) (n c : Nat), (binOp .neq 31 (.slice a n c) (.slice none 0 0)).run Try.prog w = .ok (.bool (!a.isNone)) w := fun w a n c => run_neq_slice_nil_any w 31 65 a n c 0 0 Try.underlying31
  go_enter Try.func6, Try.ntmps6
  go_upto_region 2 with (first | (refine wpList_store_new rfl 45 _ _ rfl _ _ _ rfl _ rfl (by simp) rfl zero45 rfl rfl ?_))
  obtain ⟨wa, hwa⟩ : ∃ wa, wa = ((w.alloc (.cells #[.string i, .string nm, .float .f64 la, .float .f64 lo, .float .f64 el, .float .f32 mv, .slice r.a r.n r.c, .slice s.a s.n s.c, .slice c.a c.n c.c, .slice h.a h.n h.c, .pointer D, .slice p.a p.n p.c, .slice t.a t.n t.c, .slice q.a q.n q.c] 33)).alloc (.cells #[.string ⟨#[]⟩, .string ⟨#[]⟩, .float .f64 0, .float .f64 0, .float .f64 0, .float .f32 0, .slice none 0 0, .slice none 0 0, .slice none 0 0, .slice none 0 0, .pointer none, .slice none 0 0, .slice none 0 0, .slice none 0 0] 45)).alloc (.cells #[.string i, .string nm, .float .f64 la, .float .f64 lo, .float .f64 el, .float .f32 mv, .slice none 0 0, .slice none 0 0, .slice none 0 0, .slice none 0 0, .pointer none, .slice none 0 0, .slice none 0 0, .slice none 0 0] 45) := ⟨_, rfl⟩
  rw [← hwa]
  have HTA : Hid (TA w wa w.heap.size 33 45 [.string i, .string nm, .float .f64 la, .float .f64 lo, .float .f64 el, .float .f32 mv, .slice r.a r.n r.c, .slice s.a s.n s.c, .slice c.a c.n c.c, .slice h.a h.n h.c, .pointer D, .slice p.a p.n p.c, .slice t.a t.n t.c, .slice q.a q.n q.c] [.string i, .string nm, .float .f64 la, .float .f64 lo, .float .f64 el, .float .f32 mv, .slice none 0 0, .slice none 0 0, .slice none 0 0, .slice none 0 0, .pointer none, .slice none 0 0, .slice none 0 0, .slice none 0 0] [.string ⟨#[]⟩, .string ⟨#[]⟩, .float .f64 0, .float .f64 0, .float .f64 0, .float .f32 0, .slice none 0 0, .slice none 0 0, .slice none 0 0, .slice none 0 0, .pointer none, .slice none 0 0, .slice none 0 0, .slice none 0 0]) := hidMk (by rw [hwa]; exact ta_start w _ _ _ 33 45)
  clear hwa
  have cX : wa.cell? ⟨w.heap.size, 6, none⟩ = some (.slice r.a r.n r.c) := (cell_of_row _ _ 6 _ _ (0, 0) HTA.out.box).trans rfl
  have lX := lt_of_heap HTA.out.box
  go_upto_if 41 with fail
  clear cX lX
  go_cut [4, 5] from 26 to 41 (fun _ _ wz => ∃ v, Seg wa wz (w.heap.size + 1 + 1) 6 v ∧ wz.ownsRow (w.heap.size + 3) 82 52 v r.n (L.r.flatMap Rw.a) ∧ ∃ a, v = .slice a r.n r.n)
  case first =>
    rw [isSome_not r.a]
    exact toRw r w _ _ _ _ HTA.out rfl rfl L.r HV.out.lr HFI.out.r.1 HV.out.rr HFI.out.r.2 _ _ _ _ _ _ _ _ _ _ _ _ _ _ _ _ _ _ _ _ _ _ _ _ _ _ _ _ _ _ _ _ _ _ _ _ _ _ _ _ _ _ _ _ _ _ _ _ _ _ _ _ _ _ _ _ _ _ _ _ _ _ _ _ _ _ _ _ _ _ _ _ _ _ _ _ _ _ _ _ _ _ _ _ _ _ _ _ _ _ _ _ _ _ _ _ _ _ _ _ _ _ _ _ _ _ _ _ _ _ _ _ _ _ _ _ _ _ _ _ _ _ _ _ _ _ _ _ _ _ _ _ _ _ _ _ _ _ _ _ _ _ _ _ _ _ _ _ _ _ _ _ _ _ _ _ _ _ _ _ _ _ _ _ _ _ _ _ _ _ _ _ _ _ _ _ _ _ _ _ _ _ _ _ _ _ _ _ _ _ _ _ _ _ _ _ _ _ _ _ _ _ _ _ _ _ _ _ _ _ _ _ _ _ _ _ _ _ _ _ _ _ _ _ _ _ _ _ _ _ _ _ _ _ _ _ _ _ _ _ _ _ _ _ _ _ _ _ _ _ _ _ _ _ _ _ _ _ _ _ _ _ _ _ _ _ _ _ _ _ _ _ _ _ _ _ _ _ _ _ _ _ _ _ _ _ _ _ _ _ _ _ _ _ _ _ _ _ _ _ _ _ _ _ _ _ _ _ _ _ _ _ _ _ _ _ _ _ _ _ _ _ _ _ _ _ _ _ _ _ _ _ _ _ _ _ _ _ _ _ _ _ _ _ _ _ _ _ _ _ _ _ _ _ _ _ _ _ _ _ _ _ _ _ _ _ _ _ _ _ _ _ _ _ _ _ _ _ _ _ _ _ _ _ _ _ _ _ _ _ _ _ _ _ _ _ _ _ _ _ _ _ _ _ _ _ _ _ _ _ _ _ _ _ _ _ _ _ _ _ _ _ _ _ _ _ _ _ _ _ _ _ _ _ _ _ _ _ _ _ _ _ _ _ _ _ _ _ _ _ _ _ _ _ _ _ _ _ _ _ _ _ _ _ _ _ _ _ _ _ _ _ _ _ _ _ _ _ _ _ _ _ _ _ _ _ _ (by assumption) (by assumption)
  case rest =>
    obtain ⟨_, hseg, hown, ⟨ar, rfl⟩⟩ := hcut
    rename World => wb
    have HTA2 := hidMk (HTA.out.next hseg)
    have HOr := hidMk hown
    clear HTA hseg hown
    have HTA := HTA2
    clear HTA2
    simp only [List.set_cons_succ, List.set_cons_zero] at HTA
    have cX : wb.cell? ⟨w.heap.size, 7, none⟩ = some (.slice s.a s.n s.c) := (cell_of_row _ _ 7 _ _ (0, 0) HTA.out.box).trans rfl
    have lX := lt_of_heap HTA.out.box
    go_upto_if 90 with fail
    clear cX lX
    go_cut [6, 7] from 88 to 90 (fun _ _ wz => ∃ v, Seg wb wz (w.heap.size + 1 + 1) 7 v ∧ wz.ownsRow (w.heap.size + 3) 87 7 v s.n (L.s.flatMap St.a) ∧ ∃ a, v = .slice a s.n s.n)
    case first =>
      rw [isSome_not s.a]
      exact toSt s w _ _ _ _ HTA.out rfl rfl L.s HV.out.ls HFI.out.s.1 HV.out.rs HFI.out.s.2 _ _ _ _ _ _ _ _ _ _ _ _ _ _ _ _ _ _ _ _ _ _ _ _ _ _ _ _ _ _ _ _ _ _ _ _ _ _ _ _ _ _ _ _ _ _ _ _ _ _ _ _ _ _ _ _ _ _ _ _ _ _ _ _ _ _ _ _ _ _ _ _ _ _ _ _ _ _ _ _ _ _ _ _ _ _ _ _ _ _ _ _ _ _ _ _ _ _ _ _ _ _ _ _ _ _ _ _ _ _ _ _ _ _ _ _ _ _ _ _ _ _ _ _ _ _ _ _ _ _ _ _ _ _ _ _ _ _ _ _ _ _ _ _ _ _ _ _ _ _ _ _ _ _ _ _ _ _ _ _ _ _ _ _ _ _ _ _ _ _ _ _ _ _ _ _ _ _ _ _ _ _ _ _ _ _ _ _ _ _ _ _ _ _ _ _ _ _ _ _ _ _ _ _ _ _ _ _ _ _ _ _ _ _ _ _ _ _ _ _ _ _ _ _ _ _ _ _ _ _ _ _ _ _ _ _ _ _ _ _ _ _ _ _ _ _ _ _ _ _ _ _ _ _ _ _ _ _ _ _ _ _ _ _ _ _ _ _ _ _ _ _ _ _ _ _ _ _ _ _ _ _ _ _ _ _ _ _ _ _ _ _ _ _ _ _ _ _ _ _ _ _ _ _ _ _ _ _ _ _ _ _ _ _ _ _ _ _ _ _ _ _ _ _ _ _ _ _ _ _ _ _ _ _ _ _ _ _ _ _ _ _ _ _ _ _ _ _ _ _ _ _ _ _ _ _ _ _ _ _ _ _ _ _ _ _ _ _ _ _ _ _ _ _ _ _ _ _ _ _ _ _ _ _ _ _ _ _ _ _ _ _ _ _ _ _ _ _ _ _ _ _ _ _ _ _ _ _ _ _ _ _ _ _ _ _ _ _ _ _ _ _ _ _ _ _ _ _ _ _ _ _ _ _ _ _ _ _ _ _ _ _ _ _ _ _ _ _ _ _ _ _ _ _ _ _ _ _ _ _ _ _ _ _ _ _ _ _ _ _ _ _ _ _ _ _ _ _ _ _ _ _ _ _ _ _ _ (by assumption) (by assumption)
    case rest =>
      obtain ⟨_, hseg, hown, ⟨as_, rfl⟩⟩ := hcut
      rename World => wc
      have HTA2 := hidMk (HTA.out.next hseg)
      have HO2 := hidMk (seg_keep hseg HOr.out (Nat.le_refl _))
      clear HOr
      have HOr := HO2
      clear HO2
      have HOs := hidMk hown
      clear HTA hseg hown
      have HTA := HTA2
      clear HTA2
      simp only [List.set_cons_succ, List.set_cons_zero] at HTA
      have cX : wc.cell? ⟨w.heap.size, 8, none⟩ = some (.slice c.a c.n c.c) := (cell_of_row _ _ 8 _ _ (0, 0) HTA.out.box).trans rfl
      have lX := lt_of_heap HTA.out.box
      go_upto_if 128 with fail
      clear cX lX
      go_cut [8, 9] from 126 to 128 (fun _ _ wz => ∃ v, Seg wc wz (w.heap.size + 1 + 1) 8 v ∧ wz.ownsRow (w.heap.size + 3) 90 3 v c.n (L.c.flatMap Cm.a) ∧ ∃ a, v = .slice a c.n c.n)
      case first =>
        rw [isSome_not c.a]
        exact toCm c w _ _ _ _ HTA.out rfl rfl L.c HV.out.lc HFI.out.c.1 HV.out.rc HFI.out.c.2 _ _ _ _ _ _ _ _ _ _ _ _ _ _ _ _ _ _ _ _ _ _ _ _ _ _ _ _ _ _ _ _ _ _ _ _ _ _ _ _ _ _ _ _ _ _ _ _ _ _ _ _ _ _ _ _ _ _ _ _ _ _ _ _ _ _ _ _ _ _ _ _ _ _ _ _ _ _ _ _ _ _ _ _ _ _ _ _ _ _ _ _ _ _ _ _ _ _ _ _ _ _ _ _ _ _ _ _ _ _ _ _ _ _ _ _ _ _ _ _ _ _ _ _ _ _ _ _ _ _ _ _ _ _ _ _ _ _ _ _ _ _ _ _ _ _ _ _ _ _ _ _ _ _ _ _ _ _ _ _ _ _ _ _ _ _ _ _ _ _ _ _ _ _ _ _ _ _ _ _ _ _ _ _ _ _ _ _ _ _ _ _ _ _ _ _ _ _ _ _ _ _ _ _ _ _ _ _ _ _ _ _ _ _ _ _ _ _ _ _ _ _ _ _ _ _ _ _ _ _ _ _ _ _ _ _ _ _ _ _ _ _ _ _ _ _ _ _ _ _ _ _ _ _ _ _ _ _ _ _ _ _ _ _ _ _ _ _ _ _ _ _ _ _ _ _ _ _ _ _ _ _ _ _ _ _ _ _ _ _ _ _ _ _ _ _ _ _ _ _ _ _ _ _ _ _ _ _ _ _ _ _ _ _ _ _ _ _ _ _ _ _ _ _ _ _ _ _ _ _ _ _ _ _ _ _ _ _ _ _ _ _ _ _ _ _ _ _ _ _ _ _ _ _ _ _ _ _ _ _ _ _ _ _ _ _ _ _ _ _ _ _ _ _ _ _ _ _ _ _ _ _ _ _ _ _ _ _ _ _ _ _ _ _ _ _ _ _ _ _ _ _ _ _ _ _ _ _ _ _ _ _ _ _ _ _ _ _ _ _ _ _ _ _ _ _ _ _ _ _ _ _ _ _ _ _ _ _ _ _ _ _ _ _ _ _ _ _ _ _ _ _ _ _ _ _ _ _ _ _ _ _ _ _ _ _ _ _ _ _ _ _ _ _ _ _ _ _ _ _ _ _ _ _ _ _ _ (by assumption) (by assumption)
      case rest =>
        obtain ⟨_, hseg, hown, ⟨ac, rfl⟩⟩ := hcut
        rename World => wd
        have HTA2 := hidMk (HTA.out.next hseg)
        have HO2 := hidMk (seg_keep hseg HOr.out (Nat.le_refl _))
        clear HOr
        have HOr := HO2
        clear HO2
        have HO2 := hidMk (seg_keep hseg HOs.out (Nat.le_refl _))
        clear HOs
        have HOs := HO2
        clear HO2
        have HOc := hidMk hown
        clear HTA hseg hown
        have HTA := HTA2
        clear HTA2
        simp only [List.set_cons_succ, List.set_cons_zero] at HTA
        have cX : wd.cell? ⟨w.heap.size, 9, none⟩ = some (.slice h.a h.n h.c) := (cell_of_row _ _ 9 _ _ (0, 0) HTA.out.box).trans rfl
        have lX := lt_of_heap HTA.out.box
        go_upto_if 159 with fail
        clear cX lX
        go_cut [10, 11] from 157 to 159 (fun _ _ wz => ∃ v, Seg wd wz (w.heap.size + 1 + 1) 9 v ∧ wz.ownsRow (w.heap.size + 3) 96 14 v h.n (L.h.flatMap Hp.a) ∧ ∃ a, v = .slice a h.n h.n)
        case first =>
          rw [isSome_not h.a]
          exact toHp h w _ _ _ _ HTA.out rfl rfl L.h HV.out.lh HFI.out.h.1 HV.out.rh HFI.out.h.2 _ _ _ _ _ _ _ _ _ _ _ _ _ _ _ _ _ _ _ _ _ _ _ _ _ _ _ _ _ _ _ _ _ _ _ _ _ _ _ _ _ _ _ _ _ _ _ _ _ _ _ _ _ _ _ _ _ _ _ _ _ _ _ _ _ _ _ _ _ _ _ _ _ _ _ _ _ _ _ _ _ _ _ _ _ _ _ _ _ _ _ _ _ _ _ _ _ _ _ _ _ _ _ _ _ _ _ _ _ _ _ _ _ _ _ _ _ _ _ _ _ _ _ _ _ _ _ _ _ _ _ _ _ _ _ _ _ _ _ _ _ _ _ _ _ _ _ _ _ _ _ _ _ _ _ _ _ _ _ _ _ _ _ _ _ _ _ _ _ _ _ _ _ _ _ _ _ _ _ _ _ _ _ _ _ _ _ _ _ _ _ _ _ _ _ _ _ _ _ _ _ _ _ _ _ _ _ _ _ _ _ _ _ _ _ _ _ _ _ _ _ _ _ _ _ _ _ _ _ _ _ _ _ _ _ _ _ _ _ _ _ _ _ _ _ _ _ _ _ _ _ _ _ _ _ _ _ _ _ _ _ _ _ _ _ _ _ _ _ _ _ _ _ _ _ _ _ _ _ _ _ _ _ _ _ _ _ _ _ _ _ _ _ _ _ _ _ _ _ _ _ _ _ _ _ _ _ _ _ _ _ _ _ _ _ _ _ _ _ _ _ _ _ _ _ _ _ _ _ _ _ _ _ _ _ _ _ _ _ _ _ _ _ _ _ _ _ _ _ _ _ _ _ _ _ _ _ _ _ _ _ _ _ _ _ _ _ _ _ _ _ _ _ _ _ _ _ _ _ _ _ _ _ _ _ _ _ _ _ _ _ _ _ _ _ _ _ _ _ _ _ _ _ _ _ _ _ _ _ _ _ _ _ _ _ _ _ _ _ _ _ _ _ _ _ _ _ _ _ _ _ _ _ _ _ _ _ _ _ _ _ _ _ _ _ _ _ _ _ _ _ _ _ _ _ _ _ _ _ _ _ _ _ _ _ _ _ _ _ _ _ _ _ _ _ _ _ _ _ _ _ _ _ _ _ _ _ (by assumption) (by assumption)
        case rest =>
          obtain ⟨_, hseg, hown, ⟨ah, rfl⟩⟩ := hcut
          rename World => we
          have HTA2 := hidMk (HTA.out.next hseg)
          have HO2 := hidMk (seg_keep hseg HOr.out (Nat.le_refl _))
          clear HOr
          have HOr := HO2
          clear HO2
          have HO2 := hidMk (seg_keep hseg HOs.out (Nat.le_refl _))
          clear HOs
          have HOs := HO2
          clear HO2
          have HO2 := hidMk (seg_keep hseg HOc.out (Nat.le_refl _))
          clear HOc
          have HOc := HO2
          clear HO2
          have HOh := hidMk hown
          clear HTA hseg hown
          have HTA := HTA2
          clear HTA2
          simp only [List.set_cons_succ, List.set_cons_zero] at HTA
          have cX : we.cell? ⟨w.heap.size, 10, none⟩ = some (.pointer D) := (cell_of_row _ _ 10 _ _ (0, 0) HTA.out.box).trans rfl
          have lX := lt_of_heap HTA.out.box
          go_upto_if 206 with fail
          clear cX lX
          go_cut [12, 13, 14, 15, 16, 17, 18] from 204 to 206 (fun _ _ _ _ _ _ _ wz => ∃ v, Seg we wz (w.heap.size + 1 + 1) 10 v ∧ DelA wz (w.heap.size + 3) 102 106 110 114 v d ∧ ∃ A, v = .pointer A)
          case first =>
            rw [isSome_not D]
            exact toDel D d w _ _ _ _ HTA.out rfl rfl HD.out HOK.out _ _ _ _ _ _ _ _ _ _ _ _ _ _ _ _ _ _ _ _ _ _ _ _ _ _ _ _ _ _ _ _ _ _ _ _ _ _ _ _ _ _ _ _ _ _ _ _ _ _ _ _ _ _ _ _ _ _ _ _ _ _ _ _ _ _ _ _ _ _ _ _ _ _ _ _ _ _ _ _ _ _ _ _ _ _ _ _ _ _ _ _ _ _ _ _ _ _ _ _ _ _ _ _ _ _ _ _ _ _ _ _ _ _ _ _ _ _ _ _ _ _ _ _ _ _ _ _ _ _ _ _ _ _ _ _ _ _ _ _ _ _ _ _ _ _ _ _ _ _ _ _ _ _ _ _ _ _ _ _ _ _ _ _ _ _ _ _ _ _ _ _ _ _ _ _ _ _ _ _ _ _ _ _ _ _ _ _ _ _ _ _ _ _ _ _ _ _ _ _ _ _ _ _ _ _ _ _ _ _ _ _ _ _ _ _ _ _ _ _ _ _ _ _ _ _ _ _ _ _ _ _ _ _ _ _ _ _ _ _ _ _ _ _ _ _ _ _ _ _ _ _ _ _ _ _ _ _ _ _ _ _ _ _ _ _ _ _ _ _ _ _ _ _ _ _ _ _ _ _ _ _ _ _ _ _ _ _ _ _ _ _ _ _ _ _ _ _ _ _ _ _ _ _ _ _ _ _ _ _ _ _ _ _ _ _ _ _ _ _ _ _ _ _ _ _ _ _ _ _ _ _ _ _ _ _ _ _ _ _ _ _ _ _ _ _ _ _ _ _ _ _ _ _ _ _ _ _ _ _ _ _ _ _ _ _ _ _ _ _ _ _ _ _ _ _ _ _ _ _ _ _ _ _ _ _ _ _ _ _ _ _ _ _ _ _ _ _ _ _ _ _ _ _ _ _ _ _ _ _ _ _ _ _ _ _ _ _ _ _ _ _ _ _ _ _ _ _ _ _ _ _ _ _ _ _ _ _ _ _ _ _ _ _ _ _ _ _ _ _ _ _ _ _ _ _ _ _ _ _ _ _ _ _ _ _ _ _ _ _ _ _ _ _ _ _ _ _ _ _ _ _ _ _ _ _ _ (by assumption) (by assumption)
          case rest =>
            obtain ⟨_, hseg, hown, ⟨dp, rfl⟩⟩ := hcut
            rename World => wf
            have HTA2 := hidMk (HTA.out.next hseg)
            have HO2 := hidMk (seg_keep hseg HOr.out (Nat.le_refl _))
            clear HOr
            have HOr := HO2
            clear HO2
            have HO2 := hidMk (seg_keep hseg HOs.out (Nat.le_refl _))
            clear HOs
            have HOs := HO2
            clear HO2
            have HO2 := hidMk (seg_keep hseg HOc.out (Nat.le_refl _))
            clear HOc
            have HOc := HO2
            clear HO2
            have HO2 := hidMk (seg_keep hseg HOh.out (Nat.le_refl _))
            clear HOh
            have HOh := HO2
            clear HO2
            have HOd := hidMk hown
            clear HTA hseg hown
            have HTA := HTA2
            clear HTA2
            simp only [List.set_cons_succ, List.set_cons_zero] at HTA
            have cX : wf.cell? ⟨w.heap.size, 11, none⟩ = some (.slice p.a p.n p.c) := (cell_of_row _ _ 11 _ _ (0, 0) HTA.out.box).trans rfl
            have lX := lt_of_heap HTA.out.box
            go_upto_if 358 with fail
            clear cX lX
            go_cut [19, 20, 21] from 356 to 358 (fun _ _ _ wz => ∃ v, Seg wf wz (w.heap.size + 1 + 1) 11 v ∧ (∃ a, v = .slice a p.n p.n) ∧ ∃ ps', wz.ownsRow (w.heap.size + 3) 119 10 v p.n (ps'.flatMap Pk.a) ∧ PkIs wz ps' L.x ∧ Far (w.heap.size + 3) ps')
            case first =>
              rw [isSome_not p.a]
              exact toPk p w _ _ _ _ HTA.out rfl rfl ps L.x HV.out.lp HFI.out.p.1 HV.out.rp HFI.out.p.2 HV.out.px HFI.out.x _ _ _ _ _ _ _ _ _ _ _ _ _ _ _ _ _ _ _ _ _ _ _ _ _ _ _ _ _ _ _ _ _ _ _ _ _ _ _ _ _ _ _ _ _ _ _ _ _ _ _ _ _ _ _ _ _ _ _ _ _ _ _ _ _ _ _ _ _ _ _ _ _ _ _ _ _ _ _ _ _ _ _ _ _ _ _ _ _ _ _ _ _ _ _ _ _ _ _ _ _ _ _ _ _ _ _ _ _ _ _ _ _ _ _ _ _ _ _ _ _ _ _ _ _ _ _ _ _ _ _ _ _ _ _ _ _ _ _ _ _ _ _ _ _ _ _ _ _ _ _ _ _ _ _ _ _ _ _ _ _ _ _ _ _ _ _ _ _ _ _ _ _ _ _ _ _ _ _ _ _ _ _ _ _ _ _ _ _ _ _ _ _ _ _ _ _ _ _ _ _ _ _ _ _ _ _ _ _ _ _ _ _ _ _ _ _ _ _ _ _ _ _ _ _ _ _ _ _ _ _ _ _ _ _ _ _ _ _ _ _ _ _ _ _ _ _ _ _ _ _ _ _ _ _ _ _ _ _ _ _ _ _ _ _ _ _ _ _ _ _ _ _ _ _ _ _ _ _ _ _ _ _ _ _ _ _ _ _ _ _ _ _ _ _ _ _ _ _ _ _ _ _ _ _ _ _ _ _ _ _ _ _ _ _ _ _ _ _ _ _ _ _ _ _ _ _ _ _ _ _ _ _ _ _ _ _ _ _ _ _ _ _ _ _ _ _ _ _ _ _ _ _ _ _ _ _ _ _ _ _ _ _ _ _ _ _ _ _ _ _ _ _ _ _ _ _ _ _ _ _ _ _ _ _ _ _ _ _ _ _ _ _ _ _ _ _ _ _ _ _ _ _ _ _ _ _ _ _ _ _ _ _ _ _ _ _ _ _ _ _ _ _ _ _ _ _ _ _ _ _ _ _ _ _ _ _ _ _ _ _ _ _ _ _ _ _ _ _ _ _ _ _ _ _ _ _ _ _ _ _ _ _ _ _ _ _ _ _ _ _ _ _ _ _ _ _ _ _ _ _ _ _ _ _ _ _ (by assumption) (by assumption)
            case rest =>
              obtain ⟨_, hseg, ⟨ap, rfl⟩, ps', hown, hpx, hfar⟩ := hcut
              rename World => wg
              have HTA2 := hidMk (HTA.out.next hseg)
              have HO2 := hidMk (seg_keep hseg HOr.out (Nat.le_refl _))
              clear HOr
              have HOr := HO2
              clear HO2
              have HO2 := hidMk (seg_keep hseg HOs.out (Nat.le_refl _))
              clear HOs
              have HOs := HO2
              clear HO2
              have HO2 := hidMk (seg_keep hseg HOc.out (Nat.le_refl _))
              clear HOc
              have HOc := HO2
              clear HO2
              have HO2 := hidMk (seg_keep hseg HOh.out (Nat.le_refl _))
              clear HOh
              have HOh := HO2
              clear HO2
              have HOd2 := hidMk (HOd.out.kept (fun b hb hlt => hseg.kept.block b hlt (fun e => by injection e with e; omega)))
              clear HOd
              have HOd := HOd2
              clear HOd2
              have HOp := hidMk hown
              clear HTA hseg hown
              have HTA := HTA2
              clear HTA2
              simp only [List.set_cons_succ, List.set_cons_zero] at HTA
              have HPX := hidMk hpx
              have HFAR := hidMk hfar
              clear hpx hfar
              have cX : wg.cell? ⟨w.heap.size, 12, none⟩ = some (.slice t.a t.n t.c) := (cell_of_row _ _ 12 _ _ (0, 0) HTA.out.box).trans rfl
              have lX := lt_of_heap HTA.out.box
              go_upto_if 413 with fail
              clear cX lX
              go_cut [22, 23] from 411 to 413 (fun _ _ wz => ∃ v, Seg wg wz (w.heap.size + 1 + 1) 12 v ∧ wz.ownsRow (w.heap.size + 3) 125 5 v t.n (L.t.flatMap Tp.a) ∧ ∃ a, v = .slice a t.n t.n)
              case first =>
                rw [isSome_not t.a]
                exact toTp t w _ _ _ _ HTA.out rfl rfl L.t HV.out.lt HFI.out.t.1 HV.out.rt HFI.out.t.2 _ _ _ _ _ _ _ _ _ _ _ _ _ _ _ _ _ _ _ _ _ _ _ _ _ _ _ _ _ _ _ _ _ _ _ _ _ _ _ _ _ _ _ _ _ _ _ _ _ _ _ _ _ _ _ _ _ _ _ _ _ _ _ _ _ _ _ _ _ _ _ _ _ _ _ _ _ _ _ _ _ _ _ _ _ _ _ _ _ _ _ _ _ _ _ _ _ _ _ _ _ _ _ _ _ _ _ _ _ _ _ _ _ _ _ _ _ _ _ _ _ _ _ _ _ _ _ _ _ _ _ _ _ _ _ _ _ _ _ _ _ _ _ _ _ _ _ _ _ _ _ _ _ _ _ _ _ _ _ _ _ _ _ _ _ _ _ _ _ _ _ _ _ _ _ _ _ _ _ _ _ _ _ _ _ _ _ _ _ _ _ _ _ _ _ _ _ _ _ _ _ _ _ _ _ _ _ _ _ _ _ _ _ _ _ _ _ _ _ _ _ _ _ _ _ _ _ _ _ _ _ _ _ _ _ _ _ _ _ _ _ _ _ _ _ _ _ _ _ _ _ _ _ _ _ _ _ _ _ _ _ _ _ _ _ _ _ _ _ _ _ _ _ _ _ _ _ _ _ _ _ _ _ _ _ _ _ _ _ _ _ _ _ _ _ _ _ _ _ _ _ _ _ _ _ _ _ _ _ _ _ _ _ _ _ _ _ _ _ _ _ _ _ _ _ _ _ _ _ _ _ _ _ _ _ _ _ _ _ _ _ _ _ _ _ _ _ _ _ _ _ _ _ _ _ _ _ _ _ _ _ _ _ _ _ _ _ _ _ _ _ _ _ _ _ _ _ _ _ _ _ _ _ _ _ _ _ _ _ _ _ _ _ _ _ _ _ _ _ _ _ _ _ _ _ _ _ _ _ _ _ _ _ _ _ _ _ _ _ _ _ _ _ _ _ _ _ _ _ _ _ _ _ _ _ _ _ _ _ _ _ _ _ _ _ _ _ _ _ _ _ _ _ _ _ _ _ _ _ _ _ _ _ _ _ _ _ _ _ _ _ _ _ _ _ _ _ _ _ _ _ _ _ _ _ _ _ (by assumption) (by assumption)
              case rest =>
                obtain ⟨_, hseg, hown, ⟨at_, rfl⟩⟩ := hcut
                rename World => wh
                have HTA2 := hidMk (HTA.out.next hseg)
                have HO2 := hidMk (seg_keep hseg HOr.out (Nat.le_refl _))
                clear HOr
                have HOr := HO2
                clear HO2
                have HO2 := hidMk (seg_keep hseg HOs.out (Nat.le_refl _))
                clear HOs
                have HOs := HO2
                clear HO2
                have HO2 := hidMk (seg_keep hseg HOc.out (Nat.le_refl _))
                clear HOc
                have HOc := HO2
                clear HO2
                have HO2 := hidMk (seg_keep hseg HOh.out (Nat.le_refl _))
                clear HOh
                have HOh := HO2
                clear HO2
                have HOd2 := hidMk (HOd.out.kept (fun b hb hlt => hseg.kept.block b hlt (fun e => by injection e with e; omega)))
                clear HOd
                have HOd := HOd2
                clear HOd2
                have HO2 := hidMk (seg_keep hseg HOp.out (Nat.le_refl _))
                clear HOp
                have HOp := HO2
                clear HO2
                have HX2 := hidMk (HPX.out.kept HFAR.out (fun b hb hlt => hseg.kept.block b hlt (fun e => by injection e with e; omega)))
                clear HPX
                have HPX := HX2
                clear HX2
                have HOt := hidMk hown
                clear HTA hseg hown
                have HTA := HTA2
                clear HTA2
                simp only [List.set_cons_succ, List.set_cons_zero] at HTA
                have cX : wh.cell? ⟨w.heap.size, 13, none⟩ = some (.slice q.a q.n q.c) := (cell_of_row _ _ 13 _ _ (0, 0) HTA.out.box).trans rfl
                have lX := lt_of_heap HTA.out.box
                go_upto_if 448 with fail
                clear cX lX
                go_cut [24, 25] from 446 to 448 (fun _ _ wz => ∃ v, Seg wh wz (w.heap.size + 1 + 1) 13 v ∧ wz.ownsRow (w.heap.size + 3) 128 8 v q.n (L.q.flatMap Pa.a) ∧ ∃ a, v = .slice a q.n q.n)
                case first =>
                  rw [isSome_not q.a]
                  exact toPa q w _ _ _ _ HTA.out rfl rfl L.q HV.out.lq HFI.out.q.1 HV.out.rq HFI.out.q.2 _ _ _ _ _ _ _ _ _ _ _ _ _ _ _ _ _ _ _ _ _ _ _ _ _ _ _ _ _ _ _ _ _ _ _ _ _ _ _ _ _ _ _ _ _ _ _ _ _ _ _ _ _ _ _ _ _ _ _ _ _ _ _ _ _ _ _ _ _ _ _ _ _ _ _ _ _ _ _ _ _ _ _ _ _ _ _ _ _ _ _ _ _ _ _ _ _ _ _ _ _ _ _ _ _ _ _ _ _ _ _ _ _ _ _ _ _ _ _ _ _ _ _ _ _ _ _ _ _ _ _ _ _ _ _ _ _ _ _ _ _ _ _ _ _ _ _ _ _ _ _ _ _ _ _ _ _ _ _ _ _ _ _ _ _ _ _ _ _ _ _ _ _ _ _ _ _ _ _ _ _ _ _ _ _ _ _ _ _ _ _ _ _ _ _ _ _ _ _ _ _ _ _ _ _ _ _ _ _ _ _ _ _ _ _ _ _ _ _ _ _ _ _ _ _ _ _ _ _ _ _ _ _ _ _ _ _ _ _ _ _ _ _ _ _ _ _ _ _ _ _ _ _ _ _ _ _ _ _ _ _ _ _ _ _ _ _ _ _ _ _ _ _ _ _ _ _ _ _ _ _ _ _ _ _ _ _ _ _ _ _ _ _ _ _ _ _ _ _ _ _ _ _ _ _ _ _ _ _ _ _ _ _ _ _ _ _ _ _ _ _ _ _ _ _ _ _ _ _ _ _ _ _ _ _ _ _ _ _ _ _ _ _ _ _ _ _ _ _ _ _ _ _ _ _ _ _ _ _ _ _ _ _ _ _ _ _ _ _ _ _ _ _ _ _ _ _ _ _ _ _ _ _ _ _ _ _ _ _ _ _ _ _ _ _ _ _ _ _ _ _ _ _ _ _ _ _ _ _ _ _ _ _ _ _ _ _ _ _ _ _ _ _ _ _ _ _ _ _ _ _ _ _ _ _ _ _ _ _ _ _ _ _ _ _ _ _ _ _ _ _ _ _ _ _ _ _ _ _ _ _ _ _ _ _ _ _ _ _ _ _ _ _ _ _ _ _ _ _ _ _ _ _ _ _ _ _ (by assumption) (by assumption)
                case rest =>
                  obtain ⟨_, hseg, hown, ⟨aq, rfl⟩⟩ := hcut
                  rename World => wi
                  have HTA2 := hidMk (HTA.out.next hseg)
                  have HO2 := hidMk (seg_keep hseg HOr.out (Nat.le_refl _))
                  clear HOr
                  have HOr := HO2
                  clear HO2
                  have HO2 := hidMk (seg_keep hseg HOs.out (Nat.le_refl _))
                  clear HOs
                  have HOs := HO2
                  clear HO2
                  have HO2 := hidMk (seg_keep hseg HOc.out (Nat.le_refl _))
                  clear HOc
                  have HOc := HO2
                  clear HO2
                  have HO2 := hidMk (seg_keep hseg HOh.out (Nat.le_refl _))
                  clear HOh
                  have HOh := HO2
                  clear HO2
                  have HOd2 := hidMk (HOd.out.kept (fun b hb hlt => hseg.kept.block b hlt (fun e => by injection e with e; omega)))
                  clear HOd
                  have HOd := HOd2
                  clear HOd2
                  have HO2 := hidMk (seg_keep hseg HOp.out (Nat.le_refl _))
                  clear HOp
                  have HOp := HO2
                  clear HO2
                  have HX2 := hidMk (HPX.out.kept HFAR.out (fun b hb hlt => hseg.kept.block b hlt (fun e => by injection e with e; omega)))
                  clear HPX
                  have HPX := HX2
                  clear HX2
                  have HO2 := hidMk (seg_keep hseg HOt.out (Nat.le_refl _))
                  clear HOt
                  have HOt := HO2
                  clear HO2
                  have HOq := hidMk hown
                  clear HTA hseg hown
                  have HTA := HTA2
                  clear HTA2
                  simp only [List.set_cons_succ, List.set_cons_zero] at HTA
                  have lO := lt_of_heap HTA.out.out
                  have HRA : Hid (wi.rangeAt (w.heap.size + 1 + 1) 0 [.string i, .string nm, .float .f64 la, .float .f64 lo, .float .f64 el, .float .f32 mv, .slice ar r.n r.n, .slice as_ s.n s.n, .slice ac c.n c.n, .slice ah h.n h.n, .pointer dp, .slice ap p.n p.n, .slice at_ t.n t.n, .slice aq q.n q.n]) := hidMk (fun j v hv => by rw [cell_of_row _ _ _ _ _ (0, 0) HTA.out.out]; simpa using hv)
                  have HTH : Hid (wi.there (w.heap.size + 1) 0 14) := hidMk (fun j hj => by
                    rw [cell_of_row _ _ _ _ _ (0, 0) HTA.out.res]
                    refine ⟨?_, frozen_of_row _ _ _ _ _ HTA.out.res⟩
                    rw [List.getElem?_toArray, List.getElem?_eq_getElem (by simpa using hj)]; rfl)
                  go_wp2_with (first | (refine wpList_load_mid rfl 45 _ rfl (w.heap.size + 1 + 1) 0 rfl _ _ HRA.out Try.underlying45 rfl zero45 ?_) | (refine wpList_store_list rfl 45 _ _ rfl (w.heap.size + 1) 0 _ rfl rfl HTH.out zero45 rfl ?_))
                  refine bodyPost_ret (results_cell_row rfl _ _ (w.heap.size + 1) 45 _ (0, 0) _ rfl (heap_setCells [.string i, .string nm, .float .f64 la, .float .f64 lo, .float .f64 el, .float .f32 mv, .slice ar r.n r.n, .slice as_ s.n s.n, .slice ac c.n c.n, .slice ah h.n h.n, .pointer dp, .slice ap p.n p.n, .slice at_ t.n t.n, .slice aq q.n q.n] 0 wi _ HTA.out.res (by simp)) Try.underlying45 rfl zero45) rfl ⟨⟨⟨ar, r.n, r.n⟩, ⟨as_, s.n, s.n⟩, ⟨ac, c.n, c.n⟩, ⟨ah, h.n, h.n⟩, ⟨ap, p.n, p.n⟩, ⟨at_, t.n, t.n⟩, ⟨aq, q.n, q.n⟩⟩, dp, ps', rfl, ?_, ?_, ?_⟩
                  · exact below_setCells HTA.out.below (by omega) (by omega)
                  · have hk : ∀ b, w.heap.size + 3 ≤ b → b < wi.heap.size → (wi.setCells (w.heap.size + 1) 0 [.string i, .string nm, .float .f64 la, .float .f64 lo, .float .f64 el, .float .f32 mv, .slice ar r.n r.n, .slice as_ s.n s.n, .slice ac c.n c.n, .slice ah h.n h.n, .pointer dp, .slice ap p.n p.n, .slice at_ t.n t.n, .slice aq q.n q.n]).heap[b]? = wi.heap[b]? := fun b hb hlt => heap_setCells_far (by omega) hlt
                    exact ⟨owns_base (by omega) (owns_kept HOr.out hk), owns_base (by omega) (owns_kept HOs.out hk), owns_base (by omega) (owns_kept HOc.out hk), owns_base (by omega) (owns_kept HOh.out hk), owns_base (by omega) (owns_kept HOp.out hk), owns_base (by omega) (owns_kept HOt.out hk), owns_base (by omega) (owns_kept HOq.out hk), HPX.out.kept HFAR.out hk, rfl, rfl, rfl, rfl, rfl, rfl, rfl, fun q hq A hA => by have := HFAR.out q hq A hA; omega⟩
                  · exact (HOd.out.kept (fun b hb hlt => heap_setCells_far (by omega) hlt)).is
end Go.Proofs.Qxb6619005a
